/- The law's beside7: the kids of a node's parent, which of them it is. -/
import Derived.Test.YtoleejaabiafcaaLawIns
namespace Go.Proofs.Ytoleejaabiafcaa
open Go.RowKit
set_option linter.unusedVariables false
set_option linter.unusedSimpArgs false

def Beside7Post (l : List Nat) (j : Nat) (w : World) (e : Ending) (w' : World) : Prop := ∃ v, e = .returned (.tuple #[v, .int .i64 (j : Int)]) ∧ Hid (OwnInts w' w.heap.size v l) ∧ Hid (Below w.heap.size w w')

theorem kids_nodup {z : Nat → Nat} {n p : Nat} (hz : Nest z n) (hp : p < n) : (kids z p).Nodup := by rw [kids_lb hz hp]; exact lb_nodup n

set_option maxRecDepth 100000 in
set_option maxHeartbeats 2000000 in
theorem beside7_any (a : Option Addr) (len cap : Nat) (ts : List NodeD) (q P : Nat) (w : World) (hN : Nodes w a len ts) (hS : ShapedT ts len) (hlen : len ≤ 200) (hq : q < len) (hpar : par (sz ts) q = some P) (j0 : Nat) (hj : j0 < (kids (sz ts) P).length) (hjq : (kids (sz ts) P).getD j0 0 = q) :
    Calls Try.prog 26 #[.slice a len cap, .int .i64 (q : Int)] w (Beside7Post (kids (sz ts) P) j0 w) := by
  have hP : P < len := by have := (par_some hpar).1; omega
  have hpa := parent_any a len cap ts q w hN hS.sz hS.nest.fit hq
  rw [hpar] at hpa
  have hk := kids_any a len cap ts P w hN hS.sz hS.nest.fit hP hlen
  have hne : ∀ i, i < j0 → (kids (sz ts) P).getD i 0 ≠ q := fun i hi e => by
    have h1 := kids_nodup hS.nest hP
    rw [← hjq] at e
    simp only [List.getD_eq_getElem?_getD, List.getElem?_eq_getElem hj, List.getElem?_eq_getElem (show i < (kids (sz ts) P).length by omega), Option.getD_some] at e
    have := (List.getElem_inj h1).1 e
    omega
  obtain ⟨K, hK⟩ : ∃ K, kids (sz ts) P = K := ⟨_, rfl⟩
  rw [hK] at hk hj hjq hne ⊢
  have HPA := Lib.hid (show Calls Try.prog 19 #[.slice a len cap, .int .i64 (q : Int)] w (fun e w' => e = .returned (.int .i64 (P : Int)) ∧ w = w') from hpa)
  have HK := Lib.hid hk
  have HNE := Lib.hid hne
  have HJQ := Lib.hid hjq
  clear hpa hk hne hjq hK hN hS hpar
  go_enter Try.func26, Try.ntmps26
  go_wp2_with fail
  refine HPA.out.mono ?_
  rintro e w1 ⟨rfl, rfl⟩
  clear HPA
  go_wp2_with fail
  refine HK.out.mono ?_
  rintro e w2 ⟨kv, rfl, hkv, hb2⟩
  obtain ⟨ka, kc, rfl, hki⟩ := ownInts_ints hkv
  obtain ⟨_, hkm, kb, koff, hka, hkc⟩ := hki.open
  obtain rfl := hka (by omega)
  have HKC := Lib.hid hkc
  have HKV := Lib.hid (And.intro hkv hb2)
  clear hkv hb2 hki hka hkc HK
  go_wp2
  go_loop [7] (fun iv => ∃ i : Nat, i ≤ j0 ∧ iv = .int .i64 (i : Int)) (fun iv => j0 - (intOf iv).toNat)
  case atStart => exact ⟨0, by omega, by go_num⟩
  case round =>
    obtain ⟨i, hi, rfl⟩ := hrel
    have hiI : (i : Int) < (K.length : Int) := by omega
    have ci := HKC.out i (by omega)
    rw [map_get (by omega)] at ci
    obtain ⟨y, hy⟩ : ∃ y, K.getD i 0 = y := ⟨_, rfl⟩
    rw [hy] at ci
    by_cases hlt : i < j0
    · have hyq : y ≠ q := by rw [← hy]; exact HNE.out i hlt
      have ge : ((y : Int) != (q : Int)) = true := by simp; omega
      clear hyq hy
      go_wp2
      go_round
      case rel => exact ⟨i + 1, by omega, by go_num⟩
      case measure => simp [intOf]; omega
    · obtain rfl : i = j0 := by omega
      have hyq : y = q := by rw [← hy]; exact HJQ.out
      subst hyq
      have ge : ((y : Int) != (y : Int)) = false := by simp
      clear hy
      go_wp2
      go_ret2
      exact ⟨_, rfl, Lib.hid HKV.out.1, Lib.hid HKV.out.2⟩

end Go.Proofs.Ytoleejaabiafcaa
