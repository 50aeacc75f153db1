/- laws.isPlace, laws.elements, laws.rising. laws.rising, with the kinds of the places. -/
import Derived.Test.YtphppdbhofeagaaGreatRightAll
import Derived.Test.YtphppdbhofeagaaGreatPlaceAll
import Derived.Test.YtphppdbhofeagaaGreatPlacesOf
import Derived.Deep.QuietTactic
import Derived.BigQuiet
import Derived.Test.YtphppdbhofeagaaGreatFits
import Derived.Test.YtphppdbhofeagaaGreatOnce
import Derived.BigGuardPart
namespace Go.Proofs.YtphppdbhofeagaaGreat
open Go.RowKit
set_option linter.unusedVariables false
set_option linter.unusedSimpArgs false

def QBool (b : Bool) (w : World) (e : Ending) (w' : World) : Prop := e = .returned (.bool b) ∧ w' = w

/-- Whether a number is among the first ones. -/
def anyAt (l : List Nat) (z : Nat) (n : Nat) : Bool := decide (∃ i, i < n ∧ l.getD i 0 = z)

theorem anyAt_yes {l : List Nat} {z n k : Nat} (hk : k < n) (h : l.getD k 0 = z) : anyAt l z n = true := by
  unfold anyAt; exact decide_eq_true ⟨k, hk, h⟩
theorem anyAt_no {l : List Nat} {z n : Nat} (h : ∀ k, k < n → l.getD k 0 ≠ z) : anyAt l z n = false := by
  unfold anyAt; exact decide_eq_false (fun ⟨i, hi, he⟩ => h i hi he)

set_option maxRecDepth 100000 in
set_option maxHeartbeats 1000000 in
theorem isPlace_any (a : Option Addr) (n cap : Nat) (b off : Nat) (l : List Nat) (z : Nat) (w : World) (ha : 0 < n → a = some ⟨b, off, none⟩) (hn : n ≤ 9223372036854775807) (hc : ∀ i, i < n → w.cell? ⟨b, off + i, none⟩ = some (.int .i64 ((l.getD i 0 : Nat) : Int))) :
    Calls Tryz.prog 24 #[.slice a n cap, .int .i64 (z : Int)] w (QBool (anyAt l z n) w) := by
  have HA := Lib.hid ha
  have HC := Lib.hid hc
  clear ha hc
  go_enter Tryz.func24, Tryz.ntmps24
  go_wp2
  go_loop [5] (fun i => ∃ k : Nat, k ≤ n ∧ i = .int .i64 (k : Int) ∧ ∀ j, j < k → l.getD j 0 ≠ z) (fun i => n - (intOf i).toNat)
  case atStart => exact ⟨0, by omega, by go_num, fun j hj => by omega⟩
  case round =>
    obtain ⟨k, hk, rfl, hd⟩ := hrel
    have HD := Lib.hid hd
    clear hd
    by_cases hlt : k < n
    · obtain rfl := HA.out (by omega)
      have ck := HC.out k hlt
      obtain ⟨x, hx⟩ : ∃ x, l.getD k 0 = x := ⟨_, rfl⟩
      rw [hx] at ck
      have hkI : (k : Int) < (n : Int) := by omega
      by_cases he : x = z
      · subst he
        have HQ := Lib.hid (anyAt_yes hlt hx)
        clear hx
        go_wp2
        go_ret
        rw [HQ.out]
        exact ⟨rfl, rfl⟩
      · have g : ((x : Int) == (z : Int)) = false := by simp; omega
        have HX := Lib.hid (And.intro hx he)
        clear hx he
        go_wp2
        go_round
        case rel => exact ⟨k + 1, by omega, by go_num, fun j hj => by
            by_cases e : j = k
            · subst e; rw [HX.out.1]; exact HX.out.2
            · exact HD.out j (by omega)⟩
        case measure => simp [intOf]; omega
    · obtain rfl : k = n := by omega
      have HQ := Lib.hid (anyAt_no HD.out)
      clear hlt HD
      go_wp2
      go_ret
      rw [HQ.out]
      exact ⟨rfl, rfl⟩

set_option maxRecDepth 100000 in
set_option maxHeartbeats 2000000 in
theorem elementsOk_any (t : Option Addr) (len tcap : Nat) (ts : List NodeD) (v : Value) (l : List Nat) (w : World) (hN : Nodes w t len ts) (h : ReadsAs w v (l.map intV)) (hin : ∀ i ∈ l, i < len) :
    Calls Tryz.prog 13 #[.slice t len tcap, v] w (SomeBoolB (fun b => b = true → ∀ i ∈ l, kd ts i = 3) w) := by
  have hcap : ∃ a cap, v = .slice a l.length cap ∧ l.length ≤ cap ∧ cap ≤ maxLen := by
    obtain ⟨a, cap, h1, h2, h3, _⟩ := h
    rw [List.length_map] at h1 h2
    exact ⟨a, cap, h1, h2, h3⟩
  obtain ⟨a0, cap0, hv, hcap0, hcap1⟩ := hcap
  obtain ⟨a, cap, b, off, hv2, hm, ha, hc⟩ := ints_open h
  rw [hv] at hv2
  cases hv2
  subst hv
  have HA := Lib.hid ha
  have HC := Lib.hid hc
  have HIN := Lib.hid hin
  have HN := Lib.hid hN
  unfold maxLen at hcap1
  clear h ha hc hin hN
  go_enter Tryz.func13, Tryz.ntmps13
  go_wp2
  go_loopw [5] (fun i wr => ∃ k : Nat, k ≤ l.length ∧ i = .int .i64 (k : Int) ∧ (∀ j, j < k → kd ts (l.getD j 0) = 3) ∧ ∃ d, wr = w.drewN d) (fun i _ => l.length - (intOf i).toNat)
  case atStart => exact ⟨0, by omega, by go_num, fun j hj => by omega, 0, rfl⟩
  case round =>
    obtain ⟨k, hk, rfl, hks, d, rfl⟩ := hrel
    have HKS := Lib.hid hks
    clear hks
    by_cases hlt : k < l.length
    · obtain rfl := HA.out (by omega)
      have ck := HC.out k hlt
      have hxl := HIN.out _ (getD_mem' (d := 0) hlt)
      obtain ⟨x, hx⟩ : ∃ x, l.getD k 0 = x := ⟨_, rfl⟩
      rw [hx] at ck hxl
      obtain ⟨tb, toff, rfl, hnc⟩ := HN.out.at (by omega)
      have ckd := (hnc x hxl).kind
      obtain ⟨qk, hqk⟩ : ∃ q, (ts.getD x default).kind = q := ⟨_, rfl⟩
      rw [hqk] at ckd
      have hkI : (k : Int) < (l.length : Int) := by omega
      have hkcI : (k : Int) ≤ (cap0 : Int) := by omega
      have hxI : (x : Int) < (len : Int) := by omega
      have g1 : decide ((x : Int) < 0) = false := by simp
      have g2 : decide ((len : Int) ≤ (x : Int)) = false := by simp; omega
      have g2n : decide (len ≤ x) = false := by simp; omega
      obtain ⟨wz, hwz⟩ : ∃ wz, w.drewN d = wz := ⟨_, rfl⟩
      have ck' : wz.cell? ⟨b, off + k, none⟩ = some (.int .i64 (x : Int)) := by rw [← hwz]; simpa using ck
      have ckd' : wz.cell? ⟨tb, toff + x * 5, none⟩ = some (.int .i64 qk) := by rw [← hwz]; simpa using ckd
      have hpl : Hid (∀ q, Calls Tryz.prog 24 #[.slice (some ⟨b, off, none⟩) k cap0, .int .i64 (x : Int)] (wz.drewN q) (QBool (anyAt l x k) (wz.drewN q))) := Lib.hid (fun q =>
        isPlace_any _ k cap0 b off l x _ (fun _ => rfl) (by omega) (fun i hi => by rw [← hwz]; simpa using HC.out i (by omega)))
      have HW := Lib.hid hwz
      rw [hwz]
      have HXK := Lib.hid (And.intro hx hqk)
      clear ck ckd hx hqk hnc hwz
      by_cases h3 : qk = 3
      · subst h3
        obtain ⟨z, hz⟩ : ∃ z, anyAt l x k = z := ⟨_, rfl⟩
        rw [hz] at hpl
        clear hz
        cases z
        · go_wp2
          go_quiet (exact Calls.quiet_of_same (hpl.out _))
          go_wp2
          go_roundw
          case rel => exact ⟨k + 1, by omega, by go_num, fun j hj => by
            by_cases e : j = k
            · subst e; rw [HXK.out.1]; exact HXK.out.2
            · exact HKS.out j (by omega), d + nq, by rw [← HW.out]; first | rfl | simp [World.drewN_add] | (rw [World.drewN_drewN])⟩
          case measure => simp [intOf]; omega
        · go_wp2
          go_quiet (exact Calls.quiet_of_same (hpl.out _))
          go_wp2
          go_ret
          exact ⟨false, by simp, rfl, below_drewN (by rw [← HW.out]; exact below_drewN (Below.refl _ _) _) _⟩
      · have g3 : (qk == 3) = false := by simp [h3]
        have g4 : (qk != 3) = true := by simp [h3]
        clear h3
        go_wp2
        go_quiet (fail)
        go_wp2
        go_ret
        exact ⟨false, by simp, rfl, below_drewN (by rw [← HW.out]; exact below_drewN (Below.refl _ _) _) _⟩
    · obtain rfl : k = l.length := by omega
      clear hlt
      go_wp2
      go_ret
      exact ⟨true, fun _ i hi => by
        obtain ⟨j, hj, rfl⟩ := List.getElem_of_mem hi
        have := HKS.out j hj
        rwa [show l.getD j 0 = l[j] by simp [List.getD, hj]] at this, rfl, below_drewN (Below.refl _ _) _⟩

end Go.Proofs.YtphppdbhofeagaaGreat

namespace Go.Proofs.YtphppdbhofeagaaGreat
open Go.RowKit
set_option linter.unusedVariables false
set_option linter.unusedSimpArgs false

def Rising3Says (ts : List NodeD) (len : Nat) (zs : List Int) (b : Bool) : Prop := b = true → RightT ts len ∧ ∃ l, Places len zs l ∧ ∀ i ∈ l, kd ts i = 3

set_option maxRecDepth 100000 in
set_option maxHeartbeats 1000000 in
theorem rising3_any (a : Option Addr) (len cap : Nat) (ts : List NodeD) (a1 : Option Addr) (n1 c1 : Nat) (z1 : List Int) (w : World) (hN : Nodes w a len ts) (h1 : Ints w a1 n1 z1 ∧ n1 ≤ c1 ∧ c1 ≤ maxLen) :
    Calls Tryz.prog 6 #[.slice a len cap, .slice a1 n1 c1] w (SomeBoolB (Rising3Says ts len z1) w) := by
  have HN := Lib.hid hN
  have H1 := Lib.hid h1
  clear hN h1
  go_enter Tryz.func6, Tryz.ntmps6
  go_wp2_with fail
  refine (right_any a len cap ts w HN.out).mono ?_
  rintro e w2 ⟨b2, hb2, rfl, hbel2⟩
  have HB2 := Lib.hid hbel2
  clear hbel2
  cases b2
  · go_wp2
    go_ret
    exact ⟨false, by simp [Rising3Says], rfl, HB2.out⟩
  have HR := Lib.hid (hb2 rfl)
  clear hb2
  go_wp2_with fail
  refine (order_any a len cap a1 n1 c1 z1 w2 (H1.out.1.below HB2.out)).mono ?_
  rintro e w3 ⟨b3, hb3, rfl, hbel3⟩
  have HB3 := Lib.hid (HB2.out.trans (hbel3.mono HB2.out.size))
  clear hbel3 HB2
  cases b3
  · go_wp2
    go_ret
    exact ⟨false, by simp [Rising3Says], rfl, HB3.out⟩
  obtain ⟨l1, hp1⟩ := (hb3 rfl).places H1.out.1.open.1
  have HP1 := Lib.hid hp1
  have hel := elementsOk_any a len cap ts (.slice a1 n1 c1) l1 w3 (HN.out.below HB3.out) (hp1.reads (H1.out.1.below HB3.out) H1.out.2.1 H1.out.2.2) hp1.lt
  have HEL := Lib.hid hel
  clear hb3 hp1 hel
  go_wp2_with fail
  refine HEL.out.mono ?_
  rintro e w4 ⟨b4, hk4, rfl, hbel4⟩
  have HB4 := Lib.hid (HB3.out.trans (hbel4.mono HB3.out.size))
  have HK4 := Lib.hid hk4
  clear hbel4 HB3 HEL hk4
  go_wp2
  go_ret
  exact ⟨b4, fun hb => ⟨HR.out, l1, HP1.out, HK4.out hb⟩, rfl, HB4.out⟩


theorem once_single {F : Nat → List Nat} {x : Nat} (h : Once (F x)) : onceF ([x].flatMap F) = F x := by
  simp only [List.flatMap_cons, List.flatMap_nil, List.append_nil]
  exact onceF_of_once h

theorem ints_one {w : World} {g : Nat} {z : Int} (h : w.cell? ⟨g, 0, none⟩ = some (.int .i64 z)) : Ints w (some ⟨g, 0, none⟩) 1 [z] :=
  ⟨rfl, by unfold maxLen; omega, fun _ => ⟨g, 0, rfl, fun i hi => by
    obtain rfl : i = 0 := by omega
    simpa [intZ] using h⟩⟩

/-- One place, that is asked as a slice. -/
theorem one_place {ts : List NodeD} {len : Nat} {z : Int} {b : Bool} (h : Rising3Says ts len [z] b) (hb : b = true) : RightT ts len ∧ ∃ x : Nat, z = (x : Int) ∧ x < len ∧ kd ts x = 3 ∧ 0 < x := by
  obtain ⟨hR, l, hp, hk⟩ := h hb
  have he := hp.eq
  match l, he with
  | [x], he =>
    simp at he
    have h3 := hk x (by simp)
    refine ⟨hR, x, he, hp.lt x (by simp), h3, ?_⟩
    rcases Nat.eq_zero_or_pos x with h0 | h0
    · subst h0
      rw [hR.kind] at h3
      omega
    · exact h0

theorem reads_one {w : World} {g : Nat} {x : Nat} {c : Nat} (h : w.cell? ⟨g, 0, none⟩ = some (.int .i64 (x : Int))) (hc : 1 ≤ c) (hc2 : c ≤ maxLen) : ReadsAs w (.slice (some ⟨g, 0, none⟩) 1 c) ([x].map intV) :=
  ⟨some ⟨g, 0, none⟩, c, rfl, hc, hc2, rfl, by simp [maxLen], fun _ => ⟨g, 0, rfl, fun i hi => by
    have : i = 0 := by simp at hi; omega
    subst this
    simpa [intV] using h⟩⟩

end Go.Proofs.YtphppdbhofeagaaGreat

