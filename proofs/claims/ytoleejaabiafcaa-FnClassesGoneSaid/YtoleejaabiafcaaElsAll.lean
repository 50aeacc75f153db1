/- spec.Order. Ascending places, as a list of numbers. laws.elements. -/
import Derived.Test.YtoleejaabiafcaaInts
import Derived.Test.YtoleejaabiafcaaPtrAll
import Derived.Test.YtoleejaabiafcaaRightAll
import Derived.Test.YtoleejaabiafcaaSelBase
import Derived.Deep.QuietTactic
import Derived.BigQuiet
namespace Go.Proofs.Ytoleejaabiafcaa
open Go.RowKit
set_option linter.unusedVariables false
set_option linter.unusedSimpArgs false

/-- Ascending places below len, up to n. -/
def OrderTo (len : Nat) (zs : List Int) (n : Nat) : Prop := ∀ i, i < n → 0 ≤ zs.getD i 0 ∧ zs.getD i 0 < len ∧ (0 < i → zs.getD (i - 1) 0 < zs.getD i 0)

theorem OrderTo.succ {len : Nat} {zs : List Int} {n : Nat} (h : OrderTo len zs n) (h1 : 0 ≤ zs.getD n 0) (h2 : zs.getD n 0 < len) (h3 : 0 < n → zs.getD (n - 1) 0 < zs.getD n 0) : OrderTo len zs (n + 1) := fun i hi => by
  by_cases e : i = n
  · subst e; exact ⟨h1, h2, h3⟩
  · exact h i (by omega)

set_option maxRecDepth 100000 in
set_option maxHeartbeats 2000000 in
theorem order_any (t : Option Addr) (len cap : Nat) (a : Option Addr) (n ncap : Nat) (zs : List Int) (w : World) (h : Ints w a n zs) :
    Calls Try.prog 41 #[.slice t len cap, .slice a n ncap] w (SomeBoolB (fun b => b = true → OrderTo len zs n) w) := by
  obtain ⟨hl, hm, b, off, ha, hc⟩ := h.open
  have HA := Lib.hid ha
  have HC := Lib.hid hc
  clear h ha hc
  go_enter Try.func41, Try.ntmps41
  go_wp2
  go_loopw [5] (fun i wr => ∃ k : Nat, k ≤ n ∧ i = .int .i64 (k : Int) ∧ OrderTo len zs k ∧ Below w.heap.size w wr) (fun i _ => n - (intOf i).toNat)
  case atStart => exact ⟨0, by omega, by go_num, fun i hi => by omega, Below.refl _ _⟩
  case round =>
    obtain ⟨k, hk, rfl, ho, hbel⟩ := hrel
    have HBEL := Lib.hid hbel
    clear hbel
    have HO := Lib.hid ho
    clear ho
    by_cases hlt : k < n
    · obtain rfl := HA.out (by omega)
      have ck := cell_below HBEL.out (HC.out k hlt)
      have hkI : (k : Int) < (n : Int) := by omega
      obtain ⟨z, hz⟩ : ∃ z, zs.getD k 0 = z := ⟨_, rfl⟩
      rw [hz] at ck
      have HZ := Lib.hid hz
      clear hz
      by_cases b1 : z < 0
      · have g1 : decide (z < 0) = true := by simp [b1]
        clear b1
        go_wp2
        go_quiet (fail)
        go_wp2
        go_ret
        exact ⟨false, by simp, rfl, below_drewN HBEL.out _⟩
      have g1 : decide (z < 0) = false := by simp [b1]
      by_cases b2 : (len : Int) ≤ z
      · have g2 : decide ((len : Int) ≤ z) = true := by simp [b2]
        clear b1 b2
        go_wp2
        go_quiet (fail)
        go_wp2
        go_ret
        exact ⟨false, by simp, rfl, below_drewN HBEL.out _⟩
      have g2 : decide ((len : Int) ≤ z) = false := by simp [b2]
      have H12 := Lib.hid (And.intro b1 b2)
      clear b1 b2
      cases k with
      | zero =>
        have g3 : decide ((0 : Int) < (0 : Int)) = false := by simp
        rw [Nat.add_zero] at ck
        have hkI0 : (0 : Int) < (n : Int) := hkI
        go_wp2
        go_quiet (fail)
        go_wp2
        go_roundw
        case rel => exact ⟨0 + 1, by omega, by go_num, HO.out.succ (by rw [HZ.out]; have := H12.out; omega) (by rw [HZ.out]; have := H12.out; omega) (fun h => absurd h (Nat.lt_irrefl 0)), below_drewN HBEL.out _⟩
        case measure => simp [intOf]; omega
      | succ k =>
        have cp := cell_below HBEL.out (HC.out k (by omega))
        obtain ⟨y, hy⟩ : ∃ y, zs.getD k 0 = y := ⟨_, rfl⟩
        rw [hy] at cp
        have HY := Lib.hid hy
        clear hy
        have hkI' : ((k + 1 : Nat) : Int) = (k : Int) + 1 := by omega
        rw [hkI'] at *
        have g3 : decide ((0 : Int) < (k : Int) + 1) = true := decide_eq_true (by omega)
        have hpI : (k : Int) < (n : Int) := by omega
        by_cases b4 : z ≤ y
        · have g4 : decide (z ≤ y) = true := by simp [b4]
          clear b4
          go_wp2
          go_quiet (fail)
          go_wp2
          go_ret
          exact ⟨false, by simp, rfl, below_drewN HBEL.out _⟩
        · have g4 : decide (z ≤ y) = false := by simp [b4]
          have H4 := Lib.hid b4
          clear b4
          go_wp2
          go_quiet (fail)
          go_wp2
          go_roundw
          case rel => exact ⟨k + 1 + 1, by omega, by go_num, HO.out.succ (by rw [HZ.out]; have := H12.out; omega) (by rw [HZ.out]; have := H12.out; omega) (fun _ => by
            have := H4.out
            rw [HZ.out]
            simp only [Nat.add_sub_cancel]
            rw [HY.out]; omega), below_drewN HBEL.out _⟩
          case measure => simp [intOf]; omega
    · obtain rfl : k = n := by omega
      go_wp2
      go_ret
      exact ⟨true, fun _ => HO.out, rfl, HBEL.out⟩

end Go.Proofs.Ytoleejaabiafcaa

namespace Go.Proofs.Ytoleejaabiafcaa
open Go.RowKit
set_option linter.unusedVariables false
set_option linter.unusedSimpArgs false

theorem OrderTo.ge {len : Nat} {zs : List Int} {n : Nat} (h : OrderTo len zs n) : ∀ i, i < n → (i : Int) ≤ zs.getD i 0 := by
  intro i
  induction i with
  | zero => intro hi; exact (h 0 hi).1
  | succ i ih =>
    intro hi
    have h1 := ih (by omega)
    have h2 := (h (i + 1) hi).2.2 (by omega)
    simp only [Nat.add_sub_cancel] at h2
    omega

theorem OrderTo.lt {len : Nat} {zs : List Int} {n : Nat} (h : OrderTo len zs n) : ∀ d i, 0 < d → i + d < n → zs.getD i 0 < zs.getD (i + d) 0 := by
  intro d
  induction d with
  | zero => intro i hd; omega
  | succ d ih =>
    intro i _ hi
    have h2 := (h (i + (d + 1)) hi).2.2 (by omega)
    rw [show i + (d + 1) - 1 = i + d by omega] at h2
    by_cases hd : 0 < d
    · have := ih i hd (by omega); omega
    · have : d = 0 := by omega
      subst this
      exact h2

/-- The places as numbers. -/
structure Places (len : Nat) (zs : List Int) (l : List Nat) : Prop where
  eq : zs = l.map (fun (n : Nat) => (n : Int))
  lt : ∀ i ∈ l, i < len
  once : Once l
  le : l.length ≤ len
  up : ∀ i j, i < j → j < l.length → l.getD i 0 < l.getD j 0

theorem OrderTo.places {len : Nat} {zs : List Int} {n : Nat} (h : OrderTo len zs n) (hn : zs.length = n) : ∃ l, Places len zs l := by
  have hget : ∀ i, i < n → (zs.map Int.toNat).getD i 0 = (zs.getD i 0).toNat := fun i hi => by simp [List.getD, show i < zs.length by omega]
  have hup : ∀ i j, i < j → j < n → (zs.getD i 0).toNat < (zs.getD j 0).toNat := fun i j hij hj => by
    have := h.lt (j - i) i (by omega) (by omega)
    rw [show i + (j - i) = j by omega] at this
    have := (h i (by omega)).1
    omega
  refine ⟨zs.map Int.toNat, ?_, fun i hi => ?_, fun i j hi hj he => ?_, ?_, fun i j hij hj => ?_⟩
  · refine List.ext_getElem (by simp) (fun i h1 h2 => ?_)
    have := (h i (by omega)).1
    rw [List.getD_eq_getElem?_getD, List.getElem?_eq_getElem h1] at this
    simp at this ⊢
    omega
  · obtain ⟨k, hk, rfl⟩ := List.getElem_of_mem hi
    have hk' : k < n := by simpa [hn] using hk
    have := hget k hk'
    rw [List.getD_eq_getElem?_getD, List.getElem?_eq_getElem hk] at this
    simp only [Option.getD_some] at this
    rw [this]
    have := (h k hk').2.1
    have := (h k hk').1
    omega
  · have hi' : i < n := by simpa [hn] using hi
    have hj' : j < n := by simpa [hn] using hj
    rw [hget i hi', hget j hj'] at he
    rcases Nat.lt_trichotomy i j with h1 | h1 | h1
    · have := hup i j h1 hj'; omega
    · exact h1
    · have := hup j i h1 hi'; omega
  · simp only [List.length_map, hn]
    by_cases h0 : 0 < n
    · have := h.ge (n - 1) (by omega)
      have := (h (n - 1) (by omega)).2.1
      omega
    · omega
  · have hj' : j < n := by simpa [hn] using hj
    rw [hget i (by omega), hget j hj']
    exact hup i j hij hj'

theorem Places.len {len : Nat} {zs : List Int} {l : List Nat} (h : Places len zs l) : zs.length = l.length := by rw [h.eq]; simp
theorem Places.get {len : Nat} {zs : List Int} {l : List Nat} (h : Places len zs l) {i : Nat} (hi : i < l.length) : zs.getD i 0 = ((l.getD i 0 : Nat) : Int) := by
  rw [h.eq]; simp [List.getD, hi]
theorem Places.reads {len : Nat} {zs : List Int} {l : List Nat} (h : Places len zs l) {w : World} {a : Option Addr} {n cap : Nat} (hw : Ints w a n zs) (h1 : n ≤ cap) (h2 : cap ≤ maxLen) : ReadsAs w (.slice a n cap) (l.map intV) := by
  have hn : n = (l.map intV).length := by
    have := hw.1
    simp at this
    rw [h.len] at this
    simp [this]
  refine ⟨a, cap, by rw [← hn], by omega, h2, ?_⟩
  rw [← hn]
  have : l.map intV = zs.map intZ := by rw [h.eq]; simp [intV, intZ, Function.comp_def]
  rw [this]
  exact hw

end Go.Proofs.Ytoleejaabiafcaa

namespace Go.Proofs.Ytoleejaabiafcaa
open Go.RowKit
set_option linter.unusedVariables false
set_option linter.unusedSimpArgs false

theorem ints_openE {w : World} {v : Value} {l : List Nat} (h : ReadsAs w v (l.map intV)) : ∃ a cap b off, v = .slice a l.length cap ∧ l.length ≤ 9223372036854775807 ∧ (0 < l.length → a = some ⟨b, off, none⟩) ∧ ∀ i, i < l.length → w.cell? ⟨b, off + i, none⟩ = some (.int .i64 ((l.getD i 0 : Nat) : Int)) := by
  obtain ⟨a, cap, rfl, hm⟩ := h.nil
  have hl : (l.map intV).length = l.length := by simp
  rw [hl] at hm h ⊢
  by_cases h0 : 0 < l.length
  · obtain ⟨b, off, cap', he, _, hc⟩ := h.at (by simpa using h0)
    simp at he
    exact ⟨a, cap, b, off, rfl, hm, fun _ => he.1, int_cells hc⟩
  · exact ⟨a, cap, 0, 0, rfl, hm, fun h => absurd h h0, fun i hi => by omega⟩

def QBool (b : Bool) (w : World) (e : Ending) (w' : World) : Prop := e = .returned (.bool b) ∧ w' = w

/-- Whether a number is among the first ones. -/
def anyAt (l : List Nat) (z : Nat) (n : Nat) : Bool := decide (∃ i, i < n ∧ l.getD i 0 = z)

theorem anyAt_yes {l : List Nat} {z n k : Nat} (hk : k < n) (h : l.getD k 0 = z) : anyAt l z n = true := by
  unfold anyAt; exact decide_eq_true ⟨k, hk, h⟩
theorem anyAt_no {l : List Nat} {z n : Nat} (h : ∀ k, k < n → l.getD k 0 ≠ z) : anyAt l z n = false := by
  unfold anyAt; exact decide_eq_false (fun ⟨i, hi, he⟩ => h i hi he)

set_option maxRecDepth 100000 in
set_option maxHeartbeats 1000000 in
theorem isPlaceQ_any (a : Option Addr) (n cap : Nat) (b off : Nat) (l : List Nat) (z : Nat) (w : World) (ha : 0 < n → a = some ⟨b, off, none⟩) (hn : n ≤ 9223372036854775807) (hc : ∀ i, i < n → w.cell? ⟨b, off + i, none⟩ = some (.int .i64 ((l.getD i 0 : Nat) : Int))) :
    Calls Try.prog 18 #[.slice a n cap, .int .i64 (z : Int)] w (QBool (anyAt l z n) w) := by
  have HA := Lib.hid ha
  have HC := Lib.hid hc
  clear ha hc
  go_enter Try.func18, Try.ntmps18
  go_wp2
  go_loop [5] (fun i => ∃ k : Nat, k ≤ n ∧ i = .int .i64 (k : Int) ∧ ∀ j, j < k → l.getD j 0 ≠ z) (fun i => n - (intOf i).toNat)
  case atStart => exact ⟨0, by omega, by go_num, fun j hj => by omega⟩
  case round =>
    obtain ⟨k, hk, rfl, hd⟩ := hrel
    have HD := Lib.hid hd
    clear hd
    by_cases hlt : k < n
    · obtain rfl := HA.out (by omega)
      have ck := HC.out k hlt
      obtain ⟨x, hx⟩ : ∃ x, l.getD k 0 = x := ⟨_, rfl⟩
      rw [hx] at ck
      have hkI : (k : Int) < (n : Int) := by omega
      by_cases he : x = z
      · subst he
        have HQ := Lib.hid (anyAt_yes hlt hx)
        clear hx
        go_wp2
        go_ret
        rw [HQ.out]
        exact ⟨rfl, rfl⟩
      · have g : ((x : Int) == (z : Int)) = false := by simp; omega
        have HX := Lib.hid (And.intro hx he)
        clear hx he
        go_wp2
        go_round
        case rel => exact ⟨k + 1, by omega, by go_num, fun j hj => by
            by_cases e : j = k
            · subst e; rw [HX.out.1]; exact HX.out.2
            · exact HD.out j (by omega)⟩
        case measure => simp [intOf]; omega
    · obtain rfl : k = n := by omega
      have HQ := Lib.hid (anyAt_no HD.out)
      clear hlt HD
      go_wp2
      go_ret
      rw [HQ.out]
      exact ⟨rfl, rfl⟩

set_option maxRecDepth 100000 in
set_option maxHeartbeats 2000000 in
theorem elementsOk_any (t : Option Addr) (len tcap : Nat) (ts : List NodeD) (v : Value) (l : List Nat) (w : World) (hN : Nodes w t len ts) (h : ReadsAs w v (l.map intV)) (hin : ∀ i ∈ l, i < len) :
    Calls Try.prog 42 #[.slice t len tcap, v] w (SomeBoolB (fun b => b = true → ∀ i ∈ l, kd ts i = 3) w) := by
  have hcap : ∃ a cap, v = .slice a l.length cap ∧ l.length ≤ cap ∧ cap ≤ maxLen := by
    obtain ⟨a, cap, h1, h2, h3, _⟩ := h
    rw [List.length_map] at h1 h2
    exact ⟨a, cap, h1, h2, h3⟩
  obtain ⟨a0, cap0, hv, hcap0, hcap1⟩ := hcap
  obtain ⟨a, cap, b, off, hv2, hm, ha, hc⟩ := ints_openE h
  rw [hv] at hv2
  cases hv2
  subst hv
  have HA := Lib.hid ha
  have HC := Lib.hid hc
  have HIN := Lib.hid hin
  have HN := Lib.hid hN
  unfold maxLen at hcap1
  clear h ha hc hin hN
  go_enter Try.func42, Try.ntmps42
  go_wp2
  go_loopw [5] (fun i wr => ∃ k : Nat, k ≤ l.length ∧ i = .int .i64 (k : Int) ∧ (∀ j, j < k → kd ts (l.getD j 0) = 3) ∧ ∃ d, wr = w.drewN d) (fun i _ => l.length - (intOf i).toNat)
  case atStart => exact ⟨0, by omega, by go_num, fun j hj => by omega, 0, rfl⟩
  case round =>
    obtain ⟨k, hk, rfl, hks, d, rfl⟩ := hrel
    have HKS := Lib.hid hks
    clear hks
    by_cases hlt : k < l.length
    · obtain rfl := HA.out (by omega)
      have ck := HC.out k hlt
      have hxl := HIN.out _ (getD_mem' (d := 0) hlt)
      obtain ⟨x, hx⟩ : ∃ x, l.getD k 0 = x := ⟨_, rfl⟩
      rw [hx] at ck hxl
      obtain ⟨tb, toff, rfl, hnc⟩ := HN.out.at (by omega)
      have ckd := (hnc x hxl).kind
      obtain ⟨qk, hqk⟩ : ∃ q, (ts.getD x default).kind = q := ⟨_, rfl⟩
      rw [hqk] at ckd
      have hkI : (k : Int) < (l.length : Int) := by omega
      have hkcI : (k : Int) ≤ (cap0 : Int) := by omega
      have hxI : (x : Int) < (len : Int) := by omega
      have g1 : decide ((x : Int) < 0) = false := by simp
      have g2 : decide ((len : Int) ≤ (x : Int)) = false := by simp; omega
      have g2n : decide (len ≤ x) = false := by simp; omega
      obtain ⟨wz, hwz⟩ : ∃ wz, w.drewN d = wz := ⟨_, rfl⟩
      have ck' : wz.cell? ⟨b, off + k, none⟩ = some (.int .i64 (x : Int)) := by rw [← hwz]; simpa using ck
      have ckd' : wz.cell? ⟨tb, toff + x * 5, none⟩ = some (.int .i64 qk) := by rw [← hwz]; simpa using ckd
      have hpl : Hid (∀ q, Calls Try.prog 18 #[.slice (some ⟨b, off, none⟩) k cap0, .int .i64 (x : Int)] (wz.drewN q) (QBool (anyAt l x k) (wz.drewN q))) := Lib.hid (fun q =>
        isPlaceQ_any _ k cap0 b off l x _ (fun _ => rfl) (by omega) (fun i hi => by rw [← hwz]; simpa using HC.out i (by omega)))
      have HW := Lib.hid hwz
      rw [hwz]
      have HXK := Lib.hid (And.intro hx hqk)
      clear ck ckd hx hqk hnc hwz
      by_cases h3 : qk = 3
      · subst h3
        obtain ⟨z, hz⟩ : ∃ z, anyAt l x k = z := ⟨_, rfl⟩
        rw [hz] at hpl
        clear hz
        cases z
        · go_wp2
          go_quiet (exact Calls.quiet_of_same (hpl.out _))
          go_wp2
          go_roundw
          case rel => exact ⟨k + 1, by omega, by go_num, fun j hj => by
            by_cases e : j = k
            · subst e; rw [HXK.out.1]; exact HXK.out.2
            · exact HKS.out j (by omega), d + nq, by rw [← HW.out]; first | rfl | simp [World.drewN_add] | (rw [World.drewN_drewN])⟩
          case measure => simp [intOf]; omega
        · go_wp2
          go_quiet (exact Calls.quiet_of_same (hpl.out _))
          go_wp2
          go_ret
          exact ⟨false, by simp, rfl, below_drewN (by rw [← HW.out]; exact below_drewN (Below.refl _ _) _) _⟩
      · have g3 : (qk == 3) = false := by simp [h3]
        have g4 : (qk != 3) = true := by simp [h3]
        clear h3
        go_wp2
        go_quiet (fail)
        go_wp2
        go_ret
        exact ⟨false, by simp, rfl, below_drewN (by rw [← HW.out]; exact below_drewN (Below.refl _ _) _) _⟩
    · obtain rfl : k = l.length := by omega
      clear hlt
      go_wp2
      go_ret
      exact ⟨true, fun _ i hi => by
        obtain ⟨j, hj, rfl⟩ := List.getElem_of_mem hi
        have := HKS.out j hj
        rwa [show l.getD j 0 = l[j] by simp [List.getD, hj]] at this, rfl, below_drewN (Below.refl _ _) _⟩

end Go.Proofs.Ytoleejaabiafcaa

