/- spec.Order. Ascending places, as a list of numbers. -/
import Derived.Test.YtphppdbhofeagaaGreatInts
import Derived.Test.YtphppdbhofeagaaGreatPtrAll
namespace Go.Proofs.YtphppdbhofeagaaGreat
open Go.RowKit
set_option linter.unusedVariables false
set_option linter.unusedSimpArgs false

/-- Ascending places below len, up to n. -/
def OrderTo (len : Nat) (zs : List Int) (n : Nat) : Prop := ∀ i, i < n → 0 ≤ zs.getD i 0 ∧ zs.getD i 0 < len ∧ (0 < i → zs.getD (i - 1) 0 < zs.getD i 0)

theorem OrderTo.succ {len : Nat} {zs : List Int} {n : Nat} (h : OrderTo len zs n) (h1 : 0 ≤ zs.getD n 0) (h2 : zs.getD n 0 < len) (h3 : 0 < n → zs.getD (n - 1) 0 < zs.getD n 0) : OrderTo len zs (n + 1) := fun i hi => by
  by_cases e : i = n
  · subst e; exact ⟨h1, h2, h3⟩
  · exact h i (by omega)

set_option maxRecDepth 100000 in
set_option maxHeartbeats 2000000 in
theorem order_any (t : Option Addr) (len cap : Nat) (a : Option Addr) (n ncap : Nat) (zs : List Int) (w : World) (h : Ints w a n zs) :
    Calls Tryz.prog 12 #[.slice t len cap, .slice a n ncap] w (SomeBoolB (fun b => b = true → OrderTo len zs n) w) := by
  obtain ⟨hl, hm, b, off, ha, hc⟩ := h.open
  have HA := Lib.hid ha
  have HC := Lib.hid hc
  clear h ha hc
  go_enter Tryz.func12, Tryz.ntmps12
  go_wp2
  go_loopw [5] (fun i wr => ∃ k : Nat, k ≤ n ∧ i = .int .i64 (k : Int) ∧ OrderTo len zs k ∧ Below w.heap.size w wr) (fun i _ => n - (intOf i).toNat)
  case atStart => exact ⟨0, by omega, by go_num, fun i hi => by omega, Below.refl _ _⟩
  case round =>
    obtain ⟨k, hk, rfl, ho, hbel⟩ := hrel
    have HBEL := Lib.hid hbel
    clear hbel
    have HO := Lib.hid ho
    clear ho
    by_cases hlt : k < n
    · obtain rfl := HA.out (by omega)
      have ck := cell_below HBEL.out (HC.out k hlt)
      have hkI : (k : Int) < (n : Int) := by omega
      obtain ⟨z, hz⟩ : ∃ z, zs.getD k 0 = z := ⟨_, rfl⟩
      rw [hz] at ck
      have HZ := Lib.hid hz
      clear hz
      by_cases b1 : z < 0
      · have g1 : decide (z < 0) = true := by simp [b1]
        clear b1
        go_wp2
        go_quiet (fail)
        go_wp2
        go_ret
        exact ⟨false, by simp, rfl, below_drewN HBEL.out _⟩
      have g1 : decide (z < 0) = false := by simp [b1]
      by_cases b2 : (len : Int) ≤ z
      · have g2 : decide ((len : Int) ≤ z) = true := by simp [b2]
        clear b1 b2
        go_wp2
        go_quiet (fail)
        go_wp2
        go_ret
        exact ⟨false, by simp, rfl, below_drewN HBEL.out _⟩
      have g2 : decide ((len : Int) ≤ z) = false := by simp [b2]
      have H12 := Lib.hid (And.intro b1 b2)
      clear b1 b2
      cases k with
      | zero =>
        have g3 : decide ((0 : Int) < (0 : Int)) = false := by simp
        rw [Nat.add_zero] at ck
        have hkI0 : (0 : Int) < (n : Int) := hkI
        go_wp2
        go_quiet (fail)
        go_wp2
        go_roundw
        case rel => exact ⟨0 + 1, by omega, by go_num, HO.out.succ (by rw [HZ.out]; have := H12.out; omega) (by rw [HZ.out]; have := H12.out; omega) (fun h => absurd h (Nat.lt_irrefl 0)), below_drewN HBEL.out _⟩
        case measure => simp [intOf]; omega
      | succ k =>
        have cp := cell_below HBEL.out (HC.out k (by omega))
        obtain ⟨y, hy⟩ : ∃ y, zs.getD k 0 = y := ⟨_, rfl⟩
        rw [hy] at cp
        have HY := Lib.hid hy
        clear hy
        have hkI' : ((k + 1 : Nat) : Int) = (k : Int) + 1 := by omega
        rw [hkI'] at *
        have g3 : decide ((0 : Int) < (k : Int) + 1) = true := decide_eq_true (by omega)
        have hpI : (k : Int) < (n : Int) := by omega
        by_cases b4 : z ≤ y
        · have g4 : decide (z ≤ y) = true := by simp [b4]
          clear b4
          go_wp2
          go_quiet (fail)
          go_wp2
          go_ret
          exact ⟨false, by simp, rfl, below_drewN HBEL.out _⟩
        · have g4 : decide (z ≤ y) = false := by simp [b4]
          have H4 := Lib.hid b4
          clear b4
          go_wp2
          go_quiet (fail)
          go_wp2
          go_roundw
          case rel => exact ⟨k + 1 + 1, by omega, by go_num, HO.out.succ (by rw [HZ.out]; have := H12.out; omega) (by rw [HZ.out]; have := H12.out; omega) (fun _ => by
            have := H4.out
            rw [HZ.out]
            simp only [Nat.add_sub_cancel]
            rw [HY.out]; omega), below_drewN HBEL.out _⟩
          case measure => simp [intOf]; omega
    · obtain rfl : k = n := by omega
      go_wp2
      go_ret
      exact ⟨true, fun _ => HO.out, rfl, HBEL.out⟩

end Go.Proofs.YtphppdbhofeagaaGreat

namespace Go.Proofs.YtphppdbhofeagaaGreat
open Go.RowKit
set_option linter.unusedVariables false
set_option linter.unusedSimpArgs false

theorem OrderTo.ge {len : Nat} {zs : List Int} {n : Nat} (h : OrderTo len zs n) : ∀ i, i < n → (i : Int) ≤ zs.getD i 0 := by
  intro i
  induction i with
  | zero => intro hi; exact (h 0 hi).1
  | succ i ih =>
    intro hi
    have h1 := ih (by omega)
    have h2 := (h (i + 1) hi).2.2 (by omega)
    simp only [Nat.add_sub_cancel] at h2
    omega

theorem OrderTo.lt {len : Nat} {zs : List Int} {n : Nat} (h : OrderTo len zs n) : ∀ d i, 0 < d → i + d < n → zs.getD i 0 < zs.getD (i + d) 0 := by
  intro d
  induction d with
  | zero => intro i hd; omega
  | succ d ih =>
    intro i _ hi
    have h2 := (h (i + (d + 1)) hi).2.2 (by omega)
    rw [show i + (d + 1) - 1 = i + d by omega] at h2
    by_cases hd : 0 < d
    · have := ih i hd (by omega); omega
    · have : d = 0 := by omega
      subst this
      exact h2

/-- The places as numbers. -/
structure Places (len : Nat) (zs : List Int) (l : List Nat) : Prop where
  eq : zs = l.map (fun (n : Nat) => (n : Int))
  lt : ∀ i ∈ l, i < len
  once : Once l
  le : l.length ≤ len
  up : ∀ i j, i < j → j < l.length → l.getD i 0 < l.getD j 0

theorem OrderTo.places {len : Nat} {zs : List Int} {n : Nat} (h : OrderTo len zs n) (hn : zs.length = n) : ∃ l, Places len zs l := by
  have hget : ∀ i, i < n → (zs.map Int.toNat).getD i 0 = (zs.getD i 0).toNat := fun i hi => by simp [List.getD, show i < zs.length by omega]
  have hup : ∀ i j, i < j → j < n → (zs.getD i 0).toNat < (zs.getD j 0).toNat := fun i j hij hj => by
    have := h.lt (j - i) i (by omega) (by omega)
    rw [show i + (j - i) = j by omega] at this
    have := (h i (by omega)).1
    omega
  refine ⟨zs.map Int.toNat, ?_, fun i hi => ?_, fun i j hi hj he => ?_, ?_, fun i j hij hj => ?_⟩
  · refine List.ext_getElem (by simp) (fun i h1 h2 => ?_)
    have := (h i (by omega)).1
    rw [List.getD_eq_getElem?_getD, List.getElem?_eq_getElem h1] at this
    simp at this ⊢
    omega
  · obtain ⟨k, hk, rfl⟩ := List.getElem_of_mem hi
    have hk' : k < n := by simpa [hn] using hk
    have := hget k hk'
    rw [List.getD_eq_getElem?_getD, List.getElem?_eq_getElem hk] at this
    simp only [Option.getD_some] at this
    rw [this]
    have := (h k hk').2.1
    have := (h k hk').1
    omega
  · have hi' : i < n := by simpa [hn] using hi
    have hj' : j < n := by simpa [hn] using hj
    rw [hget i hi', hget j hj'] at he
    rcases Nat.lt_trichotomy i j with h1 | h1 | h1
    · have := hup i j h1 hj'; omega
    · exact h1
    · have := hup j i h1 hi'; omega
  · simp only [List.length_map, hn]
    by_cases h0 : 0 < n
    · have := h.ge (n - 1) (by omega)
      have := (h (n - 1) (by omega)).2.1
      omega
    · omega
  · have hj' : j < n := by simpa [hn] using hj
    rw [hget i (by omega), hget j hj']
    exact hup i j hij hj'

theorem Places.len {len : Nat} {zs : List Int} {l : List Nat} (h : Places len zs l) : zs.length = l.length := by rw [h.eq]; simp
theorem Places.get {len : Nat} {zs : List Int} {l : List Nat} (h : Places len zs l) {i : Nat} (hi : i < l.length) : zs.getD i 0 = ((l.getD i 0 : Nat) : Int) := by
  rw [h.eq]; simp [List.getD, hi]
theorem Places.reads {len : Nat} {zs : List Int} {l : List Nat} (h : Places len zs l) {w : World} {a : Option Addr} {n cap : Nat} (hw : Ints w a n zs) (h1 : n ≤ cap) (h2 : cap ≤ maxLen) : ReadsAs w (.slice a n cap) (l.map intV) := by
  have hn : n = (l.map intV).length := by
    have := hw.1
    simp at this
    rw [h.len] at this
    simp [this]
  refine ⟨a, cap, by rw [← hn], by omega, h2, ?_⟩
  rw [← hn]
  have : l.map intV = zs.map intZ := by rw [h.eq]; simp [intV, intZ, Function.comp_def]
  rw [this]
  exact hw

end Go.Proofs.YtphppdbhofeagaaGreat

