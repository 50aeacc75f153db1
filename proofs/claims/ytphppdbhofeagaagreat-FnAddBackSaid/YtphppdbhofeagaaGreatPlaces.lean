/- Ascending places, as a list of numbers. -/
import Derived.Test.YtphppdbhofeagaaGreatOrder
import Derived.Test.YtphppdbhofeagaaGreatPtrAll
namespace Go.Proofs.YtphppdbhofeagaaGreat
open Go.RowKit
set_option linter.unusedVariables false
set_option linter.unusedSimpArgs false

theorem OrderTo.ge {len : Nat} {zs : List Int} {n : Nat} (h : OrderTo len zs n) : ∀ i, i < n → (i : Int) ≤ zs.getD i 0 := by
  intro i
  induction i with
  | zero => intro hi; exact (h 0 hi).1
  | succ i ih =>
    intro hi
    have h1 := ih (by omega)
    have h2 := (h (i + 1) hi).2.2 (by omega)
    simp only [Nat.add_sub_cancel] at h2
    omega

theorem OrderTo.lt {len : Nat} {zs : List Int} {n : Nat} (h : OrderTo len zs n) : ∀ d i, 0 < d → i + d < n → zs.getD i 0 < zs.getD (i + d) 0 := by
  intro d
  induction d with
  | zero => intro i hd; omega
  | succ d ih =>
    intro i _ hi
    have h2 := (h (i + (d + 1)) hi).2.2 (by omega)
    rw [show i + (d + 1) - 1 = i + d by omega] at h2
    by_cases hd : 0 < d
    · have := ih i hd (by omega); omega
    · have : d = 0 := by omega
      subst this
      exact h2

/-- The places as numbers. -/
structure Places (len : Nat) (zs : List Int) (l : List Nat) : Prop where
  eq : zs = l.map (fun (n : Nat) => (n : Int))
  lt : ∀ i ∈ l, i < len
  once : Once l
  le : l.length ≤ len
  up : ∀ i j, i < j → j < l.length → l.getD i 0 < l.getD j 0

theorem OrderTo.places {len : Nat} {zs : List Int} {n : Nat} (h : OrderTo len zs n) (hn : zs.length = n) : ∃ l, Places len zs l := by
  have hget : ∀ i, i < n → (zs.map Int.toNat).getD i 0 = (zs.getD i 0).toNat := fun i hi => by simp [List.getD, show i < zs.length by omega]
  have hup : ∀ i j, i < j → j < n → (zs.getD i 0).toNat < (zs.getD j 0).toNat := fun i j hij hj => by
    have := h.lt (j - i) i (by omega) (by omega)
    rw [show i + (j - i) = j by omega] at this
    have := (h i (by omega)).1
    omega
  refine ⟨zs.map Int.toNat, ?_, fun i hi => ?_, fun i j hi hj he => ?_, ?_, fun i j hij hj => ?_⟩
  · refine List.ext_getElem (by simp) (fun i h1 h2 => ?_)
    have := (h i (by omega)).1
    rw [List.getD_eq_getElem?_getD, List.getElem?_eq_getElem h1] at this
    simp at this ⊢
    omega
  · obtain ⟨k, hk, rfl⟩ := List.getElem_of_mem hi
    have hk' : k < n := by simpa [hn] using hk
    have := hget k hk'
    rw [List.getD_eq_getElem?_getD, List.getElem?_eq_getElem hk] at this
    simp only [Option.getD_some] at this
    rw [this]
    have := (h k hk').2.1
    have := (h k hk').1
    omega
  · have hi' : i < n := by simpa [hn] using hi
    have hj' : j < n := by simpa [hn] using hj
    rw [hget i hi', hget j hj'] at he
    rcases Nat.lt_trichotomy i j with h1 | h1 | h1
    · have := hup i j h1 hj'; omega
    · exact h1
    · have := hup j i h1 hi'; omega
  · simp only [List.length_map, hn]
    by_cases h0 : 0 < n
    · have := h.ge (n - 1) (by omega)
      have := (h (n - 1) (by omega)).2.1
      omega
    · omega
  · have hj' : j < n := by simpa [hn] using hj
    rw [hget i (by omega), hget j hj']
    exact hup i j hij hj'

theorem Places.len {len : Nat} {zs : List Int} {l : List Nat} (h : Places len zs l) : zs.length = l.length := by rw [h.eq]; simp
theorem Places.get {len : Nat} {zs : List Int} {l : List Nat} (h : Places len zs l) {i : Nat} (hi : i < l.length) : zs.getD i 0 = ((l.getD i 0 : Nat) : Int) := by
  rw [h.eq]; simp [List.getD, hi]
theorem Places.reads {len : Nat} {zs : List Int} {l : List Nat} (h : Places len zs l) {w : World} {a : Option Addr} {n cap : Nat} (hw : Ints w a n zs) (h1 : n ≤ cap) (h2 : cap ≤ maxLen) : ReadsAs w (.slice a n cap) (l.map intV) := by
  have hn : n = (l.map intV).length := by
    have := hw.1
    simp at this
    rw [h.len] at this
    simp [this]
  refine ⟨a, cap, by rw [← hn], by omega, h2, ?_⟩
  rw [← hn]
  have : l.map intV = zs.map intZ := by rw [h.eq]; simp [intV, intZ, Function.comp_def]
  rw [this]
  exact hw

end Go.Proofs.YtphppdbhofeagaaGreat
