/- The plain side of trees by their sizes: kids, parents. No program. -/
import Derived.Test.YtphppdbhofeagaaDoorSized
namespace Go.Proofs.YtphppdbhofeagaaDoor
set_option linter.unusedVariables false
set_option linter.unusedSimpArgs false

/-- The places from k on, up to e, one behind the other. -/
def kidsFrom (z : Nat → Nat) (e : Nat) : Nat → Nat → List Nat
  | 0, _ => []
  | f + 1, k => if k < e then k :: kidsFrom z e f (k + z k) else []

/-- The places of a node's kids. -/
def kids (z : Nat → Nat) (at_ : Nat) : List Nat := kidsFrom z (at_ + z at_) (z at_) (at_ + 1)

theorem kidsFrom_step {z : Nat → Nat} {e f k : Nat} (h : k < e) (hf : e - k ≤ f) : ∃ g, f = g + 1 ∧ kidsFrom z e f k = k :: kidsFrom z e g (k + z k) := by
  cases f with
  | zero => omega
  | succ g => exact ⟨g, rfl, by simp [kidsFrom, h]⟩

theorem kidsFrom_end {z : Nat → Nat} {e f k : Nat} (h : e ≤ k) : kidsFrom z e f k = [] := by
  cases f with
  | zero => rfl
  | succ g => simp [kidsFrom, show ¬ k < e by omega]

/-- The parent: the greatest place ahead that reaches beyond. -/
def parGo (z : Nat → Nat) (at_ : Nat) : Nat → Option Nat
  | 0 => none
  | i + 1 => if at_ < i + z i then some i else parGo z at_ i

def par (z : Nat → Nat) (at_ : Nat) : Option Nat := parGo z at_ at_

theorem parGo_some {z : Nat → Nat} {at_ p : Nat} : ∀ {i}, parGo z at_ i = some p → p < i ∧ at_ < p + z p ∧ ∀ k, p < k → k < i → k + z k ≤ at_ := by
  intro i
  induction i with
  | zero => intro h; simp [parGo] at h
  | succ i ih =>
    intro h
    simp only [parGo] at h
    split at h
    · rename_i hlt
      simp at h
      subst h
      exact ⟨by omega, hlt, fun k h1 h2 => by omega⟩
    · rename_i hlt
      obtain ⟨h1, h2, h3⟩ := ih h
      refine ⟨by omega, h2, fun k hk1 hk2 => ?_⟩
      by_cases hki : k = i
      · subst hki; omega
      · exact h3 k hk1 (by omega)

theorem parGo_none {z : Nat → Nat} {at_ : Nat} : ∀ {i}, parGo z at_ i = none → ∀ k, k < i → k + z k ≤ at_ := by
  intro i
  induction i with
  | zero => intro _ k hk; omega
  | succ i ih =>
    intro h k hk
    simp only [parGo] at h
    split at h
    · simp at h
    · by_cases hki : k = i
      · subst hki; omega
      · exact ih h k (by omega)

theorem par_some {z : Nat → Nat} {at_ p : Nat} (h : par z at_ = some p) : p < at_ ∧ at_ < p + z p ∧ ∀ k, p < k → k < at_ → k + z k ≤ at_ := parGo_some h
theorem par_none {z : Nat → Nat} {at_ : Nat} (h : par z at_ = none) : ∀ k, k < at_ → k + z k ≤ at_ := parGo_none h

theorem par_mk {z : Nat → Nat} {at_ p : Nat} (h1 : p < at_) (h2 : at_ < p + z p) (h3 : ∀ k, p < k → k < at_ → k + z k ≤ at_) : par z at_ = some p := by
  cases h : par z at_ with
  | none => have := par_none h p h1; omega
  | some q =>
    obtain ⟨a, b, c⟩ := par_some h
    rcases Nat.lt_trichotomy p q with hpq | hpq | hpq
    · have := h3 q hpq a; omega
    · rw [hpq]
    · have := c p hpq h1; omega

/-- Sizes that nest: every place up to n. -/
structure Nest (z : Nat → Nat) (n : Nat) : Prop where
  pos : ∀ i, i < n → 1 ≤ z i
  lam : ∀ i j, i < n → i ≤ j → j < i + z i → j + z j ≤ i + z i
  fit : ∀ i, i < n → i + z i ≤ n

theorem nest_of {ts : List NodeD} {n : Nat} (h0 : sz ts 0 = n) (h : ∀ j, j < n → Sz ts j) (hn : 0 < n) : Nest (sz ts) n :=
  ⟨fun i hi => (h i hi).1, fun i j hi hij hj => (h i hi).2.2 j hij hj, fun i hi => by have := (h 0 hn).2.2 i (Nat.zero_le _) (by omega); omega⟩

/-- Every place but the root has a parent, where the root reaches to the end. -/
theorem par_is {z : Nat → Nat} {n : Nat} (h0 : z 0 = n) {i : Nat} (hi : i < n) (hp : 0 < i) : ∃ p, par z i = some p := by
  cases h : par z i with
  | some p => exact ⟨p, rfl⟩
  | none => have := par_none h 0 hp; omega

/-- The first kid, the next kid. -/
theorem par_first {z : Nat → Nat} {n : Nat} {i : Nat} (hi : i < n) (h : 1 < z i) : par z (i + 1) = some i := par_mk (by omega) (by omega) (fun k h1 h2 => by omega)

theorem par_next {z : Nat → Nat} {n : Nat} (hz : Nest z n) {p k : Nat} (hp : par z k = some p) (hk : k < n) (h : k + z k < p + z p) : par z (k + z k) = some p := by
  obtain ⟨h1, h2, h3⟩ := par_some hp
  have hk1 := hz.pos k hk
  refine par_mk (by omega) h (fun j hj1 hj2 => ?_)
  rcases Nat.lt_trichotomy j k with hjk | rfl | hjk
  · exact Nat.le_trans (h3 j hj1 hjk) (by omega)
  · exact Nat.le_refl _
  · exact hz.lam k j hk (by omega) hj2

end Go.Proofs.YtphppdbhofeagaaDoor
