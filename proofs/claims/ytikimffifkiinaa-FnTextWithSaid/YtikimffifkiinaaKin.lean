/- Kids and brothers as lists of places below a bound. Plain: no program. -/
import Derived.Test.YtikimffifkiinaaLinks
namespace Go.Proofs.Ytikimffifkiinaa
set_option linter.unusedVariables false
set_option linter.unusedSimpArgs false

/-- The places below n that are as asked, ascending. -/
def lb (P : Nat → Bool) : Nat → List Nat
  | 0 => []
  | k + 1 => if P k then lb P k ++ [k] else lb P k

theorem lb_mem {P : Nat → Bool} {x : Nat} : ∀ {n}, x ∈ lb P n → x < n ∧ P x = true := by
  intro n
  induction n with
  | zero => intro h; simp [lb] at h
  | succ n ih =>
    intro h
    simp only [lb] at h
    split at h
    · rename_i hp
      simp at h
      rcases h with h | rfl
      · have := ih h; exact ⟨by omega, this.2⟩
      · exact ⟨by omega, hp⟩
    · have := ih h; exact ⟨by omega, this.2⟩

theorem lb_gap {P : Nat → Bool} {a : Nat} : ∀ d, (∀ k, a ≤ k → k < a + d → P k = false) → lb P (a + d) = lb P a := by
  intro d
  induction d with
  | zero => intro _; rfl
  | succ d ih =>
    intro h
    show lb P (a + d + 1) = _
    simp only [lb]
    rw [h (a + d) (by omega) (by omega)]
    exact ih (fun k h1 h2 => h k h1 (by omega))

theorem lb_split {P : Nat → Bool} {a : Nat} : ∀ d, ∃ r, lb P (a + d) = lb P a ++ r ∧ ∀ x ∈ r, a ≤ x := by
  intro d
  induction d with
  | zero => exact ⟨[], by simp, by simp⟩
  | succ d ih =>
    obtain ⟨r, h1, h2⟩ := ih
    show ∃ r, lb P (a + d + 1) = _ ∧ _
    simp only [lb]
    split
    · refine ⟨r ++ [a + d], by rw [h1]; simp, fun x hx => ?_⟩
      simp at hx
      rcases hx with hx | rfl
      · exact h2 x hx
      · omega
    · exact ⟨r, h1, h2⟩

theorem lb_filter {P Q : Nat → Bool} : ∀ n, (lb P n).filter Q = lb (fun k => P k && Q k) n := by
  intro n
  induction n with
  | zero => rfl
  | succ n ih =>
    simp only [lb]
    by_cases hp : P n = true <;> by_cases hq : Q n = true <;> simp [hp, hq, ih]

theorem lb_length_le {P : Nat → Bool} : ∀ n, (lb P n).length ≤ n := by
  intro n
  induction n with
  | zero => exact Nat.le_refl _
  | succ n ih =>
    simp only [lb]
    split
    · rw [List.length_append]; simp; omega
    · omega

/-- The kids of p: every place whose parent is p. -/
theorem kids_lb {z : Nat → Nat} {n p : Nat} (hz : Nest z n) (hp : p < n) : kids z p = lb (fun k => par z k == some p) n := by
  have hpos := hz.pos p hp
  have hfit := hz.fit p hp
  have key : ∀ f k, (p + z p) - k ≤ f → p < k → k ≤ p + z p → (k < p + z p → par z k = some p) → lb (fun k => par z k == some p) k ++ kidsFrom z (p + z p) f k = lb (fun k => par z k == some p) (p + z p) := by
    intro f
    induction f with
    | zero =>
      intro k h1 h2 h3 _
      obtain rfl : k = p + z p := by omega
      simp [kidsFrom]
    | succ f ih =>
      intro k h1 h2 h3 h4
      by_cases hk : k < p + z p
      · have hpk := h4 hk
        have hk1 := hz.pos k (by omega)
        have hlam := hz.lam p k hp (by omega) hk
        simp only [kidsFrom, hk, if_true]
        have hnext := ih (k + z k) (by omega) (by omega) (by omega) (fun h => par_next hz hpk (by omega) h)
        rw [← hnext]
        have hg : lb (fun k => par z k == some p) (k + z k) = lb (fun k => par z k == some p) k ++ [k] := by
          have h5 := lb_gap (P := fun k => par z k == some p) (a := k + 1) (z k - 1) (fun j ha hb => by
            simp only [beq_eq_false_iff_ne, ne_eq]
            intro hj
            have := (par_some hj).2.2 k h2 (by omega)
            omega)
          rw [show k + 1 + (z k - 1) = k + z k by omega] at h5
          rw [h5]
          simp [lb, hpk]
        rw [hg]
        simp
      · obtain rfl : k = p + z p := by omega
        rw [kidsFrom_end (Nat.le_refl _)]
        simp
  have h0 : lb (fun k => par z k == some p) (p + 1) = [] := by
    have := lb_gap (P := fun k => par z k == some p) (a := 0) (p + 1) (fun j _ hb => by
      simp only [beq_eq_false_iff_ne, ne_eq]
      intro hj
      have := (par_some hj).1
      omega)
    rw [Nat.zero_add] at this
    rw [this]; rfl
  have hk := key (z p) (p + 1) (by omega) (by omega) (by omega) (fun h => par_first hp (by omega))
  rw [h0] at hk
  unfold kids
  simp only [List.nil_append] at hk
  rw [hk]
  have h6 := lb_gap (P := fun k => par z k == some p) (a := p + z p) (n - (p + z p)) (fun j ha hb => by
    simp only [beq_eq_false_iff_ne, ne_eq]
    intro hj
    have := (par_some hj).2.1
    omega)
  rw [show p + z p + (n - (p + z p)) = n by omega] at h6
  exact h6.symm

theorem up_par {z : Nat → Nat} {i : Nat} : up (fun i => i + z i) 0 i = par z i := by
  cases h : par z i with
  | some p =>
    obtain ⟨a, b, c⟩ := par_some h
    exact up_mk (Nat.zero_le _) a b c
  | none =>
    have := par_none h
    refine top_none (fun j hj => ?_)
    have := this j hj
    simp; omega

/-- The brother ahead. -/
theorem prv_some {z : Nat → Nat} {y q p : Nat} (hy : par z y = some p) (h : prvK (fun i => i + z i) 0 y = some q) : q < y ∧ par z q = some p ∧ q + z q = y := by
  obtain ⟨a, b, _⟩ := top_some h
  simp only [Bool.and_eq_true, decide_eq_true_eq, beq_iff_eq] at b
  rw [up_par, up_par, hy] at b
  exact ⟨a, b.2, b.1.2⟩

theorem prv_lb {z : Nat → Nat} {Q : Nat → Bool} {y q p : Nat} (hy : par z y = some p) (h : prvK (fun i => i + z i) 0 y = some q) :
    lb (fun k => (par z k == some p) && Q k) y = if Q q then lb (fun k => (par z k == some p) && Q k) q ++ [q] else lb (fun k => (par z k == some p) && Q k) q := by
  obtain ⟨a, b, c⟩ := prv_some hy h
  have hq := (par_some b).1
  have h5 := lb_gap (P := fun k => (par z k == some p) && Q k) (a := q + 1) (y - (q + 1)) (fun j ha hb => by
    have : (par z j == some p) = false := by
      simp only [beq_eq_false_iff_ne, ne_eq]
      intro hj
      have := (par_some hj).2.2 q hq (by omega)
      omega
    simp [this])
  rw [show q + 1 + (y - (q + 1)) = y by omega] at h5
  rw [h5]
  simp only [lb, b]
  simp

theorem prv_none_lb {z : Nat → Nat} {n : Nat} {Q : Nat → Bool} {y p : Nat} (hz : Nest z n) (hyn : y < n) (hy : par z y = some p) (h : prvK (fun i => i + z i) 0 y = none) : lb (fun k => (par z k == some p) && Q k) y = [] := by
  obtain ⟨p1, p2, p3⟩ := par_some hy
  have hno : ∀ d k, y - k ≤ d → k < y → par z k = some p → False := by
    intro d
    induction d with
    | zero => intro k h1 h2; omega
    | succ d ih =>
      intro k h1 h2 hk
      have hpk := (par_some hk).1
      have h4 := p3 k hpk h2
      have hk1 := hz.pos k (by omega)
      by_cases h5 : k + z k = y
      · have := top_none_of h k h2
        rw [up_par, up_par, hk, hy] at this
        simp [h5] at this
      · exact ih (k + z k) (by omega) (by omega) (par_next hz hk (by omega) (by omega))
  have h5 := lb_gap (P := fun k => (par z k == some p) && Q k) (a := 0) y (fun j _ hb => by
    have : (par z j == some p) = false := by
      simp only [beq_eq_false_iff_ne, ne_eq]
      intro hj
      exact hno _ j (Nat.le_refl _) (by omega) hj
    simp [this])
  rw [Nat.zero_add] at h5
  rw [h5]; rfl

end Go.Proofs.Ytikimffifkiinaa
