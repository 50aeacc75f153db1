/- The places from one on; brothers behind and ahead. Plain: no program. -/
import Derived.Test.YtjidbnegoailcaaElKid
import Derived.Test.YtjidbnegoailcaaOnce
namespace Go.Proofs.Ytjidbnegoailcaa
set_option linter.unusedVariables false
set_option linter.unusedSimpArgs false

/-- The places from a on (so many) that are as asked, ascending. -/
def rb (P : Nat → Bool) (a : Nat) : Nat → List Nat
  | 0 => []
  | f + 1 => if P a then a :: rb P (a + 1) f else rb P (a + 1) f

theorem rb_mem {P : Nat → Bool} {x : Nat} : ∀ {f a}, x ∈ rb P a f ↔ a ≤ x ∧ x < a + f ∧ P x = true := by
  intro f
  induction f with
  | zero => intro a; simp [rb]; omega
  | succ f ih =>
    intro a
    simp only [rb]
    split
    · rename_i hp
      rw [List.mem_cons, ih]
      constructor
      · rintro (rfl | ⟨h1, h2, h3⟩)
        · exact ⟨Nat.le_refl _, by omega, hp⟩
        · exact ⟨by omega, by omega, h3⟩
      · rintro ⟨h1, h2, h3⟩
        by_cases e : x = a
        · exact .inl e
        · exact .inr ⟨by omega, by omega, h3⟩
    · rename_i hp
      rw [ih]
      constructor
      · rintro ⟨h1, h2, h3⟩; exact ⟨by omega, by omega, h3⟩
      · rintro ⟨h1, h2, h3⟩
        have : x ≠ a := fun e => hp (e ▸ h3)
        exact ⟨by omega, by omega, h3⟩

theorem rb_skip {P : Nat → Bool} : ∀ d f a, (∀ k, a ≤ k → k < a + d → P k = false) → rb P a (d + f) = rb P (a + d) f := by
  intro d
  induction d with
  | zero => intro f a _; simp
  | succ d ih =>
    intro f a h
    rw [show d + 1 + f = (d + f) + 1 by omega]
    simp only [rb]
    rw [h a (Nat.le_refl _) (by omega)]
    have := ih f (a + 1) (fun k h1 h2 => h k (by omega) (by omega))
    rw [show a + (d + 1) = a + 1 + d by omega]
    simpa using this

theorem rb_none {P : Nat → Bool} {a f : Nat} (h : ∀ k, a ≤ k → k < a + f → P k = false) : rb P a f = [] := by
  have := rb_skip f 0 a h
  simpa [rb] using this

theorem rb_once {P : Nat → Bool} : ∀ f a, (rb P a f).Pairwise (· < ·) := by
  intro f
  induction f with
  | zero => intro a; simp [rb]
  | succ f ih =>
    intro a
    simp only [rb]
    split
    · rw [List.pairwise_cons]
      exact ⟨fun b hb => by have := (rb_mem.1 hb).1; omega, ih (a + 1)⟩
    · exact ih (a + 1)

theorem rb_len {P : Nat → Bool} : ∀ f a, (rb P a f).length ≤ f := by
  intro f
  induction f with
  | zero => intro a; simp [rb]
  | succ f ih =>
    intro a
    simp only [rb]
    have := ih (a + 1)
    split <;> simp <;> omega

theorem rb_lb {P : Nat → Bool} : ∀ n a, a ≤ n → (lb P n).filter (fun k => decide (a ≤ k)) = rb P a (n - a) := by
  intro n
  induction n with
  | zero =>
    intro a h
    obtain rfl : a = 0 := by omega
    rfl
  | succ n ih =>
    intro a h
    by_cases e : a = n + 1
    · subst e
      rw [Nat.sub_self]
      simp only [rb]
      rw [List.filter_eq_nil_iff]
      intro x hx
      have := (lb_mem hx).1
      simp; omega
    · have h1 := ih a (by omega)
      have key : ∀ f b, rb P b (f + 1) = rb P b f ++ (if P (b + f) then [b + f] else []) := by
        intro f
        induction f with
        | zero => intro b; simp [rb]
        | succ f ihf =>
          intro b
          have h2 := ihf (b + 1)
          rw [show b + 1 + f = b + (f + 1) by omega] at h2
          rw [show rb P b (f + 1 + 1) = (if P b then b :: rb P (b + 1) (f + 1) else rb P (b + 1) (f + 1)) from rfl, h2]
          rw [show rb P b (f + 1) = (if P b then b :: rb P (b + 1) f else rb P (b + 1) f) from rfl]
          split <;> simp
      rw [show n + 1 - a = (n - a) + 1 by omega, key (n - a) a, show a + (n - a) = n by omega, ← h1]
      simp only [lb]
      split
      · rw [List.filter_append]
        congr 1
        simp; omega
      · simp

theorem lb_pairwise {P : Nat → Bool} : ∀ n, (lb P n).Pairwise (· < ·) := by
  intro n
  induction n with
  | zero => simp [lb]
  | succ n ih =>
    simp only [lb]
    split
    · rw [List.pairwise_append]
      exact ⟨ih, by simp, fun a ha b hb => by simp at hb; subst hb; exact (lb_mem ha).1⟩
    · exact ih

theorem lb_mem_iff {P : Nat → Bool} {x : Nat} : ∀ {n}, x ∈ lb P n ↔ x < n ∧ P x = true := by
  intro n
  constructor
  · exact lb_mem
  · rintro ⟨h1, h2⟩
    induction n with
    | zero => omega
    | succ n ih =>
      simp only [lb]
      by_cases e : x = n
      · subst e; simp [h2]
      · have := ih (by omega)
        split
        · exact List.mem_append_left _ this
        · exact this

theorem once_of_nodup {l : List Nat} (h : l.Nodup) : Once l := by
  intro i j hi hj he
  have e1 : l[i] = l[j] := by simpa [List.getD, hi, hj] using he
  exact (List.getElem_inj h).1 e1

theorem once_of_lt {l : List Nat} (h : l.Pairwise (· < ·)) : Once l := once_of_nodup (h.imp (fun h => Nat.ne_of_lt h))
theorem once_of_gt {l : List Nat} (h : l.Pairwise (· < ·)) : Once l.reverse := once_of_nodup (List.pairwise_reverse.2 (h.imp (fun h => fun e => by omega)))

/-- The brother behind. -/
theorem nxt_some {z : Nat → Nat} {n y q p : Nat} (hz : Nest z n) (hyn : y < n) (hy : par z y = some p) (h : nxtK (fun i => i + z i) 0 y = some q) : q = y + z y ∧ par z q = some p ∧ q < n ∧ y < q := by
  unfold nxtK at h
  rw [up_par, hy] at h
  simp only at h
  split at h
  · rename_i hlt
    simp at h
    subst h
    have h1 := hz.pos y hyn
    have hp := (par_some hy).1
    have h2 := hz.fit p (by omega)
    exact ⟨rfl, par_next hz hy hyn hlt, by omega, by omega⟩
  · simp at h

theorem nxt_none {z : Nat → Nat} {n y p : Nat} (hy : par z y = some p) (h : nxtK (fun i => i + z i) 0 y = none) : p + z p ≤ y + z y := by
  unfold nxtK at h
  rw [up_par, hy] at h
  simp only at h
  split at h
  · simp at h
  · omega

/-- Between a node and its end no kid of its parent stands. -/
theorem kid_gap {z : Nat → Nat} {n y p k : Nat} (hz : Nest z n) (hyn : y < n) (hy : par z y = some p) (h1 : y < k) (h2 : k < y + z y) : (par z k == some p) = false := by
  simp only [beq_eq_false_iff_ne, ne_eq]
  intro hk
  have h3 := (par_some hk).2.2 y (par_some hy).1 h1
  omega

theorem kid_beyond {z : Nat → Nat} {p k : Nat} (h : p + z p ≤ k) : (par z k == some p) = false := by
  simp only [beq_eq_false_iff_ne, ne_eq]
  intro hk
  have := (par_some hk).2.1
  omega

section
variable {z : Nat → Nat} {Q : Nat → Bool} {n y q p : Nat}

theorem rb_nxt_some (hz : Nest z n) (hyn : y < n) (hy : par z y = some p) (h : nxtK (fun i => i + z i) 0 y = some q) :
    rb (fun k => (par z k == some p) && Q k) (y + 1) (n - (y + 1)) = if Q q then q :: rb (fun k => (par z k == some p) && Q k) (q + 1) (n - (q + 1)) else rb (fun k => (par z k == some p) && Q k) (q + 1) (n - (q + 1)) := by
  obtain ⟨rfl, h2, h3, h4⟩ := nxt_some hz hyn hy h
  have hs := rb_skip (P := fun k => (par z k == some p) && Q k) (z y - 1) (n - (y + z y)) (y + 1) (fun k h5 h6 => by rw [kid_gap hz hyn hy (by omega) (by omega)]; rfl)
  rw [show z y - 1 + (n - (y + z y)) = n - (y + 1) by omega, show y + 1 + (z y - 1) = y + z y by omega] at hs
  rw [hs, show n - (y + z y) = (n - (y + z y + 1)) + 1 by omega]
  simp only [rb, h2, beq_self_eq_true, Bool.true_and]

theorem rb_nxt_none (hz : Nest z n) (hyn : y < n) (hy : par z y = some p) (h : nxtK (fun i => i + z i) 0 y = none) :
    rb (fun k => (par z k == some p) && Q k) (y + 1) (n - (y + 1)) = [] := by
  have h1 := nxt_none (n := n) hy h
  refine rb_none (fun k h5 h6 => ?_)
  by_cases h7 : k < y + z y
  · rw [kid_gap hz hyn hy (by omega) h7]; rfl
  · rw [kid_beyond (by omega)]; rfl

/-- From the parent on: the first kid. -/
theorem rb_fst_some (hz : Nest z n) (hpn : p < n) (h : fstK (fun i => i + z i) p = some q) :
    rb (fun k => (par z k == some p) && Q k) (p + 1) (n - (p + 1)) = (if Q q then q :: rb (fun k => (par z k == some p) && Q k) (q + 1) (n - (q + 1)) else rb (fun k => (par z k == some p) && Q k) (q + 1) (n - (q + 1))) ∧ q < n ∧ par z q = some p ∧ p < q := by
  unfold fstK at h
  split at h
  · rename_i hlt
    simp at h
    subst h
    have hlt : p + 1 < p + z p := hlt
    have hf := hz.fit p hpn
    have hp := par_first hpn (show 1 < z p by omega)
    refine ⟨?_, by omega, hp, by omega⟩
    rw [show n - (p + 1) = (n - (p + 1 + 1)) + 1 by omega]
    simp only [rb, hp, beq_self_eq_true, Bool.true_and]
  · simp at h

theorem rb_fst_none (hz : Nest z n) (hpn : p < n) (h : fstK (fun i => i + z i) p = none) :
    rb (fun k => (par z k == some p) && Q k) (p + 1) (n - (p + 1)) = [] := by
  unfold fstK at h
  split at h
  · simp at h
  · rename_i hge
    have hge : ¬ p + 1 < p + z p := hge
    refine rb_none (fun k h5 h6 => ?_)
    rw [kid_beyond (by have := hz.pos p hpn; omega)]; rfl
end

end Go.Proofs.Ytjidbnegoailcaa
