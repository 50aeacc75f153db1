/- The links of a tree's nodes by their places: who is above, ahead, behind, the first and the last kid. Plain: no program. Kids and brothers as lists of places below a bound. Plain: no program. A part of a tree in memory: its nodes with their links, their attributes; two parts put together by AppendChild. Two parts of a tree, put together. impl.grow: a node, with all beneath it. impl.grown: the nodes of a tree. -/
import Derived.Test.YtkdomegcacgpnaaGreatBaseAll
import Derived.Test.YtkdomegcacgpnaaGreatAloneAll
import Derived.Test.YtkdomegcacgpnaaGreatFitAll
import Derived.StillTailTactics
import Derived.Deep.OwnRows
namespace Go.Proofs.YtkdomegcacgpnaaGreat
set_option linter.unusedVariables false
set_option linter.unusedSimpArgs false

/-- The greatest number below n that is as asked. -/
def top (P : Nat → Bool) : Nat → Option Nat
  | 0 => none
  | k + 1 => if P k then some k else top P k

theorem top_some {P : Nat → Bool} {k : Nat} : ∀ {n}, top P n = some k → k < n ∧ P k = true ∧ ∀ j, k < j → j < n → P j = false := by
  intro n
  induction n with
  | zero => intro h; simp [top] at h
  | succ n ih =>
    intro h
    simp only [top] at h
    split at h
    · rename_i hp
      simp at h; subst h
      exact ⟨by omega, hp, fun j h1 h2 => by omega⟩
    · rename_i hp
      obtain ⟨h1, h2, h3⟩ := ih h
      refine ⟨by omega, h2, fun j hj1 hj2 => ?_⟩
      by_cases e : j = n
      · subst e; simpa using hp
      · exact h3 j hj1 (by omega)

theorem top_mk {P : Nat → Bool} {k n : Nat} (h1 : k < n) (h2 : P k = true) (h3 : ∀ j, k < j → j < n → P j = false) : top P n = some k := by
  induction n with
  | zero => omega
  | succ n ih =>
    simp only [top]
    by_cases e : k = n
    · subst e; simp [h2]
    · rw [h3 n (by omega) (by omega)]
      exact ih (by omega) (fun j a b => h3 j a (by omega))

theorem top_none {P : Nat → Bool} {n : Nat} (h : ∀ j, j < n → P j = false) : top P n = none := by
  induction n with
  | zero => rfl
  | succ n ih => simp only [top]; rw [h n (by omega)]; exact ih (fun j hj => h j (by omega))

theorem top_none_of {P : Nat → Bool} {n : Nat} (h : top P n = none) : ∀ j, j < n → P j = false := by
  induction n with
  | zero => intro j hj; omega
  | succ n ih =>
    simp only [top] at h
    split at h
    · simp at h
    · rename_i hp
      intro j hj
      by_cases e : j = n
      · subst e; simpa using hp
      · exact ih h j (by omega)

theorem top_congr {P Q : Nat → Bool} {n : Nat} (h : ∀ j, j < n → P j = Q j) : top P n = top Q n := by
  induction n with
  | zero => rfl
  | succ n ih => simp only [top]; rw [h n (by omega), ih (fun j hj => h j (by omega))]

section
variable (E : Nat → Nat) (lo : Nat)

/-- Above a node: the greatest place from lo on, ahead of it, that ends behind it. -/
def up (i : Nat) : Option Nat := top (fun p => decide (lo ≤ p) && decide (i < E p)) i
/-- The first kid. -/
def fstK (i : Nat) : Option Nat := if i + 1 < E i then some (i + 1) else none
/-- Behind a node. -/
def nxtK (i : Nat) : Option Nat := match up E lo i with | none => none | some p => if E i < E p then some (E i) else none
/-- Ahead of a node. -/
def prvK (i : Nat) : Option Nat := top (fun k => decide (lo ≤ k) && (E k == i) && (up E lo k == up E lo i)) i
/-- The last kid. -/
def lstK (i : Nat) : Option Nat := top (fun k => decide (i < k) && (up E lo k == some i)) (E i)
end

theorem up_some {E : Nat → Nat} {lo i p : Nat} (h : up E lo i = some p) : lo ≤ p ∧ p < i ∧ i < E p ∧ ∀ j, p < j → j < i → E j ≤ i := by
  obtain ⟨h1, h2, h3⟩ := top_some h
  simp only [Bool.and_eq_true, decide_eq_true_eq] at h2
  refine ⟨h2.1, h1, h2.2, fun j a b => ?_⟩
  have := h3 j a b
  simp only [Bool.and_eq_false_iff, decide_eq_false_iff_not] at this
  omega

theorem up_mk {E : Nat → Nat} {lo i p : Nat} (h0 : lo ≤ p) (h1 : p < i) (h2 : i < E p) (h3 : ∀ j, p < j → j < i → E j ≤ i) : up E lo i = some p := by
  refine top_mk h1 (by simp [h0, h2]) (fun j a b => ?_)
  have := h3 j a b
  simp; omega

theorem up_lo {E : Nat → Nat} {lo i : Nat} (h : i ≤ lo) : up E lo i = none := top_none (fun j hj => by simp; omega)

/-- A part of a tree: the places from lo on, up to hi; each but lo ends within; lo ends at hi. -/
structure Part (E : Nat → Nat) (lo hi : Nat) : Prop where
  lt : lo < hi
  root : E lo = hi
  pos : ∀ i, lo ≤ i → i < hi → i < E i
  lam : ∀ i j, lo ≤ i → i < hi → i ≤ j → j < E i → E j ≤ E i

theorem Part.le {E : Nat → Nat} {lo hi : Nat} (h : Part E lo hi) {i : Nat} (h1 : lo ≤ i) (h2 : i < hi) : E i ≤ hi := by
  have := h.lam lo i (Nat.le_refl _) h.lt h1 (by rw [h.root]; exact h2)
  rwa [h.root] at this

theorem Part.up {E : Nat → Nat} {lo hi : Nat} (h : Part E lo hi) {i : Nat} (h1 : lo < i) (h2 : i < hi) : ∃ p, Go.Proofs.YtkdomegcacgpnaaGreat.up E lo i = some p := by
  cases e : Go.Proofs.YtkdomegcacgpnaaGreat.up E lo i with
  | some p => exact ⟨p, rfl⟩
  | none =>
    have := top_none_of e lo h1
    simp [h.root] at this
    omega

/-- All links lead within the part. -/
theorem Part.links {E : Nat → Nat} {lo hi : Nat} (h : Part E lo hi) {i : Nat} (h1 : lo ≤ i) (h2 : i < hi) :
    (∀ p, Go.Proofs.YtkdomegcacgpnaaGreat.up E lo i = some p → lo ≤ p ∧ p < hi) ∧ (∀ p, fstK E i = some p → lo ≤ p ∧ p < hi) ∧ (∀ p, nxtK E lo i = some p → lo ≤ p ∧ p < hi) ∧
    (∀ p, prvK E lo i = some p → lo ≤ p ∧ p < hi) ∧ (∀ p, lstK E lo i = some p → lo ≤ p ∧ p < hi) := by
  have hle := h.le h1 h2
  refine ⟨fun p hp => ?_, fun p hp => ?_, fun p hp => ?_, fun p hp => ?_, fun p hp => ?_⟩
  · have := up_some hp; omega
  · unfold fstK at hp
    split at hp
    · simp at hp; omega
    · simp at hp
  · unfold nxtK at hp
    split at hp
    · simp at hp
    · rename_i q hq
      have hu := up_some hq
      have := h.le hu.1 (by omega)
      have := h.pos i h1 h2
      split at hp
      · simp at hp; omega
      · simp at hp
  · obtain ⟨a, b, _⟩ := top_some hp
    simp only [Bool.and_eq_true, decide_eq_true_eq] at b
    omega
  · obtain ⟨a, b, _⟩ := top_some hp
    simp only [Bool.and_eq_true, decide_eq_true_eq] at b
    omega

theorem Part.next {E : Nat → Nat} {lo hi : Nat} (h : Part E lo hi) {j p : Nat} (hj : j < hi) (hu : Go.Proofs.YtkdomegcacgpnaaGreat.up E lo j = some p) (hlt : E j < E p) : Go.Proofs.YtkdomegcacgpnaaGreat.up E lo (E j) = some p := by
  obtain ⟨a, b, c, d⟩ := up_some hu
  have hj1 := h.pos j (by omega) hj
  refine up_mk a (by omega) hlt (fun q h1 h2 => ?_)
  rcases Nat.lt_trichotomy q j with h3 | rfl | h3
  · have := d q h1 h3; omega
  · exact Nat.le_refl _
  · exact h.lam j q (by omega) hj (by omega) h2

/-- The last kid ends where the node does. -/
theorem Part.lst_end {E : Nat → Nat} {lo hi : Nat} (h : Part E lo hi) {i l : Nat} (h1 : lo ≤ i) (h2 : i < hi) (hl : lstK E lo i = some l) : i < l ∧ l < E i ∧ Go.Proofs.YtkdomegcacgpnaaGreat.up E lo l = some i ∧ E l = E i := by
  obtain ⟨a, b, c⟩ := top_some hl
  simp only [Bool.and_eq_true, decide_eq_true_eq, beq_iff_eq] at b
  have hle := h.le h1 h2
  refine ⟨b.1, a, b.2, ?_⟩
  have h3 := h.lam i l h1 h2 (by omega) a
  rcases Nat.lt_or_ge (E l) (E i) with h4 | h4
  · have h5 := h.next (by omega) b.2 h4
    have h6 := h.pos l (by omega) (by omega)
    have := c (E l) h6 h4
    simp only [Bool.and_eq_false_iff, decide_eq_false_iff_not, beq_eq_false_iff_ne] at this
    rcases this with h7 | h7
    · omega
    · exact absurd h5 h7
  · omega

theorem Part.first {E : Nat → Nat} {lo hi : Nat} (h : Part E lo hi) {i : Nat} (h1 : lo ≤ i) (h2 : i + 1 < E i) : Go.Proofs.YtkdomegcacgpnaaGreat.up E lo (i + 1) = some i := up_mk h1 (by omega) h2 (fun j a b => by omega)

theorem Part.lst_some {E : Nat → Nat} {lo hi : Nat} (h : Part E lo hi) {i : Nat} (h1 : lo ≤ i) (h2 : i + 1 < E i) : ∃ l, lstK E lo i = some l := by
  cases e : lstK E lo i with
  | some l => exact ⟨l, rfl⟩
  | none =>
    have := top_none_of e (i + 1) h2
    simp [h.first h1 h2] at this

theorem Part.lst_none {E : Nat → Nat} {lo hi : Nat} (h : Part E lo hi) {i : Nat} (h2 : E i ≤ i + 1) : lstK E lo i = none := by
  refine top_none (fun j hj => ?_)
  have : ¬ i < j := by omega
  simp [this]

/-- The part [lo, k) and the part [k, k') are put together: k becomes the last kid of lo. -/
structure Join (E1 F E2 : Nat → Nat) (lo k k' : Nat) : Prop where
  p1 : Part E1 lo k
  pF : Part F k k'
  e2lo : E2 lo = k'
  e2a : ∀ i, lo < i → i < k → E2 i = E1 i
  e2b : ∀ i, k ≤ i → i < k' → E2 i = F i

section
variable {E1 F E2 : Nat → Nat} {lo k k' : Nat} (J : Join E1 F E2 lo k k')
include J

theorem Join.up_a {i : Nat} (h1 : lo < i) (h2 : i < k) : up E2 lo i = up E1 lo i := by
  have hk := J.pF.lt
  unfold up
  refine top_congr (fun j hj => ?_)
  by_cases e : j = lo
  · subst e
    have : i < k' := by omega
    simp [J.e2lo, J.p1.root, h2, this]
  · by_cases hl : lo ≤ j
    · simp only [hl, decide_true, Bool.true_and]
      rw [J.e2a j (by omega) (by omega)]
    · simp [hl]

theorem Join.up_k : up E2 lo k = some lo := by
  have hk := J.pF.lt
  have hl := J.p1.lt
  refine up_mk (Nat.le_refl _) hl (by rw [J.e2lo]; exact hk) (fun j h1 h2 => ?_)
  rw [J.e2a j h1 h2]
  exact J.p1.le (by omega) h2

theorem Join.up_b {i : Nat} (h1 : k < i) (h2 : i < k') : up E2 lo i = up F k i := by
  have hl := J.p1.lt
  obtain ⟨p, hp⟩ := J.pF.up h1 h2
  rw [hp]
  obtain ⟨a, b, c, d⟩ := up_some hp
  refine up_mk (by omega) b (by rw [J.e2b p a (by omega)]; exact c) (fun j h3 h4 => ?_)
  rw [J.e2b j (by omega) (by omega)]
  exact d j h3 h4

theorem Join.fst_a {i : Nat} (h1 : lo < i) (h2 : i < k) : fstK E2 i = fstK E1 i := by unfold fstK; rw [J.e2a i h1 h2]
theorem Join.fst_b {i : Nat} (h1 : k ≤ i) (h2 : i < k') : fstK E2 i = fstK F i := by unfold fstK; rw [J.e2b i h1 h2]
theorem Join.fst_lo : fstK E2 lo = some (lo + 1) := by
  have := J.p1.lt
  have := J.pF.lt
  unfold fstK
  rw [J.e2lo, if_pos (by omega)]
theorem Join.fst_lo1 (h : lo + 1 < k) : fstK E1 lo = some (lo + 1) := by unfold fstK; rw [J.p1.root, if_pos h]
theorem Join.fst_lo0 (h : k = lo + 1) : fstK E1 lo = none := by unfold fstK; rw [J.p1.root, if_neg (by omega)]

/-- Behind a node of the first part: as it was; but behind the last kid of lo now k. -/
theorem Join.nxt_a {i : Nat} (h1 : lo < i) (h2 : i < k) : nxtK E2 lo i = if up E1 lo i = some lo ∧ E1 i = k then some k else nxtK E1 lo i := by
  have hk := J.pF.lt
  have hi : E1 i ≤ k := J.p1.le (by omega) h2
  unfold nxtK
  rw [J.up_a h1 h2, J.e2a i h1 h2]
  obtain ⟨p, hp⟩ := J.p1.up h1 h2
  rw [hp]
  obtain ⟨a, b, c, d⟩ := up_some hp
  by_cases e : p = lo
  · subst e
    simp only [J.e2lo, J.p1.root]
    rw [if_pos (show E1 i < k' by omega)]
    by_cases e2 : E1 i = k
    · simp [e2]
    · simp only [e2, and_false, if_false]
      rw [if_pos (by omega)]
  · have : ¬ (some p = some lo ∧ E1 i = k) := by simp [e]
    rw [if_neg this]
    simp only [J.e2a p (by omega) (by omega)]

theorem Join.nxt_k : nxtK E2 lo k = none := by
  unfold nxtK
  rw [J.up_k]
  simp only [J.e2lo, J.e2b k (Nat.le_refl _) J.pF.lt, J.pF.root, Nat.lt_irrefl, if_false]

theorem Join.nxt_b {i : Nat} (h1 : k < i) (h2 : i < k') : nxtK E2 lo i = nxtK F k i := by
  unfold nxtK
  rw [J.up_b h1 h2, J.e2b i (by omega) h2]
  obtain ⟨p, hp⟩ := J.pF.up h1 h2
  rw [hp]
  obtain ⟨a, b, c, d⟩ := up_some hp
  simp only [J.e2b p a (by omega)]

theorem Join.prv_a {i : Nat} (h1 : lo < i) (h2 : i < k) : prvK E2 lo i = prvK E1 lo i := by
  have hk := J.pF.lt
  unfold prvK
  refine top_congr (fun j hj => ?_)
  by_cases hl : lo ≤ j
  · by_cases e : j = lo
    · subst e
      have e1 : (E2 j == i) = false := by rw [J.e2lo]; simp; omega
      have e2 : (E1 j == i) = false := by rw [J.p1.root]; simp; omega
      simp [e1, e2]
    · rw [J.e2a j (by omega) (by omega), J.up_a (by omega) (by omega), J.up_a h1 h2]
  · simp [hl]

theorem Join.prv_k : prvK E2 lo k = lstK E1 lo lo := by
  have hk := J.pF.lt
  have hl := J.p1.lt
  cases e : lstK E1 lo lo with
  | none =>
    refine top_none (fun j hj => ?_)
    by_cases h1 : lo < j
    · have h2 := top_none_of e j (by rw [J.p1.root]; exact hj)
      simp only [h1, decide_true, Bool.true_and] at h2
      rw [J.up_a h1 hj, J.up_k, h2]
      simp
    · by_cases h2 : j = lo
      · subst h2
        have : (E2 j == k) = false := by rw [J.e2lo]; simp; omega
        simp [this]
      · have : ¬ lo ≤ j := by omega
        simp [this]
  | some l =>
    obtain ⟨a, b, c, d⟩ := J.p1.lst_end (Nat.le_refl _) hl e
    rw [J.p1.root] at b d
    refine top_mk b ?_ (fun j h1 h2 => ?_)
    · rw [J.e2a l a b, J.up_a a b, J.up_k, c, d]
      simp; omega
    · have h3 := (top_some e).2.2 j h1 (by rw [J.p1.root]; exact h2)
      have h4 : lo < j := by omega
      simp only [h4, decide_true, Bool.true_and] at h3
      rw [J.up_a h4 h2, J.up_k, h3]
      simp

theorem Join.prv_b {i : Nat} (h1 : k < i) (h2 : i < k') : prvK E2 lo i = prvK F k i := by
  have hl := J.p1.lt
  unfold prvK
  refine top_congr (fun j hj => ?_)
  by_cases h3 : k ≤ j
  · have h4 : lo ≤ j := by omega
    simp only [h3, h4, decide_true, Bool.true_and]
    rw [J.e2b j h3 (by omega)]
    by_cases h5 : j = k
    · subst h5
      have : (F j == i) = false := by rw [J.pF.root]; simp; omega
      simp [this]
    · rw [J.up_b (by omega) (by omega), J.up_b h1 h2]
  · simp only [h3, decide_false, Bool.false_and]
    by_cases h4 : lo ≤ j
    · have : (E2 j == i) = false := by
        by_cases h5 : j = lo
        · subst h5; rw [J.e2lo]; simp; omega
        · rw [J.e2a j (by omega) (by omega)]
          have := J.p1.le h4 (by omega)
          simp; omega
      simp [this]
    · simp [h4]

theorem Join.lst_a {i : Nat} (h1 : lo < i) (h2 : i < k) : lstK E2 lo i = lstK E1 lo i := by
  unfold lstK
  rw [J.e2a i h1 h2]
  have := J.p1.le (by omega) h2
  refine top_congr (fun j hj => ?_)
  by_cases h3 : i < j
  · rw [J.up_a (by omega) (by omega)]
  · simp [h3]

theorem Join.lst_lo : lstK E2 lo lo = some k := by
  have hk := J.pF.lt
  have hl := J.p1.lt
  unfold lstK
  rw [J.e2lo]
  refine top_mk hk (by rw [J.up_k]; simp; omega) (fun j h1 h2 => ?_)
  rw [J.up_b h1 h2]
  obtain ⟨p, hp⟩ := J.pF.up h1 h2
  have := (up_some hp).1
  rw [hp]
  have : ¬ p = lo := by omega
  simp [this]

theorem Join.lst_b {i : Nat} (h1 : k ≤ i) (h2 : i < k') : lstK E2 lo i = lstK F k i := by
  unfold lstK
  rw [J.e2b i h1 h2]
  have := J.pF.le h1 h2
  refine top_congr (fun j hj => ?_)
  by_cases h3 : i < j
  · rw [J.up_b (by omega) (by omega)]
  · simp [h3]

/-- The whole is a part. -/
theorem Join.part : Part E2 lo k' := by
  have hk := J.pF.lt
  have hl := J.p1.lt
  refine ⟨by omega, J.e2lo, fun i h1 h2 => ?_, fun i j h1 h2 h3 h4 => ?_⟩
  · by_cases e : i = lo
    · subst e; rw [J.e2lo]; omega
    · by_cases h3 : i < k
      · rw [J.e2a i (by omega) h3]; exact J.p1.pos i h1 h3
      · rw [J.e2b i (by omega) h2]; exact J.pF.pos i (by omega) h2
  · have hj : j < k' := by
      by_cases e : i = lo
      · subst e; rw [J.e2lo] at h4; exact h4
      · by_cases h5 : i < k
        · rw [J.e2a i (by omega) h5] at h4
          have := J.p1.le h1 h5; omega
        · rw [J.e2b i (by omega) h2] at h4
          have := J.pF.le (by omega) h2; omega
    have hend : ∀ x, lo ≤ x → x < k' → E2 x ≤ k' := fun x a b => by
      by_cases e : x = lo
      · subst e; rw [J.e2lo]; omega
      · by_cases h5 : x < k
        · rw [J.e2a x (by omega) h5]; have := J.p1.le a h5; omega
        · rw [J.e2b x (by omega) b]; exact J.pF.le (by omega) b
    by_cases e : i = lo
    · subst e; rw [J.e2lo]; exact hend j (by omega) hj
    · by_cases h5 : i < k
      · rw [J.e2a i (by omega) h5] at h4 ⊢
        have := J.p1.le h1 h5
        rw [J.e2a j (by omega) (by omega)]
        exact J.p1.lam i j h1 h5 h3 h4
      · rw [J.e2b i (by omega) h2] at h4 ⊢
        rw [J.e2b j (by omega) hj]
        exact J.pF.lam i j (by omega) h2 h3 h4

end

end Go.Proofs.YtkdomegcacgpnaaGreat

namespace Go.Proofs.YtkdomegcacgpnaaGreat
set_option linter.unusedVariables false
set_option linter.unusedSimpArgs false

/-- The places below n that are as asked, ascending. -/
def lb (P : Nat → Bool) : Nat → List Nat
  | 0 => []
  | k + 1 => if P k then lb P k ++ [k] else lb P k

theorem lb_mem {P : Nat → Bool} {x : Nat} : ∀ {n}, x ∈ lb P n → x < n ∧ P x = true := by
  intro n
  induction n with
  | zero => intro h; simp [lb] at h
  | succ n ih =>
    intro h
    simp only [lb] at h
    split at h
    · rename_i hp
      simp at h
      rcases h with h | rfl
      · have := ih h; exact ⟨by omega, this.2⟩
      · exact ⟨by omega, hp⟩
    · have := ih h; exact ⟨by omega, this.2⟩

theorem lb_gap {P : Nat → Bool} {a : Nat} : ∀ d, (∀ k, a ≤ k → k < a + d → P k = false) → lb P (a + d) = lb P a := by
  intro d
  induction d with
  | zero => intro _; rfl
  | succ d ih =>
    intro h
    show lb P (a + d + 1) = _
    simp only [lb]
    rw [h (a + d) (by omega) (by omega)]
    exact ih (fun k h1 h2 => h k h1 (by omega))

theorem lb_split {P : Nat → Bool} {a : Nat} : ∀ d, ∃ r, lb P (a + d) = lb P a ++ r ∧ ∀ x ∈ r, a ≤ x := by
  intro d
  induction d with
  | zero => exact ⟨[], by simp, by simp⟩
  | succ d ih =>
    obtain ⟨r, h1, h2⟩ := ih
    show ∃ r, lb P (a + d + 1) = _ ∧ _
    simp only [lb]
    split
    · refine ⟨r ++ [a + d], by rw [h1]; simp, fun x hx => ?_⟩
      simp at hx
      rcases hx with hx | rfl
      · exact h2 x hx
      · omega
    · exact ⟨r, h1, h2⟩

theorem lb_filter {P Q : Nat → Bool} : ∀ n, (lb P n).filter Q = lb (fun k => P k && Q k) n := by
  intro n
  induction n with
  | zero => rfl
  | succ n ih =>
    simp only [lb]
    by_cases hp : P n = true <;> by_cases hq : Q n = true <;> simp [hp, hq, ih]

theorem lb_length_le {P : Nat → Bool} : ∀ n, (lb P n).length ≤ n := by
  intro n
  induction n with
  | zero => exact Nat.le_refl _
  | succ n ih =>
    simp only [lb]
    split
    · rw [List.length_append]; simp; omega
    · omega

/-- The kids of p: every place whose parent is p. -/
theorem kids_lb {z : Nat → Nat} {n p : Nat} (hz : Nest z n) (hp : p < n) : kids z p = lb (fun k => par z k == some p) n := by
  have hpos := hz.pos p hp
  have hfit := hz.fit p hp
  have key : ∀ f k, (p + z p) - k ≤ f → p < k → k ≤ p + z p → (k < p + z p → par z k = some p) → lb (fun k => par z k == some p) k ++ kidsFrom z (p + z p) f k = lb (fun k => par z k == some p) (p + z p) := by
    intro f
    induction f with
    | zero =>
      intro k h1 h2 h3 _
      obtain rfl : k = p + z p := by omega
      simp [kidsFrom]
    | succ f ih =>
      intro k h1 h2 h3 h4
      by_cases hk : k < p + z p
      · have hpk := h4 hk
        have hk1 := hz.pos k (by omega)
        have hlam := hz.lam p k hp (by omega) hk
        simp only [kidsFrom, hk, if_true]
        have hnext := ih (k + z k) (by omega) (by omega) (by omega) (fun h => par_next hz hpk (by omega) h)
        rw [← hnext]
        have hg : lb (fun k => par z k == some p) (k + z k) = lb (fun k => par z k == some p) k ++ [k] := by
          have h5 := lb_gap (P := fun k => par z k == some p) (a := k + 1) (z k - 1) (fun j ha hb => by
            simp only [beq_eq_false_iff_ne, ne_eq]
            intro hj
            have := (par_some hj).2.2 k h2 (by omega)
            omega)
          rw [show k + 1 + (z k - 1) = k + z k by omega] at h5
          rw [h5]
          simp [lb, hpk]
        rw [hg]
        simp
      · obtain rfl : k = p + z p := by omega
        rw [kidsFrom_end (Nat.le_refl _)]
        simp
  have h0 : lb (fun k => par z k == some p) (p + 1) = [] := by
    have := lb_gap (P := fun k => par z k == some p) (a := 0) (p + 1) (fun j _ hb => by
      simp only [beq_eq_false_iff_ne, ne_eq]
      intro hj
      have := (par_some hj).1
      omega)
    rw [Nat.zero_add] at this
    rw [this]; rfl
  have hk := key (z p) (p + 1) (by omega) (by omega) (by omega) (fun h => par_first hp (by omega))
  rw [h0] at hk
  unfold kids
  simp only [List.nil_append] at hk
  rw [hk]
  have h6 := lb_gap (P := fun k => par z k == some p) (a := p + z p) (n - (p + z p)) (fun j ha hb => by
    simp only [beq_eq_false_iff_ne, ne_eq]
    intro hj
    have := (par_some hj).2.1
    omega)
  rw [show p + z p + (n - (p + z p)) = n by omega] at h6
  exact h6.symm

theorem up_par {z : Nat → Nat} {i : Nat} : up (fun i => i + z i) 0 i = par z i := by
  cases h : par z i with
  | some p =>
    obtain ⟨a, b, c⟩ := par_some h
    exact up_mk (Nat.zero_le _) a b c
  | none =>
    have := par_none h
    refine top_none (fun j hj => ?_)
    have := this j hj
    simp; omega

/-- The brother ahead. -/
theorem prv_some {z : Nat → Nat} {y q p : Nat} (hy : par z y = some p) (h : prvK (fun i => i + z i) 0 y = some q) : q < y ∧ par z q = some p ∧ q + z q = y := by
  obtain ⟨a, b, _⟩ := top_some h
  simp only [Bool.and_eq_true, decide_eq_true_eq, beq_iff_eq] at b
  rw [up_par, up_par, hy] at b
  exact ⟨a, b.2, b.1.2⟩

theorem prv_lb {z : Nat → Nat} {Q : Nat → Bool} {y q p : Nat} (hy : par z y = some p) (h : prvK (fun i => i + z i) 0 y = some q) :
    lb (fun k => (par z k == some p) && Q k) y = if Q q then lb (fun k => (par z k == some p) && Q k) q ++ [q] else lb (fun k => (par z k == some p) && Q k) q := by
  obtain ⟨a, b, c⟩ := prv_some hy h
  have hq := (par_some b).1
  have h5 := lb_gap (P := fun k => (par z k == some p) && Q k) (a := q + 1) (y - (q + 1)) (fun j ha hb => by
    have : (par z j == some p) = false := by
      simp only [beq_eq_false_iff_ne, ne_eq]
      intro hj
      have := (par_some hj).2.2 q hq (by omega)
      omega
    simp [this])
  rw [show q + 1 + (y - (q + 1)) = y by omega] at h5
  rw [h5]
  simp only [lb, b]
  simp

theorem prv_none_lb {z : Nat → Nat} {n : Nat} {Q : Nat → Bool} {y p : Nat} (hz : Nest z n) (hyn : y < n) (hy : par z y = some p) (h : prvK (fun i => i + z i) 0 y = none) : lb (fun k => (par z k == some p) && Q k) y = [] := by
  obtain ⟨p1, p2, p3⟩ := par_some hy
  have hno : ∀ d k, y - k ≤ d → k < y → par z k = some p → False := by
    intro d
    induction d with
    | zero => intro k h1 h2; omega
    | succ d ih =>
      intro k h1 h2 hk
      have hpk := (par_some hk).1
      have h4 := p3 k hpk h2
      have hk1 := hz.pos k (by omega)
      by_cases h5 : k + z k = y
      · have := top_none_of h k h2
        rw [up_par, up_par, hk, hy] at this
        simp [h5] at this
      · exact ih (k + z k) (by omega) (by omega) (par_next hz hk (by omega) (by omega))
  have h5 := lb_gap (P := fun k => (par z k == some p) && Q k) (a := 0) y (fun j _ hb => by
    have : (par z j == some p) = false := by
      simp only [beq_eq_false_iff_ne, ne_eq]
      intro hj
      exact hno _ j (Nat.le_refl _) (by omega) hj
    simp [this])
  rw [Nat.zero_add] at h5
  rw [h5]; rfl

end Go.Proofs.YtkdomegcacgpnaaGreat

namespace Go.Proofs.YtkdomegcacgpnaaGreat
open Go.RowKit
set_option linter.unusedVariables false
set_option linter.unusedSimpArgs false

/-- A node of a part, with its links. -/
def nodeR (E : Nat → Nat) (lo : Nat) (nb : Nat → Nat) (n : NodeD) (v : Value) (i : Nat) : NRec :=
  { par := (up E lo i).map nb, fst := (fstK E i).map nb, lst := (lstK E lo i).map nb, prv := (prvK E lo i).map nb, nxt := (nxtK E lo i).map nb, ty := tyOf n.kind, atom := 0, data := dataOf n, ns := ByteArray.empty, attr := v }

structure Seg (w : World) (E : Nat → Nat) (lo hi : Nat) (nb : Nat → Nat) (v : Nat → Value) (ts : List NodeD) (B : Nat) : Prop where
  node : ∀ i, lo ≤ i → i < hi → World.nodeAt w (nb i) (nodeR E lo nb (ts.getD i default) (v i) i)
  own : ∀ i, lo ≤ i → i < hi → w.ownsRow B 119 3 (v i) (ts.getD i default).attrs.length (attrCells (ts.getD i default).attrs)
  base : ∀ i, lo ≤ i → i < hi → B ≤ nb i
  inj : ∀ i j, lo ≤ i → i < hi → lo ≤ j → j < hi → nb i = nb j → i = j
  sep : ∀ i j, lo ≤ i → i < hi → lo ≤ j → j < hi → i ≠ j → ∀ b, (v i).ownBlock = some b → (v j).ownBlock ≠ some b

theorem map_congr {nb nb' : Nat → Nat} {x : Option Nat} (h : ∀ p, x = some p → nb p = nb' p) : x.map nb = x.map nb' := by
  cases x with
  | none => rfl
  | some p => simp [h p rfl]

theorem nodeR_congr {E : Nat → Nat} {lo hi : Nat} {nb nb' : Nat → Nat} {n : NodeD} {v : Value} {i : Nat} (hp : Part E lo hi) (h1 : lo ≤ i) (h2 : i < hi) (h : ∀ j, lo ≤ j → j < hi → nb j = nb' j) :
    nodeR E lo nb n v i = nodeR E lo nb' n v i := by
  obtain ⟨a, b, c, d, e⟩ := hp.links h1 h2
  unfold nodeR
  rw [map_congr (fun p hp => h p (a p hp).1 (a p hp).2), map_congr (fun p hp => h p (b p hp).1 (b p hp).2), map_congr (fun p hp => h p (c p hp).1 (c p hp).2),
    map_congr (fun p hp => h p (d p hp).1 (d p hp).2), map_congr (fun p hp => h p (e p hp).1 (e p hp).2)]

theorem Seg.congr {w : World} {E : Nat → Nat} {lo hi : Nat} {nb nb' : Nat → Nat} {v v' : Nat → Value} {ts : List NodeD} {B : Nat} (h : Seg w E lo hi nb v ts B) (hp : Part E lo hi)
    (hn : ∀ j, lo ≤ j → j < hi → nb j = nb' j) (hv : ∀ j, lo ≤ j → j < hi → v j = v' j) : Seg w E lo hi nb' v' ts B := by
  refine ⟨fun i a b => ?_, fun i a b => ?_, fun i a b => ?_, fun i j a b c d e => ?_, fun i j a b c d e x hx => ?_⟩
  · rw [← hn i a b, ← hv i a b, ← nodeR_congr hp a b hn]; exact h.node i a b
  · rw [← hv i a b]; exact h.own i a b
  · rw [← hn i a b]; exact h.base i a b
  · rw [← hn i a b, ← hn j c d] at e; exact h.inj i j a b c d e
  · rw [← hv i a b] at hx; rw [← hv j c d]; exact h.sep i j a b c d e x hx

theorem ownsRow_base {w : World} {B B' : Nat} {e : TypeId} {size : Nat} {v : Value} {n : Nat} {xs : List Value} (h : w.ownsRow B e size v n xs) (hB : B' ≤ B) : w.ownsRow B' e size v n xs := by
  refine ⟨h.1, ?_⟩
  rcases h.2 with h2 | ⟨g, cap, cur, a, b, r⟩
  · exact .inl h2
  · exact .inr ⟨g, cap, cur, a, Nat.le_trans hB b, r⟩

/-- What is owned stays owned where its block is as it was. -/
theorem ownsRow_kept {w w' : World} {B : Nat} {e : TypeId} {size : Nat} {v : Value} {n : Nat} {xs : List Value} (h : w.ownsRow B e size v n xs) (hk : ∀ b, v.ownBlock = some b → w'.heap[b]? = w.heap[b]?) : w'.ownsRow B e size v n xs := by
  refine ⟨h.1, ?_⟩
  rcases h.2 with h2 | ⟨g, cap, cur, rfl, b, hg, r⟩
  · exact .inl h2
  · exact .inr ⟨g, cap, cur, rfl, b, by rw [hk g rfl]; exact hg, r⟩

/-- The block of what is owned bears its element's type. -/
theorem ownsRow_type {w : World} {B : Nat} {e : TypeId} {size : Nat} {v : Value} {n : Nat} {xs : List Value} (h : w.ownsRow B e size v n xs) {b : Nat} (hb : v.ownBlock = some b) : ∃ cur, w.heap[b]? = some (.cells cur e (0, 0)) := by
  rcases h.2 with ⟨rfl, _⟩ | ⟨g, cap, cur, rfl, _, hg, _⟩
  · simp [Value.ownBlock] at hb
  · simp [Value.ownBlock] at hb; subst hb; exact ⟨cur, hg⟩

/-- A part stays where the blocks of nodes and attributes are as they were. -/
theorem Seg.kept {w w' : World} {E : Nat → Nat} {lo hi : Nat} {nb : Nat → Nat} {v : Nat → Value} {ts : List NodeD} {B : Nat} (h : Seg w E lo hi nb v ts B)
    (hk : ∀ b, b < w.heap.size → (∀ cur t fr, w.heap[b]? = some (.cells cur t fr) → t = 117 ∨ t = 119) → w'.heap[b]? = w.heap[b]?) : Seg w' E lo hi nb v ts B := by
  refine ⟨fun i a b => ?_, fun i a b => ?_, h.base, h.inj, h.sep⟩
  · have := h.node i a b
    unfold World.nodeAt at *
    rw [hk (nb i) (World.nodeAt.lt (h.node i a b)) (fun cur t fr hc => by rw [this] at hc; simp [NRec.obj] at hc; exact .inl hc.2.1.symm)]
    exact this
  · refine ownsRow_kept (h.own i a b) (fun x hx => ?_)
    obtain ⟨cur, hc⟩ := ownsRow_type (h.own i a b) hx
    exact hk x (World.ownsRow.lt (h.own i a b) x hx).2 (fun cur' t fr hc' => by rw [hc] at hc'; simp at hc'; exact .inr hc'.2.1.symm)

/-- .. behind a call that wrote to one row of another type alone. -/
theorem Seg.grown {w w' : World} {E : Nat → Nat} {lo hi : Nat} {nb : Nat → Nat} {v : Nat → Value} {ts : List NodeD} {B bl : Nat} (h : Seg w E lo hi nb v ts B) (hg : w.grownBy w' (some bl)) {arr : Array Value} {t : TypeId} {fr : Nat × Nat}
    (hb : w.heap[bl]? = some (.cells arr t fr)) (h1 : t ≠ 117) (h2 : t ≠ 119) : Seg w' E lo hi nb v ts B := by
  refine h.kept (fun b hlt ht => hg.block b hlt (fun e => ?_))
  simp at e; subst e
  rcases ht arr t fr hb with h3 | h3
  · exact h1 h3
  · exact h2 h3

theorem node_ne_own {w : World} {b : Nat} {r : NRec} (h : World.nodeAt w b r) {B : Nat} {size : Nat} {v : Value} {n : Nat} {xs : List Value} (ho : w.ownsRow B 119 size v n xs) : v.ownBlock ≠ some b := by
  intro hb
  obtain ⟨cur, hc⟩ := ownsRow_type ho hb
  unfold World.nodeAt at h
  rw [hc] at h
  simp [NRec.obj] at h

/-- What is owned stays owned where a node is written. -/
theorem ownsRow_putN {w : World} {b : Nat} {r r' : NRec} (h : World.nodeAt w b r) {B : Nat} {size : Nat} {v : Value} {n : Nat} {xs : List Value} (ho : w.ownsRow B 119 size v n xs) :
    (World.putN w b r').ownsRow B 119 size v n xs :=
  ownsRow_kept ho (fun x hx => World.heap_putN_other r' (fun e => node_ne_own h ho (by rw [hx, e])))

/-- The ends of the places, while a node's kids are not all there. -/
def Ez (z : Nat → Nat) (lo hi i : Nat) : Nat := if i = lo then hi else i + z i

theorem Ez_full (z : Nat → Nat) (lo : Nat) : Ez z lo (lo + z lo) = fun i => i + z i := by
  funext i
  unfold Ez
  split
  · rename_i h; rw [h]
  · rfl

/-- A part out of sizes. -/
theorem part_of {z : Nat → Nat} {n lo hi : Nat} (hz : Nest z n) (h1 : lo < hi) (h2 : hi ≤ n) (h3 : ∀ i, lo < i → i < hi → i + z i ≤ hi) : Part (Ez z lo hi) lo hi := by
  refine ⟨h1, by simp [Ez], fun i a b => ?_, fun i j a b c d => ?_⟩
  · unfold Ez
    split
    · omega
    · have := hz.pos i (by omega); omega
  · unfold Ez at *
    by_cases e : i = lo
    · subst e
      simp only [if_true] at d ⊢
      split
      · exact Nat.le_refl _
      · exact h3 j (by omega) d
    · simp only [e, if_false] at d ⊢
      have : j ≠ lo := by omega
      simp only [this, if_false]
      exact hz.lam i j (by omega) c d

theorem part_full {z : Nat → Nat} {n lo : Nat} (hz : Nest z n) (h : lo < n) : Part (fun i => i + z i) lo (lo + z lo) := by
  have := part_of (lo := lo) (hi := lo + z lo) hz (by have := hz.pos lo h; omega) (hz.fit lo h) (fun i a b => hz.lam lo i h (by omega) b)
  rwa [Ez_full] at this

theorem join_of {z : Nat → Nat} {n lo k : Nat} (hz : Nest z n) (h1 : lo < k) (h2 : k < n) (h3 : ∀ i, lo < i → i < k → i + z i ≤ k) : Join (Ez z lo k) (fun i => i + z i) (Ez z lo (k + z k)) lo k (k + z k) :=
  ⟨part_of hz h1 (by omega) h3, part_full hz h2, by simp [Ez], fun i a b => by simp [Ez, show i ≠ lo by omega], fun i a b => by simp [Ez, show i ≠ lo by omega]⟩

end Go.Proofs.YtkdomegcacgpnaaGreat

namespace Go.Proofs.YtkdomegcacgpnaaGreat
open Go.RowKit
set_option linter.unusedVariables false
set_option linter.unusedSimpArgs false

theorem prvK_lo {E : Nat → Nat} {lo : Nat} : prvK E lo lo = none := by
  refine top_none (fun j hj => ?_)
  have : ¬ lo ≤ j := by omega
  simp [this]

theorem nxtK_lo {E : Nat → Nat} {lo : Nat} : nxtK E lo lo = none := by unfold nxtK; rw [up_lo (Nat.le_refl _)]

section
variable {E1 F E2 : Nat → Nat} {lo k k' : Nat} (J : Join E1 F E2 lo k k') (nb : Nat → Nat) (n : NodeD) (v : Value)
include J

theorem Join.node_k0 (h : k = lo + 1) : nodeR E2 lo nb n v k = { nodeR F k nb n v k with par := some (nb lo) } := by
  unfold nodeR
  rw [J.up_k, J.fst_b (Nat.le_refl _) J.pF.lt, J.lst_b (Nat.le_refl _) J.pF.lt, J.prv_k, J.nxt_k, nxtK_lo, prvK_lo, J.p1.lst_none (by rw [J.p1.root]; omega)]
  rfl

theorem Join.node_k {l : Nat} (h : lstK E1 lo lo = some l) : nodeR E2 lo nb n v k = { nodeR F k nb n v k with par := some (nb lo), prv := some (nb l) } := by
  unfold nodeR
  rw [J.up_k, J.fst_b (Nat.le_refl _) J.pF.lt, J.lst_b (Nat.le_refl _) J.pF.lt, J.prv_k, J.nxt_k, nxtK_lo, h]
  rfl

theorem Join.node_b {i : Nat} (h1 : k < i) (h2 : i < k') : nodeR E2 lo nb n v i = nodeR F k nb n v i := by
  unfold nodeR
  rw [J.up_b h1 h2, J.fst_b (by omega) h2, J.lst_b (by omega) h2, J.prv_b h1 h2, J.nxt_b h1 h2]

theorem Join.node_lo0 (h : k = lo + 1) : nodeR E2 lo nb n v lo = { nodeR E1 lo nb n v lo with fst := some (nb k), lst := some (nb k) } := by
  unfold nodeR
  rw [up_lo (Nat.le_refl _), up_lo (Nat.le_refl _), J.fst_lo, J.lst_lo, prvK_lo, prvK_lo, nxtK_lo, nxtK_lo]
  rw [← h]
  rfl

theorem Join.node_lo (h : lo + 1 < k) : nodeR E2 lo nb n v lo = { nodeR E1 lo nb n v lo with lst := some (nb k) } := by
  unfold nodeR
  rw [up_lo (Nat.le_refl _), up_lo (Nat.le_refl _), J.fst_lo, J.fst_lo1 h, J.lst_lo, prvK_lo, prvK_lo, nxtK_lo, nxtK_lo]
  rfl

theorem Join.node_l {l : Nat} (h : lstK E1 lo lo = some l) : nodeR E2 lo nb n v l = { nodeR E1 lo nb n v l with nxt := some (nb k) } := by
  obtain ⟨a, b, c, d⟩ := J.p1.lst_end (Nat.le_refl _) J.p1.lt h
  rw [J.p1.root] at b d
  unfold nodeR
  rw [J.up_a a b, J.fst_a a b, J.lst_a a b, J.prv_a a b, J.nxt_a a b, if_pos ⟨c, d⟩]
  rfl

theorem Join.node_a {i : Nat} (h1 : lo < i) (h2 : i < k) (h3 : lstK E1 lo lo ≠ some i) : nodeR E2 lo nb n v i = nodeR E1 lo nb n v i := by
  unfold nodeR
  rw [J.up_a h1 h2, J.fst_a h1 h2, J.lst_a h1 h2, J.prv_a h1 h2, J.nxt_a h1 h2, if_neg]
  rintro ⟨a, b⟩
  refine h3 ?_
  refine top_mk (by rw [J.p1.root]; exact h2) (by simp [h1, a]) (fun j c d => ?_)
  rw [J.p1.root] at d
  by_cases h4 : up E1 lo j = some lo
  · have := up_some h4
    have := this.2.2.2 i h1 c
    have h5 := J.p1.pos j (by omega) d
    omega
  · simp [h4]

end

section
variable {E1 F E2 : Nat → Nat} {lo k k' : Nat} {w : World} {nb : Nat → Nat} {v : Nat → Value} {ts : List NodeD} {B B' : Nat}

/-- The blocks of the first part lie below those of the second one. -/
structure Ahead (w : World) (lo k : Nat) (nb : Nat → Nat) (v : Nat → Value) (B' : Nat) : Prop where
  node : ∀ i, lo ≤ i → i < k → nb i < B'
  own : ∀ i, lo ≤ i → i < k → ∀ b, (v i).ownBlock = some b → b < B'

theorem seg_join_props (J : Join E1 F E2 lo k k') (h1 : Seg w E1 lo k nb v ts B) (hF : Seg w F k k' nb v ts B') (hB : B ≤ B') (ha : Ahead w lo k nb v B') :
    (∀ i, lo ≤ i → i < k' → B ≤ nb i) ∧ (∀ i j, lo ≤ i → i < k' → lo ≤ j → j < k' → nb i = nb j → i = j) ∧
    (∀ i j, lo ≤ i → i < k' → lo ≤ j → j < k' → i ≠ j → ∀ b, (v i).ownBlock = some b → (v j).ownBlock ≠ some b) ∧
    (∀ i, lo ≤ i → i < k' → w.ownsRow B 119 3 (v i) (ts.getD i default).attrs.length (attrCells (ts.getD i default).attrs)) := by
  refine ⟨fun i a b => ?_, fun i j a b c d e => ?_, fun i j a b c d e x hx => ?_, fun i a b => ?_⟩
  · by_cases h : i < k
    · exact h1.base i a h
    · have := hF.base i (by omega) b; omega
  · by_cases h : i < k <;> by_cases h' : j < k
    · exact h1.inj i j a h c h' e
    · have := ha.node i a h; have := hF.base j (by omega) d; omega
    · have := ha.node j c h'; have := hF.base i (by omega) b; omega
    · exact hF.inj i j (by omega) b (by omega) d e
  · by_cases h : i < k <;> by_cases h' : j < k
    · exact h1.sep i j a h c h' e x hx
    · have h3 := ha.own i a h x hx
      intro hj
      have := (World.ownsRow.lt (hF.own j (by omega) d) x hj).1
      omega
    · intro hj
      have h3 := ha.own j c h' x hj
      have := (World.ownsRow.lt (hF.own i (by omega) b) x hx).1
      omega
    · exact hF.sep i j (by omega) b (by omega) d e x hx
  · by_cases h : i < k
    · exact h1.own i a h
    · exact ownsRow_base (hF.own i (by omega) b) hB

/-- The first kid. -/
theorem seg_join0 (J : Join E1 F E2 lo k k') (hk : k = lo + 1) (h1 : Seg w E1 lo k nb v ts B) (hF : Seg w F k k' nb v ts B') (hB : B ≤ B') (ha : Ahead w lo k nb v B') :
    Seg (World.putN (World.putN w (nb lo) { nodeR E1 lo nb (ts.getD lo default) (v lo) lo with fst := some (nb k), lst := some (nb k) }) (nb k) { nodeR F k nb (ts.getD k default) (v k) k with par := some (nb lo) }) E2 lo k' nb v ts B := by
  obtain ⟨p1, p2, p3, p4⟩ := seg_join_props J h1 hF hB ha
  have hl := J.p1.lt
  have hk' := J.pF.lt
  have nlo := h1.node lo (Nat.le_refl _) hl
  have nk := hF.node k (Nat.le_refl _) hk'
  have hne : nb k ≠ nb lo := fun e => by have := p2 k lo (by omega) hk' (Nat.le_refl _) (by omega) e; omega
  refine ⟨fun i a b => ?_, fun i a b => ?_, p1, p2, p3⟩
  · by_cases e : i = k
    · subst e
      rw [J.node_k0 nb _ _ hk]
      exact (nk.other _ hne).put _
    · have hik : nb i ≠ nb k := fun e' => e (p2 i k a b (by omega) hk' e')
      by_cases e2 : i = lo
      · subst e2
        rw [J.node_lo0 nb _ _ hk]
        exact (nlo.put _).other _ hik
      · have hil : nb i ≠ nb lo := fun e' => e2 (p2 i lo a b (Nat.le_refl _) (by omega) e')
        rw [J.node_b nb _ _ (by omega) b]
        exact ((hF.node i (by omega) b).other _ hil).other _ hik
  · exact ownsRow_putN (nk.other _ hne) (ownsRow_putN nlo (p4 i a b))

/-- A later kid. -/
theorem seg_join (J : Join E1 F E2 lo k k') {l : Nat} (hl : lstK E1 lo lo = some l) (h1 : Seg w E1 lo k nb v ts B) (hF : Seg w F k k' nb v ts B') (hB : B ≤ B') (ha : Ahead w lo k nb v B') :
    Seg (World.putN (World.putN (World.putN w (nb l) { nodeR E1 lo nb (ts.getD l default) (v l) l with nxt := some (nb k) }) (nb lo) { nodeR E1 lo nb (ts.getD lo default) (v lo) lo with lst := some (nb k) })
      (nb k) { nodeR F k nb (ts.getD k default) (v k) k with par := some (nb lo), prv := some (nb l) }) E2 lo k' nb v ts B := by
  obtain ⟨p1, p2, p3, p4⟩ := seg_join_props J h1 hF hB ha
  obtain ⟨la, lb, lc, ld⟩ := J.p1.lst_end (Nat.le_refl _) J.p1.lt hl
  rw [J.p1.root] at lb ld
  have hk' := J.pF.lt
  have hlo : lo + 1 < k := by omega
  have nlo := h1.node lo (Nat.le_refl _) (by omega)
  have nl := h1.node l (by omega) lb
  have nk := hF.node k (Nat.le_refl _) hk'
  have h1ne : nb k ≠ nb lo := fun e => by have := p2 k lo (by omega) hk' (Nat.le_refl _) (by omega) e; omega
  have h2ne : nb lo ≠ nb l := fun e => by have := p2 lo l (Nat.le_refl _) (by omega) (by omega) (by omega) e; omega
  have h3ne : nb k ≠ nb l := fun e => by have := p2 k l (by omega) hk' (by omega) (by omega) e; omega
  refine ⟨fun i a b => ?_, fun i a b => ?_, p1, p2, p3⟩
  · by_cases e : i = k
    · subst e
      rw [J.node_k nb _ _ hl]
      exact ((nk.other _ h3ne).other _ h1ne).put _
    · have hik : nb i ≠ nb k := fun e' => e (p2 i k a b (by omega) hk' e')
      by_cases e2 : i = lo
      · subst e2
        rw [J.node_lo nb _ _ hlo]
        exact ((nlo.other _ h2ne).put _).other _ hik
      · have hil : nb i ≠ nb lo := fun e' => e2 (p2 i lo a b (Nat.le_refl _) (by omega) e')
        by_cases e3 : i = l
        · subst e3
          rw [J.node_l nb _ _ hl]
          exact ((nl.put _).other _ hil).other _ hik
        · have hill : nb i ≠ nb l := fun e' => e3 (p2 i l a b (by omega) (by omega) e')
          by_cases e4 : i < k
          · rw [J.node_a nb _ _ (by omega) e4 (fun e' => by rw [hl] at e'; simp at e'; exact e3 e'.symm)]
            exact (((h1.node i a e4).other _ hill).other _ hil).other _ hik
          · rw [J.node_b nb _ _ (by omega) b]
            exact (((hF.node i (by omega) b).other _ hill).other _ hil).other _ hik
  · exact ownsRow_putN ((nk.other _ h3ne).other _ h1ne) (ownsRow_putN (nlo.other _ h2ne) (ownsRow_putN nl (p4 i a b)))

end
end Go.Proofs.YtkdomegcacgpnaaGreat

namespace Go.Proofs.YtkdomegcacgpnaaGreat
open Go.RowKit
set_option linter.unusedVariables false
set_option linter.unusedSimpArgs false

/-- The row of pointers: the places of a part hold the nodes' addresses, the others what they held. -/
structure Rowed (w w' : World) (bl lo hi : Nat) (nb : Nat → Nat) : Prop where
  row : ∃ arr arr', w.heap[bl]? = some (.cells arr 75 (0, 0)) ∧ w'.heap[bl]? = some (.cells arr' 75 (0, 0)) ∧ arr'.size = arr.size ∧
    (∀ i, lo ≤ i → i < hi → arr'[i]? = some (lk (some (nb i)))) ∧ (∀ i, ¬ (lo ≤ i ∧ i < hi) → arr'[i]? = arr[i]?)

theorem Rowed.cell {w w' : World} {bl lo hi : Nat} {nb : Nat → Nat} (h : Rowed w w' bl lo hi nb) {i : Nat} (h1 : lo ≤ i) (h2 : i < hi) : w'.cell? ⟨bl, i, none⟩ = some (.pointer (some ⟨nb i, 0, none⟩)) := by
  obtain ⟨arr, arr', a, b, c, d, e⟩ := h.row
  simp [World.cell?, b, d i h1 h2]

theorem Rowed.free {w w' : World} {bl lo hi : Nat} {nb : Nat → Nat} (h : Rowed w w' bl lo hi nb) (o : Nat) : w'.frozen? ⟨bl, o, none⟩ = false := by
  obtain ⟨arr, arr', a, b, c, d, e⟩ := h.row
  simp [World.frozen?, b]

structure Grew (ts : List NodeD) (bl lo : Nat) (nb nb' : Nat → Nat) (v v' : Nat → Value) (w w' : World) : Prop where
  seg : Seg w' (fun i => i + sz ts i) lo (lo + sz ts lo) nb' v' ts w.heap.size
  rowed : Rowed w w' bl lo (lo + sz ts lo) nb'
  grown : w.grownBy w' (some bl)
  sameN : ∀ i, ¬ (lo ≤ i ∧ i < lo + sz ts lo) → nb' i = nb i
  sameV : ∀ i, ¬ (lo ≤ i ∧ i < lo + sz ts lo) → v' i = v i

def GrowPost (ts : List NodeD) (bl lo : Nat) (nb : Nat → Nat) (v : Nat → Value) (w : World) (e : Ending) (w' : World) : Prop :=
  e = .returned (.tuple #[]) ∧ ∃ nb' v', Grew ts bl lo nb nb' v v' w w'

/-- What holds at the head of grow's loop. -/
structure Mid (ts : List NodeD) (bl lo k : Nat) (nb nb' : Nat → Nat) (v v' : Nat → Value) (w wr : World) : Prop where
  seg : Seg wr (Ez (sz ts) lo k) lo k nb' v' ts w.heap.size
  rowed : Rowed w wr bl lo k nb'
  grown : w.grownBy wr (some bl)
  sameN : ∀ i, ¬ (lo ≤ i ∧ i < k) → nb' i = nb i
  sameV : ∀ i, ¬ (lo ≤ i ∧ i < k) → v' i = v i

theorem grownBy_trans {w w1 w2 : World} {row : Option Nat} (h : w.grownBy w1 row) (h' : w1.grownBy w2 row) : w.grownBy w2 row :=
  ⟨h'.os.trans h.os, h'.tape.trans h.tape, h'.output.trans h.output, Nat.le_trans h.size h'.size, fun k hk hne => (h'.block k (Nat.lt_of_lt_of_le hk h.size) hne).trans (h.block k hk hne)⟩

theorem grownBy_below {w w' : World} (h : Below w.heap.size w w') (row : Option Nat) : w.grownBy w' row :=
  ⟨h.os, h.tape, h.output, h.size, fun k hk _ => h.block k hk⟩

/-- The first node, alone. -/
theorem mid_start {ts : List NodeD} {bl lo : Nat} {nb : Nat → Nat} {v : Nat → Value} {w w1 : World} {g : Nat} {av : Value} {arr : Array Value}
    (hb : w.heap[bl]? = some (.cells arr 75 (0, 0))) (hlo : lo < arr.size)
    (hn : World.nodeAt w1 g (aloneR (ts.getD lo default) av)) (ho : w1.ownsRow (g + 1) 119 3 av (ts.getD lo default).attrs.length (attrCells (ts.getD lo default).attrs))
    (hg : w.heap.size ≤ g) (hbel : Below w.heap.size w w1) :
    Mid ts bl lo (lo + 1) nb (fun i => if i = lo then g else nb i) v (fun i => if i = lo then av else v i) w (w1.setCell ⟨bl, lo, none⟩ (.pointer (some ⟨g, 0, none⟩))) := by
  have hbl : bl < w.heap.size := (Array.getElem?_eq_some_iff.1 hb).1
  have hb1 : w1.heap[bl]? = some (.cells arr 75 (0, 0)) := (hbel.block bl hbl).trans hb
  have hP : Part (Ez (sz ts) lo (lo + 1)) lo (lo + 1) := by
    refine ⟨by omega, by simp [Ez], fun i a b => ?_, fun i j a b c d => ?_⟩
    · obtain rfl : i = lo := by omega
      simp [Ez]
    · obtain rfl : i = lo := by omega
      simp only [Ez, if_true] at d
      obtain rfl : j = i := by omega
      exact Nat.le_refl _
  have hrest : ∀ k, k ≠ bl → (w1.setCell ⟨bl, lo, none⟩ (.pointer (some ⟨g, 0, none⟩))).heap[k]? = w1.heap[k]? := fun k hk => Below.heap_setCell _ _ _ _ hk
  have hgbl : g ≠ bl := by omega
  refine ⟨⟨fun i a b => ?_, fun i a b => ?_, fun i a b => ?_, fun i j a b c d _ => by omega, fun i j a b c d e => by omega⟩, ⟨arr, arr.setIfInBounds lo (.pointer (some ⟨g, 0, none⟩)), hb, ?_, by simp, fun i a b => ?_, fun i h => ?_⟩, ?_, fun i h => ?_, fun i h => ?_⟩
  · obtain rfl : i = lo := by omega
    simp only [if_true]
    have e : nodeR (Ez (sz ts) i (i + 1)) i (fun j => if j = i then g else nb j) (ts.getD i default) av i = aloneR (ts.getD i default) av := by
      unfold nodeR aloneR
      rw [up_lo (Nat.le_refl _), prvK_lo, nxtK_lo, hP.lst_none (by simp [Ez])]
      simp [fstK, Ez]
    rw [e]
    unfold World.nodeAt at *
    rw [hrest g hgbl]; exact hn
  · obtain rfl : i = lo := by omega
    simp only [if_true]
    refine ownsRow_base (B := g + 1) ?_ (by omega)
    refine ownsRow_kept ho (fun b hb' => hrest b ?_)
    have := (World.ownsRow.lt ho b hb').1
    omega
  · obtain rfl : i = lo := by omega
    simp only [if_true]; exact hg
  · simp [World.setCell, Array.getElem?_modify, hb1]
  · obtain rfl : i = lo := by omega
    simp [hlo]
  · rw [Array.getElem?_setIfInBounds_ne (by omega)]
  · refine ⟨hbel.os, hbel.tape, hbel.output, by simp; exact hbel.size, fun k hk hne => ?_⟩
    rw [hrest k (fun e => hne (by rw [e]))]
    exact hbel.block k hk
  · have : i ≠ lo := by omega
    simp [this]
  · have : i ≠ lo := by omega
    simp [this]

theorem Seg.drew {w : World} {E : Nat → Nat} {lo hi : Nat} {nb : Nat → Nat} {v : Nat → Value} {ts : List NodeD} {B : Nat} (h : Seg w E lo hi nb v ts B) : Seg w.drew E lo hi nb v ts B :=
  ⟨h.node, h.own, h.base, h.inj, h.sep⟩

/-- Behind the kid's own part: the two parts side by side. -/
theorem mid_pre {ts : List NodeD} {len bl lo k : Nat} {nb nb' nb2 : Nat → Nat} {v v' v2 : Nat → Value} {w wr w2 : World} (hz : Nest (sz ts) len) (h1 : lo < k) (h2 : k < len) (hin : ∀ j, lo < j → j < k → j + sz ts j ≤ k)
    (hm : Mid ts bl lo k nb nb' v v' w wr) (hg : Grew ts bl k nb' nb2 v' v2 wr w2) :
    Seg w2 (Ez (sz ts) lo k) lo k nb2 v2 ts w.heap.size ∧ Ahead w2 lo k nb2 v2 wr.heap.size ∧ w2.cell? ⟨bl, lo, none⟩ = some (.pointer (some ⟨nb2 lo, 0, none⟩)) ∧ w2.cell? ⟨bl, k, none⟩ = some (.pointer (some ⟨nb2 k, 0, none⟩)) ∧ Rowed w w2 bl lo (k + sz ts k) nb2 := by
  have hp := part_of hz h1 (by omega) hin
  have hkk := hz.pos k h2
  obtain ⟨arr, arr1, ra, rb, rc, rd, re⟩ := hm.rowed.row
  obtain ⟨brr, brr1, sa, sb, sc, sd, se⟩ := hg.rowed.row
  rw [rb] at sa
  simp at sa
  subst sa
  have hsame : ∀ j, lo ≤ j → j < k → nb' j = nb2 j := fun j a b => (hg.sameN j (by omega)).symm
  have hsv : ∀ j, lo ≤ j → j < k → v' j = v2 j := fun j a b => (hg.sameV j (by omega)).symm
  refine ⟨(hm.seg.grown hg.grown rb (by decide) (by decide)).congr hp hsame hsv, ⟨fun i a b => ?_, fun i a b x hx => ?_⟩, ?_, hg.rowed.cell (Nat.le_refl _) (by omega), ⟨arr, brr1, ra, sb, by rw [sc, rc], fun i a b => ?_, fun i h => ?_⟩⟩
  · rw [← hsame i a b]; exact World.nodeAt.lt (hm.seg.node i a b)
  · rw [← hsv i a b] at hx; exact (World.ownsRow.lt (hm.seg.own i a b) x hx).2
  · have : brr1[lo]? = some (lk (some (nb2 lo))) := by rw [se lo (by omega), rd lo (Nat.le_refl _) h1, hsame lo (Nat.le_refl _) h1]
    simp [World.cell?, sb, this]
  · by_cases hik : i < k
    · rw [se i (by omega), rd i a hik, hsame i a hik]
    · exact sd i (by omega) b
  · rw [se i (by omega), re i (by omega)]

/-- Behind AppendChild. -/
theorem mid_post {ts : List NodeD} {bl lo k : Nat} {nb nb' nb2 : Nat → Nat} {v v' v2 : Nat → Value} {w wr w2 w3 : World} (h1 : lo < k) (hkk : 1 ≤ sz ts k)
    (hm : Mid ts bl lo k nb nb' v v' w wr) (hg : Grew ts bl k nb' nb2 v' v2 wr w2) (hs : Seg w3 (Ez (sz ts) lo (k + sz ts k)) lo (k + sz ts k) nb2 v2 ts w.heap.size) (hr : Rowed w w2 bl lo (k + sz ts k) nb2)
    (ho : w3.os = w2.os) (ht : w3.tape = w2.tape) (hout : w3.output = w2.output) (hsz : w3.heap.size = w2.heap.size) (hb : ∀ b, (∀ i, lo ≤ i → i < k + sz ts k → b ≠ nb2 i) → w3.heap[b]? = w2.heap[b]?) (hbl : ∀ i, lo ≤ i → i < k + sz ts k → bl ≠ nb2 i) :
    Mid ts bl lo (k + sz ts k) nb nb2 v v2 w w3 := by
  have hgg := grownBy_trans hm.grown hg.grown
  refine ⟨hs, ?_, ?_, fun i h => ?_, fun i h => ?_⟩
  · obtain ⟨arr, brr1, ra, sb, r⟩ := hr.row
    exact ⟨arr, brr1, ra, by rw [hb bl hbl]; exact sb, r⟩
  · refine ⟨ho.trans hgg.os, ht.trans hgg.tape, hout.trans hgg.output, by rw [hsz]; exact hgg.size, fun b hlt hne => ?_⟩
    rw [hb b (fun i a c e => by have := hs.base i a c; omega)]
    exact hgg.block b hlt hne
  · rw [hg.sameN i (by omega), hm.sameN i (by omega)]
  · rw [hg.sameV i (by omega), hm.sameV i (by omega)]

/-- The call of AppendChild behind the kid's own part. -/
theorem grow_append {ts : List NodeD} {len bl lo k : Nat} {nb nb' nb2 : Nat → Nat} {v v' v2 : Nat → Value} {w wr w2 : World} (hz : Nest (sz ts) len) (h1 : lo < k) (h2 : k < len) (hin : ∀ j, lo < j → j < k → j + sz ts j ≤ k)
    (hm : Mid ts bl lo k nb nb' v v' w wr) (hg : Grew ts bl k nb' nb2 v' v2 wr w2) :
    Calls Tryz.prog 82 #[.pointer (some ⟨nb2 lo, 0, none⟩), .pointer (some ⟨nb2 k, 0, none⟩)] w2.drew fun e w3 => e = .returned (.tuple #[]) ∧
      Hid (Mid ts bl lo (k + sz ts k) nb nb2 v v2 w w3) := by
  obtain ⟨p1, p2, _, _, p5⟩ := mid_pre hz h1 h2 hin hm hg
  have J := join_of hz h1 h2 hin
  have hkk := hz.pos k h2
  have hF : Seg w2.drew (fun i => i + sz ts i) k (k + sz ts k) nb2 v2 ts wr.heap.size := hg.seg.drew
  have hA : Ahead w2.drew lo k nb2 v2 wr.heap.size := ⟨p2.node, p2.own⟩
  have hB : w.heap.size ≤ wr.heap.size := hm.grown.size
  have hall : ∀ i, lo ≤ i → i < k + sz ts k → ∃ r, World.nodeAt w2 (nb2 i) r := fun i a b => by
    by_cases h : i < k
    · exact ⟨_, p1.node i a h⟩
    · exact ⟨_, hg.seg.node i (by omega) b⟩
  have hbl : ∀ i, lo ≤ i → i < k + sz ts k → bl ≠ nb2 i := fun i a b e => by
    obtain ⟨r, hr⟩ := hall i a b
    obtain ⟨arr, arr1, _, hb, _⟩ := p5.row
    unfold World.nodeAt at hr
    rw [e, hr] at hb
    simp [NRec.obj] at hb
  have hbase := (seg_join_props J p1.drew hF hB hA).2.1
  have nlo := p1.drew.node lo (Nat.le_refl _) h1
  have nk := hF.node k (Nat.le_refl _) (by omega)
  have hne : nb2 lo ≠ nb2 k := fun e => by have := hbase lo k (Nat.le_refl _) (by omega) (by omega) (by omega) e; omega
  by_cases hk : k = lo + 1
  · have hs := seg_join0 J hk p1.drew hF hB hA
    refine (appendChild_first _ _ _ _ _ nlo nk hne (by simp [nodeR, J.p1.lst_none (i := lo) (by rw [J.p1.root]; omega)]) (by simp [nodeR, up_lo (Nat.le_refl _)]) (by simp [nodeR, prvK_lo]) (by simp [nodeR, nxtK_lo])).mono ?_
    rintro e w3 ⟨rfl, hw⟩
    rw [hw] at hs
    refine ⟨rfl, Lib.hid (mid_post h1 hkk hm hg hs p5 (by rw [← hw]; rfl) (by rw [← hw]; rfl) (by rw [← hw]; rfl) (by rw [← hw, World.size_putN, World.size_putN]; rfl) (fun b hb => ?_) hbl)⟩
    rw [← hw, World.heap_putN_other _ (hb k (by omega) (by omega)), World.heap_putN_other _ (hb lo (by omega) (by omega))]
    rfl
  · obtain ⟨l, hl⟩ := J.p1.lst_some (i := lo) (Nat.le_refl _) (by rw [J.p1.root]; omega)
    obtain ⟨la, lb, lc, ld⟩ := J.p1.lst_end (Nat.le_refl _) J.p1.lt hl
    rw [J.p1.root] at lb ld
    have hs := seg_join J hl p1.drew hF hB hA
    have nl := p1.drew.node l (by omega) lb
    have h2ne : nb2 l ≠ nb2 lo := fun e => by have := hbase l lo (by omega) (by omega) (Nat.le_refl _) (by omega) e; omega
    have h3ne : nb2 l ≠ nb2 k := fun e => by have := hbase l k (by omega) (by omega) (by omega) (by omega) e; omega
    refine (appendChild_later _ _ _ _ _ _ _ nlo nk nl hne h2ne h3ne (by simp [nodeR, hl]) (by simp [nodeR, up_lo (Nat.le_refl _)]) (by simp [nodeR, prvK_lo]) (by simp [nodeR, nxtK_lo])).mono ?_
    rintro e w3 ⟨rfl, hw⟩
    rw [hw] at hs
    refine ⟨rfl, Lib.hid (mid_post h1 hkk hm hg hs p5 (by rw [← hw]; rfl) (by rw [← hw]; rfl) (by rw [← hw]; rfl) (by rw [← hw, World.size_putN, World.size_putN, World.size_putN]; rfl) (fun b hb => ?_) hbl)⟩
    rw [← hw, World.heap_putN_other _ (hb k (by omega) (by omega)), World.heap_putN_other _ (hb lo (by omega) (by omega)), World.heap_putN_other _ (hb l (by omega) (by omega))]
    rfl

theorem mid_end {ts : List NodeD} {bl lo : Nat} {nb nb' : Nat → Nat} {v v' : Nat → Value} {w wr : World} (hm : Mid ts bl lo (lo + sz ts lo) nb nb' v v' w wr) : Grew ts bl lo nb nb' v v' w wr :=
  ⟨by rw [← Ez_full]; exact hm.seg, hm.rowed, hm.grown, hm.sameN, hm.sameV⟩

set_option maxRecDepth 100000 in
set_option maxHeartbeats 2000000 in
theorem grow_any (W : World) (a : Option Addr) (len cap : Nat) (ts : List NodeD) (hR : RightT ts len) (hNW : Nodes W a len ts) (bl lcap : Nat) (hbl : W.heap.size ≤ bl) (m : Nat) :
    ∀ (lo : Nat) (nb : Nat → Nat) (v : Nat → Value) (w : World) (arr : Array Value), sz ts lo ≤ m → lo < len → Below W.heap.size W w → w.heap[bl]? = some (.cells arr 75 (0, 0)) → arr.size = len →
    Calls Tryz.prog 66 #[.slice a len cap, .int .i64 lo, .slice (some ⟨bl, 0, none⟩) len lcap] w (GrowPost ts bl lo nb v w) := by
  have hlen := hR.le
  have HR := Lib.hid hR
  have HNW := Lib.hid hNW
  clear hR hNW
  induction m with
  | zero =>
    intro lo nb v w arr hm hlo
    have := (HR.out.sizes lo hlo).1
    omega
  | succ m ih =>
    intro lo nb v w arr hm hlo hbel hb harr
    have IH := Lib.hid ih
    have HB := Lib.hid hbel
    have HBL := Lib.hid hb
    have hz1 := (HR.out.sizes lo hlo).1
    have hzf := HR.out.nest.fit lo hlo
    have hsz : bl < w.heap.size := (Array.getElem?_eq_some_iff.1 hb).1
    have hN := HNW.out.below hbel
    obtain ⟨b, off, rfl, hc⟩ := hN.at (by omega)
    have c := hc lo hlo
    have hok := HR.out.node lo hlo
    have hz := (HR.out.sizes lo hlo).2.1
    have hms := fun (w1 : World) (g : Nat) (av : Value) => mid_start (ts := ts) (bl := bl) (lo := lo) (nb := nb) (v := v) (w := w) (w1 := w1) (g := g) (av := av) (arr := arr) hb (by omega)
    have hc4 : ∀ (w' : World), Below W.heap.size W w' → ∀ j, j < len → w'.cell? ⟨b, off + j * 5 + 4, none⟩ = some (.int .i64 (sz ts j : Int)) := fun w' hw' j hj => by
      obtain ⟨b', off', hbo, hcc⟩ := (HNW.out.below hw').at (by omega)
      simp only [Option.some.injEq, Addr.mk.injEq] at hbo
      obtain ⟨rfl, rfl, _⟩ := hbo
      rw [(hcc j hj).size, (HR.out.sizes j hj).2.1]
    obtain ⟨n, hn⟩ : ∃ n, ts.getD lo default = n := ⟨_, rfl⟩
    rw [hn] at c hok hms hz
    have halone := alone_any n _ lo w hok c.at_
    have c0 := c.kind
    have c1 := c.tag
    have c2 := c.text
    have c3 := c.attrs
    have c4 := c.size
    have HAL := Lib.hid halone
    have HN := Lib.hid hN
    have HMS := Lib.hid hms
    have HC4 := Lib.hid hc4
    have HNN := Lib.hid hn
    clear hok halone c hc hb hbel ih hN hn hz hms hc4
    go_enter Tryz.func66, Tryz.ntmps66
    go_wp2_with fail
    refine HAL.out.mono ?_
    rintro e w1 ⟨g, av, rfl, hnode, hown, hg, hb1⟩
    have hmid := HMS.out w1 g av hnode hown hg hb1
    have hcl : ∃ u, w1.cell? ⟨bl, lo, none⟩ = some u := by
      refine ⟨arr[lo]'(by omega), ?_⟩
      have : w1.heap[bl]? = some (.cells arr 75 (0, 0)) := (hb1.block bl hsz).trans HBL.out
      simp [World.cell?, this, show lo < arr.size by omega]
    obtain ⟨u, hcl⟩ := hcl
    have hfl : w1.frozen? ⟨bl, lo, none⟩ = false := by
      have : w1.heap[bl]? = some (.cells arr 75 (0, 0)) := (hb1.block bl hsz).trans HBL.out
      simp [World.frozen?, this]
    have HMID := Lib.hid hmid
    clear hmid hnode hown hg hb1 c0 c1 c2 c3 c4 HAL HMS
    go_wp2
    go_loopw [6] (fun i wr => ∃ (k : Nat) (nb' : Nat → Nat) (v' : Nat → Value), i = .int .i64 k ∧ lo < k ∧ k ≤ lo + sz ts lo ∧ (∀ j, lo < j → j < k → j + sz ts j ≤ k) ∧ Mid ts bl lo k nb nb' v v' w wr) (fun i _ => lo + sz ts lo - (intOf i).toNat)
    case atStart => exact ⟨lo + 1, _, _, by go_num, by omega, by omega, fun j h1 h2 => by omega, HMID.out⟩
    case round =>
      obtain ⟨k, nb', v', rfl, hk1, hk2, hin, hmid⟩ := hrel
      have hbelr : Below W.heap.size W wr := HB.out.grown hmid.grown HB.out.size (fun q hq => by simp at hq; omega)
      have c0 := HC4.out wr hbelr lo hlo
      have HM := Lib.hid hmid
      have HBR := Lib.hid hbelr
      have HIN := Lib.hid hin
      clear hmid hbelr hin
      by_cases hlt : k < lo + sz ts lo
      · have hkz1 := (HR.out.sizes k (by omega)).1
        have hkz2 := (HR.out.sizes lo hlo).2.2 k (by omega) hlt
        have ckz := fun (w' : World) (h' : Below W.heap.size W w') => HC4.out w' h' k (by omega)
        obtain ⟨arr, arr1, ra, rb, rc, rd, re⟩ := HM.out.rowed.row
        have hcall := IH.out k nb' v' wr arr1 (by omega) (by omega) HBR.out rb (by rw [rc]; have := HBL.out; rw [ra] at this; simp at this; rw [this]; exact harr)
        have HCALL := Lib.hid hcall
        have HCKZ := Lib.hid ckz
        clear hcall ckz ra rb rc rd re
        go_wp2_with fail
        refine HCALL.out.mono ?_
        rintro e w2 ⟨rfl, nb2, v2, hgrew⟩
        obtain ⟨_, _, p3, p4, _⟩ := mid_pre HR.out.nest hk1 (by omega) HIN.out HM.out hgrew
        have hB2 : Below W.heap.size W w2 := HBR.out.grown hgrew.grown HBR.out.size (fun q hq => by simp at hq; omega)
        have happ := grow_append HR.out.nest hk1 (by omega) HIN.out HM.out hgrew
        have HAPP := Lib.hid happ
        have HB2 := Lib.hid hB2
        clear hgrew hB2 HCALL c0 happ
        go_wp2_with fail
        have hloI : (lo : Int) < (len : Int) := by omega
        have hkI : (k : Int) < (len : Int) := by omega
        go_still_tail 8, (by kernel_rfl)
        go_wp2_with fail
        refine HAPP.out.mono ?_
        rintro e w3 ⟨rfl, HM3⟩
        have hB3 : Below W.heap.size W w3 := HB.out.grown HM3.out.grown HB.out.size (fun q hq => by simp at hq; omega)
        have c4 := HCKZ.out w3 hB3
        have HB3 := Lib.hid hB3
        clear hB3 p3 p4 HAPP
        go_wp2
        go_roundw
        · exact ⟨k + sz ts k, nb2, v2, by go_num, by omega, by omega, fun j h1 h2 => by
            rcases Nat.lt_trichotomy j k with h | rfl | h
            · have := HIN.out j h1 h; omega
            · exact Nat.le_refl _
            · exact HR.out.nest.lam k j (by omega) (by omega) (by omega), HM3.out⟩
        · simp only [intOf]; omega
      · obtain rfl : k = lo + sz ts lo := by omega
        have hend := mid_end HM.out
        have HE := Lib.hid hend
        clear hend HM HIN
        go_wp2
        go_end0
        exact ⟨rfl, nb', v', HE.out⟩

end Go.Proofs.YtkdomegcacgpnaaGreat

namespace Go.Proofs.YtkdomegcacgpnaaGreat
open Go.RowKit
set_option linter.unusedVariables false
set_option linter.unusedSimpArgs false

theorem Seg.weaken {w : World} {E : Nat → Nat} {lo hi : Nat} {nb : Nat → Nat} {v : Nat → Value} {ts : List NodeD} {B B' : Nat} (h : Seg w E lo hi nb v ts B) (hB : B' ≤ B) : Seg w E lo hi nb v ts B' :=
  ⟨h.node, fun i a b => ownsRow_base (h.own i a b) hB, fun i a b => Nat.le_trans hB (h.base i a b), h.inj, h.sep⟩

/-- A tree in memory, behind the block B: a row of pointers, the nodes. -/
structure Forest (B : Nat) (w : World) (bl len : Nat) (nb : Nat → Nat) (v : Nat → Value) (ts : List NodeD) : Prop where
  seg : Seg w (fun i => i + sz ts i) 0 len nb v ts B
  base : B ≤ bl
  row : ∃ arr, w.heap[bl]? = some (.cells arr 75 (0, 0)) ∧ arr.size = len ∧ ∀ i, i < len → arr[i]? = some (lk (some (nb i)))

theorem Forest.cell {B : Nat} {w : World} {bl len : Nat} {nb : Nat → Nat} {v : Nat → Value} {ts : List NodeD} (h : Forest B w bl len nb v ts) {i : Nat} (hi : i < len) : w.cell? ⟨bl, i, none⟩ = some (.pointer (some ⟨nb i, 0, none⟩)) := by
  obtain ⟨arr, a, b, c⟩ := h.row
  simp [World.cell?, a, c i hi]

theorem Forest.node {B : Nat} {w : World} {bl len : Nat} {nb : Nat → Nat} {v : Nat → Value} {ts : List NodeD} (h : Forest B w bl len nb v ts) {i : Nat} (hi : i < len) : World.nodeAt w (nb i) (nodeR (fun i => i + sz ts i) 0 nb (ts.getD i default) (v i) i) := h.seg.node i (Nat.zero_le _) hi

/-- What comes behind does not change it. -/
theorem Forest.below {B : Nat} {w w' : World} {bl len : Nat} {nb : Nat → Nat} {v : Nat → Value} {ts : List NodeD} (h : Forest B w bl len nb v ts) (hb : Below w.heap.size w w') : Forest B w' bl len nb v ts := by
  obtain ⟨arr, a, b, c⟩ := h.row
  have ha : ∀ k, k < w.heap.size → w'.heap[k]? = w.heap[k]? := hb.block
  refine ⟨⟨fun i x y => ?_, fun i x y => ?_, h.seg.base, h.seg.inj, h.seg.sep⟩, h.base, arr, ?_, b, c⟩
  · have hn := h.seg.node i x y
    have hl := hn.lt
    unfold World.nodeAt at hn ⊢
    rw [ha _ hl]; exact hn
  · refine ownsRow_kept (h.seg.own i x y) (fun k hk => ha k ?_)
    exact (World.ownsRow.lt (h.seg.own i x y) k hk).2
  · rw [ha bl (Array.getElem?_eq_some_iff.1 a).1]; exact a

def GrownPost (ts : List NodeD) (len : Nat) (W : World) (e : Ending) (w : World) : Prop :=
  ∃ bl nb v, e = .returned (.tuple #[.slice (some ⟨bl, 0, none⟩) len len, .bool true]) ∧ Hid (Forest W.heap.size w bl len nb v ts) ∧ Hid (Below W.heap.size W w)

theorem made_info : (Tryz.prog.info? 75).map (fun i => (i.zero, i.size, i.bytes)) = some (some (.pointer none), 1, 8) := by kernel_rfl

theorem grown_make (n : Nat) (hn : n ≤ 200) (w : World) : (Instr.makeSlice 48 (.int .i64 (n : Int)) (.int .i64 (n : Int))).run Tryz.prog w = .ok (.slice (some ⟨w.heap.size, 0, none⟩) n n) (w.alloc (.cells (madeCells #[.pointer none] n) 75)) :=
  run_make_row' 48 75 (.pointer none) 8 Tryz.underlying48 made_info rfl .i64 .i64 n (by omega) (by omega) w

set_option maxRecDepth 100000 in
set_option maxHeartbeats 1000000 in
theorem grown_any (W : World) (a : Option Addr) (len cap : Nat) (ts : List NodeD) (hR : RightT ts len) (h : Nodes W a len ts) :
    Calls Tryz.prog 30 #[.slice a len cap] W (GrownPost ts len W) := by
  have hlen := hR.le
  have hpos := hR.pos
  have hyes := iright_any a len cap ts hR W h
  have hgrow : ∀ (w1 : World), Below W.heap.size W w1 → Calls Tryz.prog 66 #[.slice a len cap, .int .i64 0, .slice (some ⟨w1.heap.size, 0, none⟩) len len] (w1.alloc (.cells (madeCells #[.pointer none] len) 75))
      (GrowPost ts w1.heap.size 0 (fun _ => 0) (fun _ => .pointer none) (w1.alloc (.cells (madeCells #[.pointer none] len) 75))) := fun w1 hb =>
    grow_any W a len cap ts hR h w1.heap.size len hb.size len 0 _ _ _ _ (by rw [hR.root]; exact Nat.le_refl _) hpos (hb.alloc hb.size _) (heap_alloc_new _ _) (size_madeCells _ _)
  have hmk := fun w => grown_make len hlen w
  have HR := Lib.hid hR
  have HY := Lib.hid hyes
  have HG := Lib.hid hgrow
  clear hR hyes hgrow h
  go_enter Tryz.func30, Tryz.ntmps30
  go_wp2_with fail
  refine HY.out.mono ?_
  rintro e w1 ⟨rfl, hb1⟩
  have hcall := HG.out w1 hb1
  have HC := Lib.hid hcall
  have HB := Lib.hid hb1
  clear hcall hb1 HG HY
  go_wp2_with fail
  refine HC.out.mono ?_
  rintro e w2 ⟨rfl, nb, v, hgrew⟩
  have hfin : Forest W.heap.size w2 w1.heap.size len nb v ts ∧ Below W.heap.size W w2 := by
    have hbs := HB.out.size
    have hr := HR.out.root
    have hseg := hgrew.seg
    rw [hr, Nat.zero_add] at hseg
    refine ⟨⟨hseg.weaken (by simp; omega), hbs, ?_⟩, ?_⟩
    · obtain ⟨arr, arr', r1, r2, r3, r4, r5⟩ := hgrew.rowed.row
      rw [heap_alloc_new] at r1
      simp only [Option.some.injEq, Obj.cells.injEq] at r1
      refine ⟨arr', r2, ?_, fun i hi => r4 i (Nat.zero_le _) (by rw [hr]; omega)⟩
      rw [r3, ← r1.1]; exact size_madeCells _ _
    · exact (HB.out.alloc hbs _).grown hgrew.grown (by simp; omega) (fun q hq => by simp at hq; omega)
  have HF := Lib.hid hfin.1
  have HB2 := Lib.hid hfin.2
  clear hfin hgrew HB HC
  go_wp2
  go_ret2
  exact ⟨w1.heap.size, nb, v, rfl, HF, HB2⟩

end Go.Proofs.YtkdomegcacgpnaaGreat

