/- The order of a forest behind nodes that were cut out: the others, in their order; plain. -/
import Derived.Test.YtkdomegcacgpnaaGreatWoodAll
namespace Go.Proofs.YtkdomegcacgpnaaGreat
set_option linter.unusedVariables false
set_option linter.unusedSimpArgs false

theorem Fl.cut {n : Nat} {F : Wd} (hF : WOk n F) {x : Nat} {g : Nat → Bool} (hg : ∀ y, g y = true ↔ ¬ Anc F x y) {xs L : List Nat} (h : Fl F.kids xs L) : (∀ q ∈ xs, Anc F x q → q = x) → Fl (F.cut x).kids (xs.filter (fun y => y != x)) (L.filter g) := by
  induction h with
  | nil => intro _; exact .nil
  | @cons z xs A B h1 h2 ih1 ih2 =>
    intro hx
    have hB := ih2 (fun q hq => hx q (List.mem_cons_of_mem _ hq))
    by_cases e : z = x
    · subst e
      have e1 : (z :: xs).filter (fun y => y != z) = xs.filter (fun y => y != z) := by simp
      have e2 : (z :: (A ++ B)).filter g = B.filter g := by
        have h3 : ∀ y ∈ z :: A, ¬ g y = true := fun y hy hgy => by
          rw [hg] at hgy
          rcases List.mem_cons.1 hy with rfl | hy
          · exact hgy .refl
          · obtain ⟨k, hk, ha⟩ := (h1.anc hF y).1 hy
            exact hgy (Anc.trans (.step ((hF.iff z k).1 hk) .refl) ha)
        rw [← List.cons_append, List.filter_append, List.filter_eq_nil_iff.2 h3]
        rfl
      rw [e1, e2]
      exact hB
    · have hz : ¬ Anc F x z := fun ha => e (hx z (List.mem_cons_self ..) ha)
      have e1 : (z :: xs).filter (fun y => y != x) = z :: xs.filter (fun y => y != x) := by simp [e]
      have e2 : (z :: (A ++ B)).filter g = z :: (A.filter g ++ B.filter g) := by
        rw [List.filter_cons, if_pos ((hg z).2 hz), List.filter_append]
      rw [e1, e2]
      refine Fl.cons (ih1 (fun q hq ha => ?_)) hB
      rcases ha.inv with e3 | ⟨p, hp, hap⟩
      · exact e3.symm
      · rw [(hF.iff z q).1 hq] at hp
        cases hp
        exact absurd hap hz

theorem Anc.of_cut {F : Wd} {x a y : Nat} (h : Anc (F.cut x) a y) : Anc F a y := by
  induction h with
  | refl => exact .refl
  | @step y p hu _ ih =>
    simp only [Wd.cut] at hu
    split at hu
    · cases hu
    · exact .step hu ih

theorem Anc.to_cut {F : Wd} {x a y : Nat} (h : Anc F a y) : ¬ Anc F x y → Anc (F.cut x) a y := by
  induction h with
  | refl => intro _; exact .refl
  | @step y p hu _ ih =>
    intro hx
    refine .step ?_ (ih (fun ha => hx (.step hu ha)))
    simp only [Wd.cut]
    rw [if_neg (fun e => hx (by rw [e]; exact .refl))]
    exact hu

theorem Fl.cuts {n : Nat} {r : Nat} {L : List Nat} : ∀ (l : List Nat) (F : Wd), WOk n F → F.up r = none → r ∉ l → Fl F.kids [r] L → ∃ g : Nat → Bool, Fl (cutsW F l).kids [r] (L.filter g) ∧ ∀ y, g y = true ↔ ∀ x ∈ l, ¬ Anc F x y := by
  intro l
  induction l generalizing L with
  | nil =>
    intro F _ _ _ h
    exact ⟨fun _ => true, by rw [List.filter_eq_self.2 (fun _ _ => rfl)]; exact h, fun y => by simp⟩
  | cons x l ih =>
    intro F hF hr hx h
    classical
    simp only [List.mem_cons, not_or] at hx
    have h1 := Fl.cut hF (x := x) (g := fun y => decide (¬ Anc F x y)) (fun y => by simp) h (fun q hq ha => by
      simp only [List.mem_singleton] at hq
      subst hq
      rcases ha.inv with e | ⟨p, hp, _⟩
      · exact e.symm
      · rw [hr] at hp; cases hp)
    have e1 : [r].filter (fun y => y != x) = [r] := by simp [hx.1]
    rw [e1] at h1
    have hr2 : (F.cut x).up r = none := by simp only [Wd.cut, if_neg hx.1]; exact hr
    obtain ⟨g2, h2, h3⟩ := ih (F.cut x) (hF.cut x) hr2 hx.2 h1
    refine ⟨fun y => decide (¬ Anc F x y) && g2 y, ?_, fun y => ?_⟩
    · rw [List.filter_filter] at h2
      have e2 : (fun a => g2 a && decide (¬ Anc F x a)) = (fun y => decide (¬ Anc F x y) && g2 y) := funext fun a => Bool.and_comm _ _
      rw [e2] at h2
      exact h2
    · simp only [Bool.and_eq_true, decide_eq_true_eq, h3 y, List.mem_cons, forall_eq_or_imp]
      refine and_congr_right (fun hy => ?_)
      refine forall_congr' (fun z => forall_congr' (fun _ => not_congr ⟨fun h => h.of_cut, fun h => h.to_cut hy⟩))

theorem posFrom_count {g : Nat → Bool} : ∀ (d a N i : Nat), a ≤ i → i < a + d → g i = true → posFrom ((List.range' a d).filter g) N i = ((N + ((List.range' a (i - a)).filter g).length : Nat) : Int) := by
  intro d
  induction d with
  | zero => intro a N i h1 h2; omega
  | succ d ih =>
    intro a N i h1 h2 hg
    rw [List.range'_succ]
    by_cases e : i = a
    · subst e
      rw [List.filter_cons, if_pos hg]
      simp [posFrom]
    · have e1 : i - a = (i - (a + 1)) + 1 := by omega
      rw [e1, List.range'_succ]
      by_cases ha : g a = true
      · rw [List.filter_cons, if_pos ha, List.filter_cons, if_pos ha]
        simp only [posFrom, if_neg (Ne.symm e), List.length_cons]
        rw [ih (a + 1) (N + 1) i (by omega) (by omega) hg]
        congr 1
        omega
      · rw [List.filter_cons, if_neg ha, List.filter_cons, if_neg ha]
        exact ih (a + 1) N i (by omega) (by omega) hg

/-- How many of the first ones count. -/
def cnt (g : Nat → Bool) (i : Nat) : Nat := ((List.range i).filter g).length

theorem cnt_succ (g : Nat → Bool) (i : Nat) : cnt g (i + 1) = cnt g i + (if g i = true then 1 else 0) := by
  unfold cnt
  rw [List.range_succ, List.filter_append, List.length_append]
  by_cases h : g i = true
  · simp [h]
  · simp [h]

theorem cnt_le (g : Nat → Bool) {i j : Nat} (h : i ≤ j) : cnt g i ≤ cnt g j := by
  induction j with
  | zero => obtain rfl : i = 0 := by omega
            exact Nat.le_refl _
  | succ j ih =>
    by_cases e : i = j + 1
    · subst e; exact Nat.le_refl _
    · have := ih (by omega)
      rw [cnt_succ]
      omega

/-- The counted one is the one at its number. -/
theorem cnt_at {g : Nat → Bool} {i n : Nat} (hi : i < n) (hg : g i = true) : ((List.range n).filter g).getD (cnt g i) 0 = i := by
  induction n with
  | zero => omega
  | succ n ih =>
    rw [List.range_succ, List.filter_append, List.getD_eq_getElem?_getD]
    by_cases e : i = n
    · subst e
      rw [show cnt g i = (List.filter g (List.range i)).length from rfl, List.getElem?_append_right (Nat.le_refl _)]
      simp [hg]
    · have h1 : cnt g i < ((List.range n).filter g).length := by
        have h2 := cnt_succ g i
        rw [if_pos hg] at h2
        have h3 := cnt_le g (show i + 1 ≤ n by omega)
        have h4 : cnt g n = ((List.range n).filter g).length := rfl
        omega
      rw [List.getElem?_append_left h1, ← List.getD_eq_getElem?_getD]
      exact ih (by omega)

/-- What a removal leaves: the order, and where each node is. -/
theorem removed_order {z : Nat → Nat} {n : Nat} (hz : Nest z n) (h0 : 0 < n) (hr : z 0 = n) {l : List Nat} (hl : 0 ∉ l) {C : List (Nat × Nat)} (hC : Fs (cutsW (wd0 z n) l).kids [0] C) :
    ∃ g : Nat → Bool, C.map (·.1) = (List.range n).filter g ∧ (∀ y, g y = true ↔ ∀ x ∈ l, ¬ Anc (wd0 z n) x y) ∧ ∀ i, i < n → posFrom (C.map (·.1)) 0 i = if g i = true then (cnt g i : Int) else -1 := by
  have h1 := wd0_root hz h0 hr
  have hu : (wd0 z n).up 0 = none := by simp [wd0, h0]; rfl
  obtain ⟨g, h2, h3⟩ := Fl.cuts l (wd0 z n) (wd0_ok hz) hu hl h1
  have h4 : C.map (·.1) = (List.range n).filter g := by rw [hC.fl.det h2, List.range_eq_range']
  refine ⟨g, h4, h3, fun i hi => ?_⟩
  rw [h4]
  by_cases hg : g i = true
  · rw [if_pos hg]
    have h5 := posFrom_count (g := g) n 0 0 i (Nat.zero_le _) (by omega) hg
    rw [List.range_eq_range', h5, Nat.zero_add, Nat.sub_zero]
    unfold cnt
    rw [List.range_eq_range']
  · rw [if_neg hg]
    refine posFrom_not _ _ (fun hm => hg ?_)
    exact (List.mem_filter.1 hm).2

end Go.Proofs.YtkdomegcacgpnaaGreat
