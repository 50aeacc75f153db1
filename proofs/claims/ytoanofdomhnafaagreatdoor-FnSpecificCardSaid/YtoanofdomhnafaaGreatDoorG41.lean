/- Parts of a proof: RegInv, Plan. -/
import Derived.Test.YtoanofdomhnafaaGreatDoorG00
import Derived.Deep.RegionHeld3
set_option linter.unusedVariables false
set_option linter.unusedSimpArgs false
namespace Go.Proofs.YtoanofdomhnafaaGreatDoor
open Go
section
variable {P : Program} {ops : Array Oper} {Q : Exit → Act → World → Prop} {md : Region.Mode}
theorem count_less : ∀ (L : List Bool) (i : Nat), L[i]? = some false → (L.set i true).count false + 1 = L.count false
  | [], i, h => by simp at h
  | b :: L, 0, h => by
    simp at h
    subst h
    simp
  | b :: L, i + 1, h => by
    have ih := count_less L i (by simpa using h)
    simp only [List.set_cons_succ, List.count_cons]
    omega
/-- J holds at the start; each operation that may come keeps it; where none may come, what is wanted holds. -/
theorem wpAny_inv {J : Array Bool → Act → World → Prop} (hend : ∀ L a w, J L a w → Region.ready md ops L = [] → Q .normal a w)
    (hstep : ∀ L a w i, J L a w → i ∈ Region.ready md ops L → wpOp P ops Q i (J (L.setIfInBounds i true)) a w) :
    ∀ (fuel : Nat) (L : Array Bool) (a : Act) (w : World), J L a w → L.toList.count false ≤ fuel → wpAny P md ops Q fuel L a w
  | 0, L, a, w, h, hc => by
    have hr : Region.ready md ops L = [] := by
      apply List.eq_nil_iff_forall_not_mem.2
      intro i hi
      have h1 := (mem_ready.1 hi).1
      rw [Array.getD_eq_getD_getElem?] at h1
      cases hg : L[i]? with
      | none => rw [hg] at h1; simp at h1
      | some b =>
        rw [hg] at h1
        simp at h1
        subst h1
        have := count_less L.toList i (by simpa using hg)
        omega
    exact ⟨hr, hend L a w h hr⟩
  | fuel + 1, L, a, w, h, hc => by
    refine ⟨fun hr => hend L a w h hr, fun i hi => wpOp_mono (fun a' w' h' => wpAny_inv hend hstep fuel _ a' w' h' ?_) (hstep L a w i h hi)⟩
    have h1 := (mem_ready.1 hi).1
    rw [Array.getD_eq_getD_getElem?] at h1
    cases hg : L[i]? with
    | none => rw [hg] at h1; simp at h1
    | some b =>
      rw [hg] at h1
      simp at h1
      subst h1
      have := count_less L.toList i (by simpa using hg)
      rw [Array.toList_setIfInBounds]
      omega
/-- An operation without a guard. -/
theorem wpOp_plain {i : Nat} {o : Oper} {a : Act} {w : World} {K : Act → World → Prop} (hi : ops[i]? = some o) (hg : o.guard = none) (h : o.wp P a w K Q) : wpOp P ops Q i K a w := by
  unfold wpOp
  simp only [hi]
  have hw : Region.wanted o (yielded ops a.tmps) = true := by
    unfold Region.wanted
    rw [hg]
  rw [if_pos hw]
  exact .inl h
/-- The frame but for the slots that the region fills. -/
structure FrA (ops : Array Oper) (a0 a : Act) : Prop where
  defers : a.defers = a0.defers
  size : a.tmps.size = a0.tmps.size
  rest : ∀ t, (∀ (i : Nat) (o : Oper), ops[i]? = some o → o.dst ≠ some t) → a.tmps.getD t undef = a0.tmps.getD t undef
theorem getD_put {a : Act} {t u : Tmp} {v : Value} (h : t < a.tmps.size) : (a.put (some t) v).tmps.getD u undef = if u = t then v else a.tmps.getD u undef := by
  show (a.tmps.setIfInBounds t v).getD u undef = _
  by_cases e : u = t
  · subst e
    rw [if_pos rfl, Array.getD_eq_getD_getElem?, Array.getElem?_setIfInBounds_self_of_lt h]
    rfl
  · rw [if_neg e, Array.getD_eq_getD_getElem?, Array.getD_eq_getD_getElem?, Array.getElem?_setIfInBounds_ne (fun h => e h.symm)]
/-- A drawn region by plan: each operation's value is good (G) once those that it waits for are; S holds of every world on the way. -/
theorem wp_plan {id : Nat} {a0 : Act} {w0 : World} (hm : P.follows .mixedOrders = true) (G : Nat → Value → World → Prop) (S : World → Prop) (Rr : World → World → Prop)
    (mono : ∀ i v w w', G i v w → Rr w w' → G i v w')
    (hd : ∀ (i j : Nat) (oi oj : Oper) (t : Tmp), ops[i]? = some oi → ops[j]? = some oj → oi.dst = some t → oj.dst = some t → i = j)
    (hr : ∀ (i : Nat) (o : Oper) (t : Tmp), ops[i]? = some o → o.dst = some t → t < a0.tmps.size)
    (hlt : ∀ (i : Nat) (o : Oper) e, ops[i]? = some o → e ∈ o.after → Region.binds .any e = true → e.on < i)
    (h0 : S { w0 with drawn := w0.drawn + 1 })
    (step : ∀ (i : Nat) (o : Oper) (a : Act) (w : World), ops[i]? = some o → S w → FrA ops a0 a → (∀ e ∈ o.after, Region.binds .any e = true → ∀ (od : Oper) (t : Tmp), ops[e.on]? = some od → od.dst = some t → G e.on (a.tmps.getD t undef) w) →
      wpOp P ops Q i (fun a' w' => ∃ v, a' = a.put o.dst v ∧ G i v w' ∧ S w' ∧ Rr w w') a w)
    (done : ∀ (a : Act) (w : World), S w → FrA ops a0 a → (∀ (i : Nat) (o : Oper) (t : Tmp), ops[i]? = some o → o.dst = some t → G i (a.tmps.getD t undef) w) → Q .normal a w) :
    (Code.region id ops true).wp P Q a0 w0 := by
  refine wp_region_any hm ?_
  refine wpAny_inv (J := fun L a w => L.size = ops.size ∧ S w ∧ FrA ops a0 a ∧ ∀ (i : Nat) (o : Oper) (t : Tmp), ops[i]? = some o → o.dst = some t → L.getD i false = true → G i (a.tmps.getD t undef) w) ?_ ?_ _ _ _ _ ⟨by simp, h0, ⟨rfl, rfl, fun _ _ => rfl⟩, ?_⟩ ?_
  · rintro L a w ⟨hL, hS, hF, hG⟩ hre
    refine done a w hS hF fun i o t hi ho => hG i o t hi ho ?_
    have all : ∀ (n i : Nat), i < n → i < ops.size → L.getD i false = true := by
      intro n
      induction n with
      | zero => intro i h; omega
      | succ n ih =>
        intro i hin hio
        cases hb : L.getD i false
        · exfalso
          have : i ∈ Region.ready .any ops L := by
            refine mem_ready.2 ⟨?_, ops[i], by simp [hio], fun e he hbe => ?_⟩
            · rw [Array.getD_eq_getD_getElem?] at hb ⊢
              rw [Array.getElem?_eq_getElem (by omega)] at hb ⊢
              simpa using hb
            · have := hlt i ops[i] e (by simp [hio]) he hbe
              exact ih e.on (by omega) (by omega)
          rw [hre] at this
          cases this
        · rfl
    have hio := (Array.getElem?_eq_some_iff.1 hi).1
    exact all (i + 1) i (by omega) hio
  · rintro L a w i ⟨hL, hS, hF, hG⟩ hi
    obtain ⟨hun, o, ho, hdep⟩ := mem_ready.1 hi
    refine wpOp_mono (fun a' w' h' => ?_) (step i o a w ho hS hF fun e he hbe od t hod ht => hG e.on od t hod ht (hdep e he hbe))
    obtain ⟨v, rfl, hGv, hS', hR⟩ := h'
    have hio := (Array.getElem?_eq_some_iff.1 ho).1
    cases hdst : o.dst with
    | none =>
      refine ⟨by simp [hL], hS', hF, fun j oj t hj hjt hl => ?_⟩
      refine mono j _ w w' (hG j oj t hj hjt ?_) hR
      by_cases e : i = j
      · subst e
        rw [ho] at hj
        rw [← Option.some.inj hj, hdst] at hjt
        cases hjt
      · rwa [Array.getD_eq_getD_getElem?, Array.getElem?_setIfInBounds_ne e, ← Array.getD_eq_getD_getElem?] at hl
    | some t0 =>
      have ht0 : t0 < a.tmps.size := by rw [hF.size]; exact hr i o t0 ho hdst
      refine ⟨by simp [hL], hS', ⟨hF.defers, ?_, fun t hno => ?_⟩, fun j oj t hj hjt hl => ?_⟩
      · show (a.tmps.setIfInBounds t0 v).size = _
        rw [Array.size_setIfInBounds, hF.size]
      · rw [getD_put ht0, if_neg (fun e => hno i o ho (by rw [hdst, e]))]
        exact hF.rest t hno
      · rw [getD_put ht0]
        by_cases e : t = t0
        · subst e
          rw [if_pos rfl]
          have := hd i j o oj t ho hj hdst hjt
          subst this
          exact hGv
        · rw [if_neg e]
          refine mono j _ w w' (hG j oj t hj hjt ?_) hR
          have hne : i ≠ j := fun e2 => by
            subst e2
            rw [ho] at hj
            rw [← Option.some.inj hj, hdst] at hjt
            exact e (Option.some.inj hjt).symm
          rwa [Array.getD_eq_getD_getElem?, Array.getElem?_setIfInBounds_ne hne, ← Array.getD_eq_getD_getElem?] at hl
  · intro i o t hi ho hl
    rw [Array.getD_eq_getD_getElem?] at hl
    cases hg : (Array.replicate ops.size false)[i]? with
    | none => rw [hg] at hl; simp at hl
    | some b =>
      rw [hg] at hl
      rw [Array.getElem?_replicate] at hg
      split at hg
      · cases hg; simp at hl
      · cases hg
  · simp
end
end Go.Proofs.YtoanofdomhnafaaGreatDoor
namespace Go.Proofs.YtoanofdomhnafaaGreatDoor
open Go.RowKit
def planOk (ops : Array Oper) (n : Nat) : Bool :=
  (List.range ops.size).all fun i => match ops[i]? with
    | none => true
    | some o => (match o.dst with
        | none => true
        | some t => decide (t < n) && (List.range ops.size).all fun j => j == i || (match ops[j]? with | some p => p.dst != some t | none => true)) &&
      o.after.all fun e => !Region.binds .any e || decide (e.on < i)
section
variable {P : Program} {ops : Array Oper} {Q : Exit → Act → World → Prop}
theorem planOk_at {n i : Nat} {o : Oper} (h : planOk ops n = true) (hi : ops[i]? = some o) :
    (∀ t, o.dst = some t → t < n ∧ ∀ (j : Nat) (p : Oper), ops[j]? = some p → p.dst = some t → i = j) ∧ ∀ e ∈ o.after, Region.binds .any e = true → e.on < i := by
  have hl := (Array.getElem?_eq_some_iff.1 hi).1
  have h1 := List.all_eq_true.1 h i (by simpa using hl)
  rw [hi] at h1
  simp only [Bool.and_eq_true] at h1
  obtain ⟨h1, h2⟩ := h1
  refine ⟨fun t ht => ?_, fun e he hb => ?_⟩
  · rw [ht] at h1
    simp only [Bool.and_eq_true, decide_eq_true_eq] at h1
    refine ⟨h1.1, fun j p hj hp => ?_⟩
    have hlj := (Array.getElem?_eq_some_iff.1 hj).1
    have h3 := List.all_eq_true.1 h1.2 j (by simpa using hlj)
    rw [hj] at h3
    simp only [hp, Bool.or_eq_true, beq_iff_eq] at h3
    rcases h3 with h3 | h3
    · exact h3.symm
    · simp at h3
  · have h3 := Array.all_eq_true.1 h2
    obtain ⟨k, hk, rfl⟩ := Array.getElem_of_mem he
    have h4 := h3 k hk
    rw [hb] at h4
    simpa using h4
/-- No operation fills this slot. -/
theorem no_dst {t : Tmp} (h : (ops.all fun o => o.dst != some t) = true) : ∀ (i : Nat) (o : Oper), ops[i]? = some o → o.dst ≠ some t := by
  intro i o hi e
  have hl := (Array.getElem?_eq_some_iff.1 hi)
  have h1 := Array.all_eq_true.1 h i hl.1
  rw [hl.2, e] at h1
  simp at h1
/-- What is asked behind a step. -/
def PlanK (G : Nat → Value → World → Prop) (S : World → Prop) (i : Nat) (o : Oper) (a : Act) (w : World) (a' : Act) (w' : World) : Prop := ∃ v, a' = a.put o.dst v ∧ G i v w' ∧ S w' ∧ Below w.heap.size w w'
theorem wp_plan2 {id n : Nat} {a0 : Act} {w0 : World} (G : Nat → Value → World → Prop) (S : World → Prop) (hm : P.follows .mixedOrders = true) (hok : planOk ops n = true) (hn : a0.tmps.size = n)
    (mono : ∀ i v w w', G i v w → Below w.heap.size w w' → G i v w')
    (h0 : S w0.drew)
    (step : ∀ (i : Nat) (o : Oper) (a : Act) (w : World), ops[i]? = some o → S w → FrA ops a0 a → (∀ e ∈ o.after, Region.binds .any e = true → ∀ (od : Oper) (t : Tmp), ops[e.on]? = some od → od.dst = some t → G e.on (a.tmps.getD t undef) w) →
      wpOp P ops Q i (PlanK G S i o a w) a w)
    (done : ∀ (a : Act) (w : World), S w → FrA ops a0 a → (∀ (i : Nat) (o : Oper) (t : Tmp), ops[i]? = some o → o.dst = some t → G i (a.tmps.getD t undef) w) → Q .normal a w) :
    (Code.region id ops true).wp P Q a0 w0 :=
  wp_plan hm G S (fun w w' => Below w.heap.size w w') mono (fun i j oi oj t hi hj h1 h2 => ((planOk_at hok hi).1 t h1).2 j oj hj h2) (fun i o t hi ho => hn ▸ ((planOk_at hok hi).1 t ho).1) (fun i o e hi he hb => (planOk_at hok hi).2 e he hb) h0 step done
variable {G : Nat → Value → World → Prop} {S : World → Prop} {i : Nat} {o : Oper} {a : Act} {w w' : World} {v : Value}
/-- An operation that runs to a value. -/
theorem plan_value (hi : ops[i]? = some o) (hg : o.guard = none) (hrun : (execOp a.eval o).run P w = .ok (.value v) w') (h : G i v w') (hS : S w') (hb : Below w.heap.size w w') : wpOp P ops Q i (PlanK G S i o a w) a w := by
  refine wpOp_plain hi hg ?_
  unfold Oper.wp
  rw [hrun]
  exact ⟨v, rfl, h, hS, hb⟩
/-- An operation that runs to a value and leaves the world alone. -/
theorem plan_pure (hi : ops[i]? = some o) (hg : o.guard = none) (hS : S w) (hrun : (execOp a.eval o).run P w = .ok (.value v) w) (h : G i v w) : wpOp P ops Q i (PlanK G S i o a w) a w :=
  plan_value hi hg hrun h hS (Below.refl _ _)
/-- A call. -/
theorem plan_call {f : FuncId} {args : Array Value} (hi : ops[i]? = some o) (hg : o.guard = none) (hrun : (execOp a.eval o).run P w = .ok (.enter f args) w')
    (hc : Calls P f args w' fun e w'' => ∃ v, e = .returned v ∧ G i v w'' ∧ S w'' ∧ Below w.heap.size w w'') : wpOp P ops Q i (PlanK G S i o a w) a w := by
  refine wpOp_plain hi hg ?_
  unfold Oper.wp
  rw [hrun]
  refine Calls.mono hc fun e w'' h => ?_
  obtain ⟨v, rfl, hG, hS, hb⟩ := h
  exact ⟨v, rfl, hG, hS, hb⟩
end
end Go.Proofs.YtoanofdomhnafaaGreatDoor
