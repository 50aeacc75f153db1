/- Parts of a proof: SpLen, WriteCmpP, LessS, WriteNum, EscapeOf, Written. -/
import Derived.Test.YtoanofdomhnafaaGreatDoorG03
import Derived.Test.YtoanofdomhnafaaGreatDoorG00
set_option linter.unusedVariables false
set_option linter.unusedSimpArgs false
namespace Go.Proofs.YtoanofdomhnafaaGreatDoor
open Go.RowKit
variable {l : List SelD}
def cost (x : SelD) : Nat := 40 + 4 * (x.key.size + x.val.size)
def costs (l : List SelD) (i n : Nat) : Nat := ((List.range n).map fun k => cost (l.getD (i + k) default)).sum
theorem costs_succ (i n : Nat) : costs l i (n + 1) = cost (l.getD i default) + costs l (i + 1) n := by
  unfold costs
  rw [List.range_succ_eq_map]
  simp only [List.map_cons, List.map_map, List.sum_cons, Nat.add_zero]
  congr 2
  apply List.map_congr_left
  intro k _
  simp only [Function.comp]
  rw [show i + (k + 1) = i + 1 + k by omega]
theorem costs_add (i b : Nat) : ∀ a, costs l i (a + b) = costs l i a + costs l (i + a) b
  | 0 => by simp [costs]
  | a + 1 => by
    rw [show a + 1 + b = a + b + 1 by omega]
    unfold costs
    rw [List.range_succ, List.range_succ]
    simp only [List.map_append, List.sum_append, List.map_cons, List.map_nil, List.sum_cons, List.sum_nil, Nat.add_zero]
    have ih := costs_add i b a
    unfold costs at ih
    have h2 := costs_succ (l := l) (i + a) b
    have h3 : costs l (i + a) (b + 1) = costs l (i + a) b + cost (l.getD (i + a + b) default) := by
      unfold costs; rw [List.range_succ]; simp
    rw [ih]
    unfold costs at h2 h3
    rw [h2] at h3
    rw [show i + (a + 1) = i + a + 1 by omega, show i + (a + b) = i + a + b by omega]
    omega
theorem kids_cost {z : Nat → Nat} {e : Nat} : ∀ (f k : Nat), (∀ j, k ≤ j → j < e → 1 ≤ z j ∧ j + z j ≤ e) → ((kidsFrom z e f k).map fun j => costs l j (z j)).sum ≤ costs l k (e - k)
  | 0, k, h => by simp [kidsFrom]
  | f + 1, k, h => by
    simp only [kidsFrom]
    split
    · rename_i hk
      obtain ⟨h1, h2⟩ := h k (Nat.le_refl _) hk
      have ih := kids_cost f (k + z k) (fun j hj he => h j (by omega) he)
      simp only [List.map_cons, List.sum_cons]
      rw [show e - k = z k + (e - (k + z k)) by omega, costs_add]
      omega
    · simp
theorem decL_len : ∀ (k n : Nat), n < 10 ^ (k + 1) → (decL n).length ≤ k + 1
  | 0, n, h => by
    rw [decL]
    simp at h
    simp [h]
  | k + 1, n, h => by
    rw [decL]
    split
    · simp
    · have h2 : n / 10 < 10 ^ (k + 1) := by
        rw [Nat.pow_succ] at h
        omega
      have := decL_len k (n / 10) h2
      simp
      omega
theorem joinL_len : ∀ ts : List (List UInt8), (joinL ts).length ≤ (ts.map fun t => t.length + 2).sum
  | [] => by simp [joinL]
  | [t] => by simp [joinL]
  | t :: u :: r => by
    have := joinL_len (u :: r)
    simp only [joinL, List.length_append, List.map_cons, List.sum_cons, List.length_cons, List.length_nil] at this ⊢
    omega
theorem sum_mono {α : Type} (f g : α → Nat) : ∀ ks : List α, (∀ k ∈ ks, f k ≤ g k) → (ks.map f).sum ≤ (ks.map g).sum
  | [], _ => Nat.le_refl _
  | k :: ks, h => by
    have h1 := h k List.mem_cons_self
    have h2 := sum_mono f g ks fun x hx => h x (List.mem_cons_of_mem _ hx)
    simp only [List.map_cons, List.sum_cons]
    omega
theorem sum_filter_le {α : Type} (g : α → Nat) (p : α → Bool) : ∀ ks : List α, ((ks.filter p).map g).sum ≤ (ks.map g).sum
  | [] => Nat.le_refl _
  | k :: ks => by
    have := sum_filter_le g p ks
    rw [List.filter_cons]
    split
    · simp only [List.map_cons, List.sum_cons]; omega
    · simp only [List.map_cons, List.sum_cons]; omega
theorem namedF_len (t : ByteArray) : (namedF t).length ≤ 2 + 4 * t.size := by
  unfold namedF
  split
  · simp
  · have := ng_len t t.size; omega
theorem simL_len {x : SelD} (h : FieldsOk x) : (simL x).length ≤ 38 + 4 * (x.key.size + x.val.size) := by
  have h1 := namedF_len x.key
  have h2 := namedF_len x.val
  have h3 : (quoL x.val).length ≤ 2 + 4 * x.val.size := by
    have := qg_len x.val x.val.size
    simp [quoL]; omega
  obtain ⟨n1, n2, n3, n4⟩ := h.nums
  have hd : ∀ n : Nat, n ≤ 9999 → (decL n).length ≤ 4 := fun n hn => decL_len 3 n (by omega)
  have d1 := hd x.a.natAbs (by omega)
  have d2 := hd x.a.toNat (by omega)
  have d3 := hd x.b.natAbs (by omega)
  have d4 := hd x.b.toNat (by omega)
  have h4 : (sgnL x.b).length ≤ 5 := by unfold sgnL; split <;> simp <;> omega
  have h5 : (cntL x.a x.b).length ≤ 11 := by unfold cntL; split <;> simp <;> omega
  have h6 : (opL x.op).length ≤ 2 := by unfold opL; repeat' split
                                        all_goals simp
  have h7 : (nthL x.flag).length ≤ 16 := by unfold nthL; repeat' split
                                            all_goals simp
  have h8 : (onlyL x.flag).length ≤ 12 := by unfold onlyL; split <;> simp
  have h9 : (plainL x.kind).length ≤ 8 := by unfold plainL; repeat' split
                                             all_goals simp
  unfold simL
  repeat' split
  all_goals (try simp only [List.length_cons, List.length_append, List.length_nil])
  all_goals omega
theorem compL_len (ks : List (Int × List UInt8)) : (compL ks).length ≤ 1 + (ks.map fun x => x.2.length).sum := by
  have hrest : (((ks.filter (fun x => x.1 != 1 && x.1 != 2)).map (·.2)).flatten).length ≤ ((ks.filter (fun x => x.1 != 1 && x.1 != 2)).map fun x => x.2.length).sum := by
    rw [List.length_flatten, List.map_map]; exact Nat.le_refl _
  have hfr : ∀ first rest : List UInt8, (if first ++ rest = [] then [42] else first ++ rest).length ≤ 1 ∨ (if first ++ rest = [] then [42] else first ++ rest).length = first.length + rest.length := fun first rest => by
    split
    · exact .inl (by simp)
    · exact .inr (by simp)
  cases ks with
  | nil => simp [compL]
  | cons k r =>
    have h1 := sum_filter_le (fun x : Int × List UInt8 => x.2.length) (fun x => x.1 != 1 && x.1 != 2) (k :: r)
    have h2 := sum_filter_le (fun x : Int × List UInt8 => x.2.length) (fun x => x.1 != 1 && x.1 != 2) r
    have hc : (compL (k :: r)).length ≤ 1 ∨ (compL (k :: r)).length = (if ((k :: r).headD (0, [])).1 = 2 then ((k :: r).headD (0, [])).2 else if (k :: r).any (fun x => x.1 == 1) then [42] else []).length + ((((k :: r).filter (fun x : Int × List UInt8 => x.1 != 1 && x.1 != 2)).map (fun x : Int × List UInt8 => x.2)).flatten).length := hfr (if ((k :: r).headD (0, [])).1 = 2 then ((k :: r).headD (0, [])).2 else if (k :: r).any (fun x => x.1 == 1) then [42] else []) ((((k :: r).filter (fun x : Int × List UInt8 => x.1 != 1 && x.1 != 2)).map (fun x : Int × List UInt8 => x.2)).flatten)
    have hs : ((k :: r).map fun x => x.2.length).sum = k.2.length + (r.map fun x => x.2.length).sum := by simp
    rw [hs] at h1 ⊢
    by_cases hk : k.1 = 2
    · have hf : (k :: r).filter (fun x => x.1 != 1 && x.1 != 2) = r.filter (fun x => x.1 != 1 && x.1 != 2) := List.filter_cons_of_neg (by simp [hk])
      have e : (if ((k :: r).headD (0, [])).1 = 2 then ((k :: r).headD (0, [])).2 else if (k :: r).any (fun x => x.1 == 1) then [42] else []) = k.2 := if_pos (show ((k :: r).headD (0, [])).1 = 2 from hk)
      rw [e] at hc
      rw [hf] at hrest hc
      omega
    · have e : (if ((k :: r).headD (0, [])).1 = 2 then ((k :: r).headD (0, [])).2 else if (k :: r).any (fun x => x.1 == 1) then [42] else []).length ≤ 1 := by
        rw [if_neg (show ¬ ((k :: r).headD (0, [])).1 = 2 from hk)]
        split
        · simp
        · simp
      omega
theorem relL_len (k : Int) : (relL k).length ≤ 8 := by
  unfold relL
  repeat' split
  all_goals simp
theorem combL_len (k : Int) : (combL k).length ≤ 3 := by
  unfold combL
  repeat' split
  all_goals simp
theorem T_cost (hT : SelTree l) : ∀ (n i : Nat), i < l.length → zs l i ≤ n → (T l i).length + 2 ≤ costs l i (zs l i)
  | 0, i, hi, hn => by have := hT.nest.pos i hi; omega
  | n + 1, i, hi, hn => by
    have hpos := hT.nest.pos i hi
    have ih : ∀ k ∈ kidsS l i, (T l k).length + 2 ≤ costs l k (zs l k) := fun k hk => by
      have := hT.kid hi hk
      exact T_cost hT n k this.1 (by omega)
    have hk : ((kidsS l i).map fun j => costs l j (zs l j)).sum ≤ costs l (i + 1) (zs l i - 1) := by
      have := kids_cost (l := l) (z := zs l) (e := i + zs l i) (zs l i) (i + 1) (fun j h1 h2 => ⟨hT.nest.pos j (by have := hT.nest.fit i hi; omega), hT.nest.lam i j hi (by omega) h2⟩)
      rwa [show i + zs l i - (i + 1) = zs l i - 1 by omega] at this
    have hc : costs l i (zs l i) = cost (l.getD i default) + costs l (i + 1) (zs l i - 1) := by
      rw [show zs l i = zs l i - 1 + 1 by omega, costs_succ]
      rfl
    have hs := sum_mono (fun k => (T l k).length + 2) (fun k => costs l k (zs l k)) (kidsS l i) ih
    rw [hc]
    unfold cost
    have hr := (hT.shape i hi).range
    by_cases h23 : kdS l i = 23
    · rw [T_group hT hi h23]
      have := joinL_len ((kidsS l i).map (T l))
      rw [List.map_map] at this
      have e : ((kidsS l i).map ((fun t => t.length + 2) ∘ T l)).sum = ((kidsS l i).map fun k => (T l k).length + 2).sum := rfl
      omega
    by_cases h22 : kdS l i = 22
    · obtain ⟨a, b, hab, _⟩ := hT.comb' hi h22
      rw [T_comb hT hi h22 hab]
      rw [hab] at hs
      have := combL_len (l.getD i default).op
      simp only [List.map_cons, List.map_nil, List.sum_cons, List.sum_nil] at hs
      rw [hab] at hk
      simp only [List.map_cons, List.map_nil, List.sum_cons, List.sum_nil] at hk
      simp only [List.length_append]
      omega
    by_cases h21 : kdS l i = 21
    · rw [T_comp hT hi h21]
      have := compL_len ((kidsS l i).map fun k => (kdS l k, T l k))
      rw [List.map_map] at this
      have e : ((kidsS l i).map ((fun x : Int × List UInt8 => x.2.length) ∘ fun k => (kdS l k, T l k))).sum = ((kidsS l i).map fun k => (T l k).length).sum := rfl
      have h2 := sum_mono (fun k => (T l k).length) (fun k => (T l k).length + 2) (kidsS l i) (fun k _ => by omega)
      omega
    by_cases hrel : kdS l i = 18 ∨ kdS l i = 19 ∨ kdS l i = 20
    · obtain ⟨k, hk1, _⟩ := hT.rel' hi hrel
      rw [T_rel hT hi hrel hk1]
      rw [hk1] at hs hk
      simp only [List.map_cons, List.map_nil, List.sum_cons, List.sum_nil] at hs hk
      have := relL_len (kdS l i)
      simp only [List.length_cons, List.length_append, List.length_nil]
      omega
    · rw [T_sim hT hi (by omega)]
      have := simL_len (hT.fields i hi)
      omega
variable {l : List SelD}
/-- The name, or '*', behind m kids. -/
def foC (l : List SelD) (ks : List Nat) : Nat → List UInt8
  | 0 => []
  | m + 1 => if kdS l (ks.getD m 0) = 2 then T l (ks.getD m 0) else if kdS l (ks.getD m 0) = 1 then (if foC l ks m = [] then [42] else foC l ks m) else foC l ks m
/-- The rest behind m kids. -/
def roC (l : List SelD) (ks : List Nat) : Nat → List UInt8
  | 0 => []
  | m + 1 => if kdS l (ks.getD m 0) = 2 then roC l ks m else if kdS l (ks.getD m 0) = 1 then roC l ks m else roC l ks m ++ T l (ks.getD m 0)
theorem take_oneC : ∀ (ps : List Nat) (m : Nat), m < ps.length → ps.take (m + 1) = ps.take m ++ [ps.getD m 0]
  | [], m, h => absurd h (by simp)
  | k :: ps, 0, _ => by simp
  | k :: ps, m + 1, h => by
    have := take_oneC ps m (by simpa using h)
    rw [List.take_succ_cons, this, List.take_succ_cons, List.getD_cons_succ, List.cons_append]
theorem roC_eq (ks : List Nat) : ∀ m, m ≤ ks.length → roC l ks m = (((ks.take m).filter (fun k => kdS l k != 1 && kdS l k != 2)).map (T l)).flatten
  | 0, _ => by simp [roC]
  | m + 1, hm => by
    rw [take_oneC ks m (by omega), List.filter_append, List.map_append, List.flatten_append, ← roC_eq ks m (by omega)]
    simp only [roC]
    obtain ⟨x, hx⟩ : ∃ x, ks.getD m 0 = x := ⟨_, rfl⟩
    rw [hx]
    by_cases h2 : kdS l x = 2
    · rw [if_pos h2, List.filter_cons_of_neg (by simp [h2])]
      simp
    · rw [if_neg h2]
      by_cases h1 : kdS l x = 1
      · rw [if_pos h1, List.filter_cons_of_neg (by simp [h1])]
        simp
      · rw [if_neg h1, List.filter_cons_of_pos (by simp [h1, h2])]
        simp
theorem foC_tag (ks : List Nat) (h2 : kdS l (ks.getD 0 0) = 2) (hne : T l (ks.getD 0 0) ≠ []) (hpos : ∀ j, j < ks.length → kdS l (ks.getD j 0) = 2 → j = 0) : ∀ m, m + 1 ≤ ks.length → foC l ks (m + 1) = T l (ks.getD 0 0)
  | 0, _ => by simp only [foC]; rw [if_pos h2]
  | m + 1, hm => by
    have ih := foC_tag ks h2 hne hpos m (by omega)
    have hn : kdS l (ks.getD (m + 1) 0) ≠ 2 := fun e => by have := hpos (m + 1) (by omega) e; omega
    rw [foC, if_neg hn, ih, if_neg hne]
    split <;> rfl
theorem foC_any (ks : List Nat) (h2 : ∀ j, j < ks.length → kdS l (ks.getD j 0) ≠ 2) : ∀ m, m ≤ ks.length → foC l ks m = if (ks.take m).any (fun k => kdS l k == 1) then [42] else []
  | 0, _ => by simp [foC]
  | m + 1, hm => by
    have ih := foC_any ks h2 m (by omega)
    rw [foC, if_neg (h2 m (by omega)), ih, take_oneC ks m (by omega), List.any_append]
    obtain ⟨x, hx⟩ : ∃ x, ks.getD m 0 = x := ⟨_, rfl⟩
    rw [hx]
    by_cases h1 : kdS l x = 1
    · rw [if_pos h1]
      cases hb : (ks.take m).any (fun k => kdS l k == 1) <;> simp [h1]
    · rw [if_neg h1]
      cases hb : (ks.take m).any (fun k => kdS l k == 1) <;> simp [h1]
theorem comp_eq (ks : List Nat) (hne : ∀ k ∈ ks, kdS l k = 2 → T l k ≠ []) (hpos : ∀ j, j < ks.length → kdS l (ks.getD j 0) = 2 → j = 0) :
    compL (ks.map fun k => (kdS l k, T l k)) = if foC l ks ks.length ++ roC l ks ks.length = [] then [42] else foC l ks ks.length ++ roC l ks ks.length := by
  have hr := roC_eq (l := l) ks ks.length (Nat.le_refl _)
  rw [List.take_length] at hr
  have hrest := comp_rest (l := l) ks
  have hf : foC l ks ks.length = if (List.headD (ks.map fun k => (kdS l k, T l k)) (0, [])).1 = 2 then (List.headD (ks.map fun k => (kdS l k, T l k)) (0, [])).2 else if (ks.map fun k => (kdS l k, T l k)).any (fun x => x.1 == 1) then [42] else [] := by
    cases ks with
    | nil => simp [foC]
    | cons k r =>
      by_cases h2 : kdS l k = 2
      · have h1 := foC_tag (k :: r) (by simpa using h2) (by simpa using hne k (by simp) h2) hpos r.length (by simp)
        rw [show (k :: r).length = r.length + 1 by simp, h1]
        simp [h2]
      · have hno : ∀ j, j < (k :: r).length → kdS l ((k :: r).getD j 0) ≠ 2 := fun j hj e => by
          have h0 := hpos j hj e
          subst h0
          exact h2 (by simpa using e)
        have h1 := foC_any (k :: r) hno (k :: r).length (Nat.le_refl _)
        rw [List.take_length] at h1
        rw [h1, List.any_map]
        have hh : ¬ (List.headD (List.map (fun k => (kdS l k, T l k)) (k :: r)) (0, [])).1 = 2 := by simpa using h2
        rw [if_neg hh]
        rfl
  unfold compL
  simp only
  rw [hrest, ← hr, ← hf]
/-- Three numbers as a value. -/
def triS (t : Tri) : Value := .agg #[.int .i64 (t.1 : Int), .int .i64 (t.2.1 : Int), .int .i64 (t.2.2 : Int)]
def LessAtS (w wr : World) (S x0 x1 x2 y0 y1 y2 : Nat) : Prop :=
  World.objAt wr S #[.int .i64 (x0 : Int), .int .i64 (x1 : Int), .int .i64 (x2 : Int)] 28 ∧ World.objAt wr (S + 1) #[.int .i64 (y0 : Int), .int .i64 (y1 : Int), .int .i64 (y2 : Int)] 28 ∧ Below w.heap.size w wr
theorem LessAtS.drew {w wr : World} {S x0 x1 x2 y0 y1 y2 : Nat} (h : LessAtS w wr S x0 x1 x2 y0 y1 y2) (q : Nat) : LessAtS w (wr.drewN q) S x0 x1 x2 y0 y1 y2 := by
  obtain ⟨a, b, c⟩ := h
  unfold World.objAt at a b
  exact ⟨by unfold World.objAt; rw [World.heap_drewN]; exact a, by unfold World.objAt; rw [World.heap_drewN]; exact b, below_drewN c q⟩
set_option maxRecDepth 100000 in
set_option maxHeartbeats 8000000 in
theorem lessS_any (x y : Tri) (w : World) :
    Calls Tryz.prog 26 #[triS x, triS y] w (fun e w' => e = .returned (.bool (triLess x y)) ∧ Hid (Below w.heap.size w w')) := by
  obtain ⟨x0, x1, x2⟩ := x
  obtain ⟨y0, y1, y2⟩ := y
  unfold triS
  go_enter Tryz.func26, Tryz.ntmps26
  go_wp2
  obtain ⟨S, hS⟩ : ∃ S, w.heap.size = S := ⟨_, rfl⟩
  obtain ⟨w1, hw1⟩ : ∃ w1, ((w.alloc (.cells #[.int .i64 (x0 : Int), .int .i64 (x1 : Int), .int .i64 (x2 : Int)] 28)).alloc (.cells #[.int .i64 (y0 : Int), .int .i64 (y1 : Int), .int .i64 (y2 : Int)] 28)) = w1 := ⟨_, rfl⟩
  have hA : LessAtS w w1 S x0 x1 x2 y0 y1 y2 := by
    rw [← hw1, ← hS]
    refine ⟨World.objAt.below (objAt_alloc_new w _ _) ((Below.refl (w.heap.size + 1) _).alloc (by simp) _) (by omega), ?_, ((Below.refl w.heap.size w).alloc (Nat.le_refl _) _).alloc (by simp) _⟩
    have := objAt_alloc_new (w.alloc (.cells #[.int .i64 (x0 : Int), .int .i64 (x1 : Int), .int .i64 (x2 : Int)] 28)) #[.int .i64 (y0 : Int), .int .i64 (y1 : Int), .int .i64 (y2 : Int)] 28
    simpa using this
  rw [hw1]
  have H0 := Lib.hid hA
  clear hA hw1
  try rw [hS]
  go_loopw [5] (fun i wr => Hid (LessAtS w wr S x0 x1 x2 y0 y1 y2) ∧ ((i = .int .i64 0) ∨ (i = .int .i64 1 ∧ x0 = y0) ∨ (i = .int .i64 2 ∧ x0 = y0 ∧ x1 = y1) ∨ (i = .int .i64 3 ∧ x0 = y0 ∧ x1 = y1 ∧ x2 = y2))) (fun i _ => 3 - (intOf i).toNat)
  case atStart => exact ⟨H0, .inl rfl⟩
  case round =>
    obtain ⟨hH, hrel⟩ := hrel
    rcases hrel with rfl | ⟨rfl, e0⟩ | ⟨rfl, e0, e1⟩ | ⟨rfl, e0, e1, e2⟩
    · by_cases hE : x0 = y0
      · have c1 : ((x0 : Int) != (y0 : Int)) = false := by simp; omega
        have HE := Lib.hid hE
        clear hE
        have d0 : wr.cell? ⟨S, 0, none⟩ = some (.int .i64 (x0 : Int)) := World.objAt.cell hH.out.1 (i := 0) rfl
        have b0 : wr.cell? ⟨S + 1, 0, none⟩ = some (.int .i64 (y0 : Int)) := World.objAt.cell hH.out.2.1 (i := 0) rfl
        have d1 : wr.cell? ⟨S, 1, none⟩ = some (.int .i64 (x1 : Int)) := World.objAt.cell hH.out.1 (i := 1) rfl
        have b1 : wr.cell? ⟨S + 1, 1, none⟩ = some (.int .i64 (y1 : Int)) := World.objAt.cell hH.out.2.1 (i := 1) rfl
        have d2 : wr.cell? ⟨S, 2, none⟩ = some (.int .i64 (x2 : Int)) := World.objAt.cell hH.out.1 (i := 2) rfl
        have b2 : wr.cell? ⟨S + 1, 2, none⟩ = some (.int .i64 (y2 : Int)) := World.objAt.cell hH.out.2.1 (i := 2) rfl
        go_wp2
        go_quiet (fail)
        obtain ⟨wa, hwa⟩ : ∃ wa, wr.drewN nq = wa := ⟨_, rfl⟩
        have hHa := Lib.hid (show LessAtS w wa S x0 x1 x2 y0 y1 y2 by rw [← hwa]; exact hH.out.drew nq)
        rw [hwa]
        clear hwa d0 d1 d2 b0 b1 b2 nq
        have d0 : wa.cell? ⟨S, 0, none⟩ = some (.int .i64 (x0 : Int)) := World.objAt.cell hHa.out.1 (i := 0) rfl
        have b0 : wa.cell? ⟨S + 1, 0, none⟩ = some (.int .i64 (y0 : Int)) := World.objAt.cell hHa.out.2.1 (i := 0) rfl
        have d1 : wa.cell? ⟨S, 1, none⟩ = some (.int .i64 (x1 : Int)) := World.objAt.cell hHa.out.1 (i := 1) rfl
        have b1 : wa.cell? ⟨S + 1, 1, none⟩ = some (.int .i64 (y1 : Int)) := World.objAt.cell hHa.out.2.1 (i := 1) rfl
        have d2 : wa.cell? ⟨S, 2, none⟩ = some (.int .i64 (x2 : Int)) := World.objAt.cell hHa.out.1 (i := 2) rfl
        have b2 : wa.cell? ⟨S + 1, 2, none⟩ = some (.int .i64 (y2 : Int)) := World.objAt.cell hHa.out.2.1 (i := 2) rfl
        go_wp2
        go_roundw
        case rel => exact ⟨hHa, .inr (.inl ⟨by go_num, HE.out⟩)⟩
        case measure => simp [intOf]
      · have c1 : ((x0 : Int) != (y0 : Int)) = true := by simp; omega
        have HE := Lib.hid hE
        by_cases hL : x0 < y0
        · have c2 : decide ((x0 : Int) < (y0 : Int)) = true := by simp; omega
          have HL := Lib.hid hL
          clear hE hL
          have d0 : wr.cell? ⟨S, 0, none⟩ = some (.int .i64 (x0 : Int)) := World.objAt.cell hH.out.1 (i := 0) rfl
          have b0 : wr.cell? ⟨S + 1, 0, none⟩ = some (.int .i64 (y0 : Int)) := World.objAt.cell hH.out.2.1 (i := 0) rfl
          have d1 : wr.cell? ⟨S, 1, none⟩ = some (.int .i64 (x1 : Int)) := World.objAt.cell hH.out.1 (i := 1) rfl
          have b1 : wr.cell? ⟨S + 1, 1, none⟩ = some (.int .i64 (y1 : Int)) := World.objAt.cell hH.out.2.1 (i := 1) rfl
          have d2 : wr.cell? ⟨S, 2, none⟩ = some (.int .i64 (x2 : Int)) := World.objAt.cell hH.out.1 (i := 2) rfl
          have b2 : wr.cell? ⟨S + 1, 2, none⟩ = some (.int .i64 (y2 : Int)) := World.objAt.cell hH.out.2.1 (i := 2) rfl
          go_wp2
          go_quiet (fail)
          obtain ⟨wa, hwa⟩ : ∃ wa, wr.drewN nq = wa := ⟨_, rfl⟩
          have hHa := Lib.hid (show LessAtS w wa S x0 x1 x2 y0 y1 y2 by rw [← hwa]; exact hH.out.drew nq)
          rw [hwa]
          clear hwa d0 d1 d2 b0 b1 b2 nq
          have d0 : wa.cell? ⟨S, 0, none⟩ = some (.int .i64 (x0 : Int)) := World.objAt.cell hHa.out.1 (i := 0) rfl
          have b0 : wa.cell? ⟨S + 1, 0, none⟩ = some (.int .i64 (y0 : Int)) := World.objAt.cell hHa.out.2.1 (i := 0) rfl
          have d1 : wa.cell? ⟨S, 1, none⟩ = some (.int .i64 (x1 : Int)) := World.objAt.cell hHa.out.1 (i := 1) rfl
          have b1 : wa.cell? ⟨S + 1, 1, none⟩ = some (.int .i64 (y1 : Int)) := World.objAt.cell hHa.out.2.1 (i := 1) rfl
          have d2 : wa.cell? ⟨S, 2, none⟩ = some (.int .i64 (x2 : Int)) := World.objAt.cell hHa.out.1 (i := 2) rfl
          have b2 : wa.cell? ⟨S + 1, 2, none⟩ = some (.int .i64 (y2 : Int)) := World.objAt.cell hHa.out.2.1 (i := 2) rfl
          go_wp2
          go_quiet (fail)
          obtain ⟨wb, hwa⟩ : ∃ wb, wa.drewN nq = wb := ⟨_, rfl⟩
          have hHb := Lib.hid (show LessAtS w wb S x0 x1 x2 y0 y1 y2 by rw [← hwa]; exact hHa.out.drew nq)
          rw [hwa]
          clear hwa d0 d1 d2 b0 b1 b2 nq
          have d0 : wb.cell? ⟨S, 0, none⟩ = some (.int .i64 (x0 : Int)) := World.objAt.cell hHb.out.1 (i := 0) rfl
          have b0 : wb.cell? ⟨S + 1, 0, none⟩ = some (.int .i64 (y0 : Int)) := World.objAt.cell hHb.out.2.1 (i := 0) rfl
          have d1 : wb.cell? ⟨S, 1, none⟩ = some (.int .i64 (x1 : Int)) := World.objAt.cell hHb.out.1 (i := 1) rfl
          have b1 : wb.cell? ⟨S + 1, 1, none⟩ = some (.int .i64 (y1 : Int)) := World.objAt.cell hHb.out.2.1 (i := 1) rfl
          have d2 : wb.cell? ⟨S, 2, none⟩ = some (.int .i64 (x2 : Int)) := World.objAt.cell hHb.out.1 (i := 2) rfl
          have b2 : wb.cell? ⟨S + 1, 2, none⟩ = some (.int .i64 (y2 : Int)) := World.objAt.cell hHb.out.2.1 (i := 2) rfl
          go_wp2
          refine bodyPost_ret (results_tmp rfl _ _ _) rfl ?_
          refine ⟨?_, Lib.hid hHb.out.2.2⟩
          have h1 := HE.out
          have h2 := HL.out
          have : triLess (x0, x1, x2) (y0, y1, y2) = true := by unfold triLess; dsimp only; split <;> (try split) <;> first | (simp; omega) | (exfalso; omega)
          have hd : decide (x0 < y0) = true := by simp; omega
          show Ending.returned (.bool (decide (x0 < y0))) = _
          rw [this, hd]
        · have c2 : decide ((x0 : Int) < (y0 : Int)) = false := by simp; omega
          have HL := Lib.hid hL
          clear hE hL
          have d0 : wr.cell? ⟨S, 0, none⟩ = some (.int .i64 (x0 : Int)) := World.objAt.cell hH.out.1 (i := 0) rfl
          have b0 : wr.cell? ⟨S + 1, 0, none⟩ = some (.int .i64 (y0 : Int)) := World.objAt.cell hH.out.2.1 (i := 0) rfl
          have d1 : wr.cell? ⟨S, 1, none⟩ = some (.int .i64 (x1 : Int)) := World.objAt.cell hH.out.1 (i := 1) rfl
          have b1 : wr.cell? ⟨S + 1, 1, none⟩ = some (.int .i64 (y1 : Int)) := World.objAt.cell hH.out.2.1 (i := 1) rfl
          have d2 : wr.cell? ⟨S, 2, none⟩ = some (.int .i64 (x2 : Int)) := World.objAt.cell hH.out.1 (i := 2) rfl
          have b2 : wr.cell? ⟨S + 1, 2, none⟩ = some (.int .i64 (y2 : Int)) := World.objAt.cell hH.out.2.1 (i := 2) rfl
          go_wp2
          go_quiet (fail)
          obtain ⟨wa, hwa⟩ : ∃ wa, wr.drewN nq = wa := ⟨_, rfl⟩
          have hHa := Lib.hid (show LessAtS w wa S x0 x1 x2 y0 y1 y2 by rw [← hwa]; exact hH.out.drew nq)
          rw [hwa]
          clear hwa d0 d1 d2 b0 b1 b2 nq
          have d0 : wa.cell? ⟨S, 0, none⟩ = some (.int .i64 (x0 : Int)) := World.objAt.cell hHa.out.1 (i := 0) rfl
          have b0 : wa.cell? ⟨S + 1, 0, none⟩ = some (.int .i64 (y0 : Int)) := World.objAt.cell hHa.out.2.1 (i := 0) rfl
          have d1 : wa.cell? ⟨S, 1, none⟩ = some (.int .i64 (x1 : Int)) := World.objAt.cell hHa.out.1 (i := 1) rfl
          have b1 : wa.cell? ⟨S + 1, 1, none⟩ = some (.int .i64 (y1 : Int)) := World.objAt.cell hHa.out.2.1 (i := 1) rfl
          have d2 : wa.cell? ⟨S, 2, none⟩ = some (.int .i64 (x2 : Int)) := World.objAt.cell hHa.out.1 (i := 2) rfl
          have b2 : wa.cell? ⟨S + 1, 2, none⟩ = some (.int .i64 (y2 : Int)) := World.objAt.cell hHa.out.2.1 (i := 2) rfl
          go_wp2
          go_quiet (fail)
          obtain ⟨wb, hwa⟩ : ∃ wb, wa.drewN nq = wb := ⟨_, rfl⟩
          have hHb := Lib.hid (show LessAtS w wb S x0 x1 x2 y0 y1 y2 by rw [← hwa]; exact hHa.out.drew nq)
          rw [hwa]
          clear hwa d0 d1 d2 b0 b1 b2 nq
          have d0 : wb.cell? ⟨S, 0, none⟩ = some (.int .i64 (x0 : Int)) := World.objAt.cell hHb.out.1 (i := 0) rfl
          have b0 : wb.cell? ⟨S + 1, 0, none⟩ = some (.int .i64 (y0 : Int)) := World.objAt.cell hHb.out.2.1 (i := 0) rfl
          have d1 : wb.cell? ⟨S, 1, none⟩ = some (.int .i64 (x1 : Int)) := World.objAt.cell hHb.out.1 (i := 1) rfl
          have b1 : wb.cell? ⟨S + 1, 1, none⟩ = some (.int .i64 (y1 : Int)) := World.objAt.cell hHb.out.2.1 (i := 1) rfl
          have d2 : wb.cell? ⟨S, 2, none⟩ = some (.int .i64 (x2 : Int)) := World.objAt.cell hHb.out.1 (i := 2) rfl
          have b2 : wb.cell? ⟨S + 1, 2, none⟩ = some (.int .i64 (y2 : Int)) := World.objAt.cell hHb.out.2.1 (i := 2) rfl
          go_wp2
          refine bodyPost_ret (results_tmp rfl _ _ _) rfl ?_
          refine ⟨?_, Lib.hid hHb.out.2.2⟩
          have h1 := HE.out
          have h2 := HL.out
          have : triLess (x0, x1, x2) (y0, y1, y2) = false := by unfold triLess; dsimp only; split <;> (try split) <;> first | (simp; omega) | (exfalso; omega)
          have hd : decide (x0 < y0) = false := by simp; omega
          show Ending.returned (.bool (decide (x0 < y0))) = _
          rw [this, hd]
    · have HEQ := Lib.hid (e0)
      clear e0
      by_cases hE : x1 = y1
      · have c1 : ((x1 : Int) != (y1 : Int)) = false := by simp; omega
        have HE := Lib.hid hE
        clear hE
        have d0 : wr.cell? ⟨S, 0, none⟩ = some (.int .i64 (x0 : Int)) := World.objAt.cell hH.out.1 (i := 0) rfl
        have b0 : wr.cell? ⟨S + 1, 0, none⟩ = some (.int .i64 (y0 : Int)) := World.objAt.cell hH.out.2.1 (i := 0) rfl
        have d1 : wr.cell? ⟨S, 1, none⟩ = some (.int .i64 (x1 : Int)) := World.objAt.cell hH.out.1 (i := 1) rfl
        have b1 : wr.cell? ⟨S + 1, 1, none⟩ = some (.int .i64 (y1 : Int)) := World.objAt.cell hH.out.2.1 (i := 1) rfl
        have d2 : wr.cell? ⟨S, 2, none⟩ = some (.int .i64 (x2 : Int)) := World.objAt.cell hH.out.1 (i := 2) rfl
        have b2 : wr.cell? ⟨S + 1, 2, none⟩ = some (.int .i64 (y2 : Int)) := World.objAt.cell hH.out.2.1 (i := 2) rfl
        go_wp2
        go_quiet (fail)
        obtain ⟨wa, hwa⟩ : ∃ wa, wr.drewN nq = wa := ⟨_, rfl⟩
        have hHa := Lib.hid (show LessAtS w wa S x0 x1 x2 y0 y1 y2 by rw [← hwa]; exact hH.out.drew nq)
        rw [hwa]
        clear hwa d0 d1 d2 b0 b1 b2 nq
        have d0 : wa.cell? ⟨S, 0, none⟩ = some (.int .i64 (x0 : Int)) := World.objAt.cell hHa.out.1 (i := 0) rfl
        have b0 : wa.cell? ⟨S + 1, 0, none⟩ = some (.int .i64 (y0 : Int)) := World.objAt.cell hHa.out.2.1 (i := 0) rfl
        have d1 : wa.cell? ⟨S, 1, none⟩ = some (.int .i64 (x1 : Int)) := World.objAt.cell hHa.out.1 (i := 1) rfl
        have b1 : wa.cell? ⟨S + 1, 1, none⟩ = some (.int .i64 (y1 : Int)) := World.objAt.cell hHa.out.2.1 (i := 1) rfl
        have d2 : wa.cell? ⟨S, 2, none⟩ = some (.int .i64 (x2 : Int)) := World.objAt.cell hHa.out.1 (i := 2) rfl
        have b2 : wa.cell? ⟨S + 1, 2, none⟩ = some (.int .i64 (y2 : Int)) := World.objAt.cell hHa.out.2.1 (i := 2) rfl
        go_wp2
        go_roundw
        case rel => exact ⟨hHa, .inr (.inr (.inl ⟨by go_num, HEQ.out, HE.out⟩))⟩
        case measure => simp [intOf]
      · have c1 : ((x1 : Int) != (y1 : Int)) = true := by simp; omega
        have HE := Lib.hid hE
        by_cases hL : x1 < y1
        · have c2 : decide ((x1 : Int) < (y1 : Int)) = true := by simp; omega
          have HL := Lib.hid hL
          clear hE hL
          have d0 : wr.cell? ⟨S, 0, none⟩ = some (.int .i64 (x0 : Int)) := World.objAt.cell hH.out.1 (i := 0) rfl
          have b0 : wr.cell? ⟨S + 1, 0, none⟩ = some (.int .i64 (y0 : Int)) := World.objAt.cell hH.out.2.1 (i := 0) rfl
          have d1 : wr.cell? ⟨S, 1, none⟩ = some (.int .i64 (x1 : Int)) := World.objAt.cell hH.out.1 (i := 1) rfl
          have b1 : wr.cell? ⟨S + 1, 1, none⟩ = some (.int .i64 (y1 : Int)) := World.objAt.cell hH.out.2.1 (i := 1) rfl
          have d2 : wr.cell? ⟨S, 2, none⟩ = some (.int .i64 (x2 : Int)) := World.objAt.cell hH.out.1 (i := 2) rfl
          have b2 : wr.cell? ⟨S + 1, 2, none⟩ = some (.int .i64 (y2 : Int)) := World.objAt.cell hH.out.2.1 (i := 2) rfl
          go_wp2
          go_quiet (fail)
          obtain ⟨wa, hwa⟩ : ∃ wa, wr.drewN nq = wa := ⟨_, rfl⟩
          have hHa := Lib.hid (show LessAtS w wa S x0 x1 x2 y0 y1 y2 by rw [← hwa]; exact hH.out.drew nq)
          rw [hwa]
          clear hwa d0 d1 d2 b0 b1 b2 nq
          have d0 : wa.cell? ⟨S, 0, none⟩ = some (.int .i64 (x0 : Int)) := World.objAt.cell hHa.out.1 (i := 0) rfl
          have b0 : wa.cell? ⟨S + 1, 0, none⟩ = some (.int .i64 (y0 : Int)) := World.objAt.cell hHa.out.2.1 (i := 0) rfl
          have d1 : wa.cell? ⟨S, 1, none⟩ = some (.int .i64 (x1 : Int)) := World.objAt.cell hHa.out.1 (i := 1) rfl
          have b1 : wa.cell? ⟨S + 1, 1, none⟩ = some (.int .i64 (y1 : Int)) := World.objAt.cell hHa.out.2.1 (i := 1) rfl
          have d2 : wa.cell? ⟨S, 2, none⟩ = some (.int .i64 (x2 : Int)) := World.objAt.cell hHa.out.1 (i := 2) rfl
          have b2 : wa.cell? ⟨S + 1, 2, none⟩ = some (.int .i64 (y2 : Int)) := World.objAt.cell hHa.out.2.1 (i := 2) rfl
          go_wp2
          go_quiet (fail)
          obtain ⟨wb, hwa⟩ : ∃ wb, wa.drewN nq = wb := ⟨_, rfl⟩
          have hHb := Lib.hid (show LessAtS w wb S x0 x1 x2 y0 y1 y2 by rw [← hwa]; exact hHa.out.drew nq)
          rw [hwa]
          clear hwa d0 d1 d2 b0 b1 b2 nq
          have d0 : wb.cell? ⟨S, 0, none⟩ = some (.int .i64 (x0 : Int)) := World.objAt.cell hHb.out.1 (i := 0) rfl
          have b0 : wb.cell? ⟨S + 1, 0, none⟩ = some (.int .i64 (y0 : Int)) := World.objAt.cell hHb.out.2.1 (i := 0) rfl
          have d1 : wb.cell? ⟨S, 1, none⟩ = some (.int .i64 (x1 : Int)) := World.objAt.cell hHb.out.1 (i := 1) rfl
          have b1 : wb.cell? ⟨S + 1, 1, none⟩ = some (.int .i64 (y1 : Int)) := World.objAt.cell hHb.out.2.1 (i := 1) rfl
          have d2 : wb.cell? ⟨S, 2, none⟩ = some (.int .i64 (x2 : Int)) := World.objAt.cell hHb.out.1 (i := 2) rfl
          have b2 : wb.cell? ⟨S + 1, 2, none⟩ = some (.int .i64 (y2 : Int)) := World.objAt.cell hHb.out.2.1 (i := 2) rfl
          go_wp2
          refine bodyPost_ret (results_tmp rfl _ _ _) rfl ?_
          refine ⟨?_, Lib.hid hHb.out.2.2⟩
          have h1 := HE.out
          have h2 := HL.out
          have h3 := HEQ.out
          have : triLess (x0, x1, x2) (y0, y1, y2) = true := by unfold triLess; dsimp only; split <;> (try split) <;> first | (simp; omega) | (exfalso; omega)
          have hd : decide (x1 < y1) = true := by simp; omega
          show Ending.returned (.bool (decide (x1 < y1))) = _
          rw [this, hd]
        · have c2 : decide ((x1 : Int) < (y1 : Int)) = false := by simp; omega
          have HL := Lib.hid hL
          clear hE hL
          have d0 : wr.cell? ⟨S, 0, none⟩ = some (.int .i64 (x0 : Int)) := World.objAt.cell hH.out.1 (i := 0) rfl
          have b0 : wr.cell? ⟨S + 1, 0, none⟩ = some (.int .i64 (y0 : Int)) := World.objAt.cell hH.out.2.1 (i := 0) rfl
          have d1 : wr.cell? ⟨S, 1, none⟩ = some (.int .i64 (x1 : Int)) := World.objAt.cell hH.out.1 (i := 1) rfl
          have b1 : wr.cell? ⟨S + 1, 1, none⟩ = some (.int .i64 (y1 : Int)) := World.objAt.cell hH.out.2.1 (i := 1) rfl
          have d2 : wr.cell? ⟨S, 2, none⟩ = some (.int .i64 (x2 : Int)) := World.objAt.cell hH.out.1 (i := 2) rfl
          have b2 : wr.cell? ⟨S + 1, 2, none⟩ = some (.int .i64 (y2 : Int)) := World.objAt.cell hH.out.2.1 (i := 2) rfl
          go_wp2
          go_quiet (fail)
          obtain ⟨wa, hwa⟩ : ∃ wa, wr.drewN nq = wa := ⟨_, rfl⟩
          have hHa := Lib.hid (show LessAtS w wa S x0 x1 x2 y0 y1 y2 by rw [← hwa]; exact hH.out.drew nq)
          rw [hwa]
          clear hwa d0 d1 d2 b0 b1 b2 nq
          have d0 : wa.cell? ⟨S, 0, none⟩ = some (.int .i64 (x0 : Int)) := World.objAt.cell hHa.out.1 (i := 0) rfl
          have b0 : wa.cell? ⟨S + 1, 0, none⟩ = some (.int .i64 (y0 : Int)) := World.objAt.cell hHa.out.2.1 (i := 0) rfl
          have d1 : wa.cell? ⟨S, 1, none⟩ = some (.int .i64 (x1 : Int)) := World.objAt.cell hHa.out.1 (i := 1) rfl
          have b1 : wa.cell? ⟨S + 1, 1, none⟩ = some (.int .i64 (y1 : Int)) := World.objAt.cell hHa.out.2.1 (i := 1) rfl
          have d2 : wa.cell? ⟨S, 2, none⟩ = some (.int .i64 (x2 : Int)) := World.objAt.cell hHa.out.1 (i := 2) rfl
          have b2 : wa.cell? ⟨S + 1, 2, none⟩ = some (.int .i64 (y2 : Int)) := World.objAt.cell hHa.out.2.1 (i := 2) rfl
          go_wp2
          go_quiet (fail)
          obtain ⟨wb, hwa⟩ : ∃ wb, wa.drewN nq = wb := ⟨_, rfl⟩
          have hHb := Lib.hid (show LessAtS w wb S x0 x1 x2 y0 y1 y2 by rw [← hwa]; exact hHa.out.drew nq)
          rw [hwa]
          clear hwa d0 d1 d2 b0 b1 b2 nq
          have d0 : wb.cell? ⟨S, 0, none⟩ = some (.int .i64 (x0 : Int)) := World.objAt.cell hHb.out.1 (i := 0) rfl
          have b0 : wb.cell? ⟨S + 1, 0, none⟩ = some (.int .i64 (y0 : Int)) := World.objAt.cell hHb.out.2.1 (i := 0) rfl
          have d1 : wb.cell? ⟨S, 1, none⟩ = some (.int .i64 (x1 : Int)) := World.objAt.cell hHb.out.1 (i := 1) rfl
          have b1 : wb.cell? ⟨S + 1, 1, none⟩ = some (.int .i64 (y1 : Int)) := World.objAt.cell hHb.out.2.1 (i := 1) rfl
          have d2 : wb.cell? ⟨S, 2, none⟩ = some (.int .i64 (x2 : Int)) := World.objAt.cell hHb.out.1 (i := 2) rfl
          have b2 : wb.cell? ⟨S + 1, 2, none⟩ = some (.int .i64 (y2 : Int)) := World.objAt.cell hHb.out.2.1 (i := 2) rfl
          go_wp2
          refine bodyPost_ret (results_tmp rfl _ _ _) rfl ?_
          refine ⟨?_, Lib.hid hHb.out.2.2⟩
          have h1 := HE.out
          have h2 := HL.out
          have h3 := HEQ.out
          have : triLess (x0, x1, x2) (y0, y1, y2) = false := by unfold triLess; dsimp only; split <;> (try split) <;> first | (simp; omega) | (exfalso; omega)
          have hd : decide (x1 < y1) = false := by simp; omega
          show Ending.returned (.bool (decide (x1 < y1))) = _
          rw [this, hd]
    · have HEQ := Lib.hid (And.intro e0 e1)
      clear e0 e1
      by_cases hE : x2 = y2
      · have c1 : ((x2 : Int) != (y2 : Int)) = false := by simp; omega
        have HE := Lib.hid hE
        clear hE
        have d0 : wr.cell? ⟨S, 0, none⟩ = some (.int .i64 (x0 : Int)) := World.objAt.cell hH.out.1 (i := 0) rfl
        have b0 : wr.cell? ⟨S + 1, 0, none⟩ = some (.int .i64 (y0 : Int)) := World.objAt.cell hH.out.2.1 (i := 0) rfl
        have d1 : wr.cell? ⟨S, 1, none⟩ = some (.int .i64 (x1 : Int)) := World.objAt.cell hH.out.1 (i := 1) rfl
        have b1 : wr.cell? ⟨S + 1, 1, none⟩ = some (.int .i64 (y1 : Int)) := World.objAt.cell hH.out.2.1 (i := 1) rfl
        have d2 : wr.cell? ⟨S, 2, none⟩ = some (.int .i64 (x2 : Int)) := World.objAt.cell hH.out.1 (i := 2) rfl
        have b2 : wr.cell? ⟨S + 1, 2, none⟩ = some (.int .i64 (y2 : Int)) := World.objAt.cell hH.out.2.1 (i := 2) rfl
        go_wp2
        go_quiet (fail)
        obtain ⟨wa, hwa⟩ : ∃ wa, wr.drewN nq = wa := ⟨_, rfl⟩
        have hHa := Lib.hid (show LessAtS w wa S x0 x1 x2 y0 y1 y2 by rw [← hwa]; exact hH.out.drew nq)
        rw [hwa]
        clear hwa d0 d1 d2 b0 b1 b2 nq
        have d0 : wa.cell? ⟨S, 0, none⟩ = some (.int .i64 (x0 : Int)) := World.objAt.cell hHa.out.1 (i := 0) rfl
        have b0 : wa.cell? ⟨S + 1, 0, none⟩ = some (.int .i64 (y0 : Int)) := World.objAt.cell hHa.out.2.1 (i := 0) rfl
        have d1 : wa.cell? ⟨S, 1, none⟩ = some (.int .i64 (x1 : Int)) := World.objAt.cell hHa.out.1 (i := 1) rfl
        have b1 : wa.cell? ⟨S + 1, 1, none⟩ = some (.int .i64 (y1 : Int)) := World.objAt.cell hHa.out.2.1 (i := 1) rfl
        have d2 : wa.cell? ⟨S, 2, none⟩ = some (.int .i64 (x2 : Int)) := World.objAt.cell hHa.out.1 (i := 2) rfl
        have b2 : wa.cell? ⟨S + 1, 2, none⟩ = some (.int .i64 (y2 : Int)) := World.objAt.cell hHa.out.2.1 (i := 2) rfl
        go_wp2
        go_roundw
        case rel => exact ⟨hHa, .inr (.inr (.inr ⟨by go_num, HEQ.out.1, HEQ.out.2, HE.out⟩))⟩
        case measure => simp [intOf]
      · have c1 : ((x2 : Int) != (y2 : Int)) = true := by simp; omega
        have HE := Lib.hid hE
        by_cases hL : x2 < y2
        · have c2 : decide ((x2 : Int) < (y2 : Int)) = true := by simp; omega
          have HL := Lib.hid hL
          clear hE hL
          have d0 : wr.cell? ⟨S, 0, none⟩ = some (.int .i64 (x0 : Int)) := World.objAt.cell hH.out.1 (i := 0) rfl
          have b0 : wr.cell? ⟨S + 1, 0, none⟩ = some (.int .i64 (y0 : Int)) := World.objAt.cell hH.out.2.1 (i := 0) rfl
          have d1 : wr.cell? ⟨S, 1, none⟩ = some (.int .i64 (x1 : Int)) := World.objAt.cell hH.out.1 (i := 1) rfl
          have b1 : wr.cell? ⟨S + 1, 1, none⟩ = some (.int .i64 (y1 : Int)) := World.objAt.cell hH.out.2.1 (i := 1) rfl
          have d2 : wr.cell? ⟨S, 2, none⟩ = some (.int .i64 (x2 : Int)) := World.objAt.cell hH.out.1 (i := 2) rfl
          have b2 : wr.cell? ⟨S + 1, 2, none⟩ = some (.int .i64 (y2 : Int)) := World.objAt.cell hH.out.2.1 (i := 2) rfl
          go_wp2
          go_quiet (fail)
          obtain ⟨wa, hwa⟩ : ∃ wa, wr.drewN nq = wa := ⟨_, rfl⟩
          have hHa := Lib.hid (show LessAtS w wa S x0 x1 x2 y0 y1 y2 by rw [← hwa]; exact hH.out.drew nq)
          rw [hwa]
          clear hwa d0 d1 d2 b0 b1 b2 nq
          have d0 : wa.cell? ⟨S, 0, none⟩ = some (.int .i64 (x0 : Int)) := World.objAt.cell hHa.out.1 (i := 0) rfl
          have b0 : wa.cell? ⟨S + 1, 0, none⟩ = some (.int .i64 (y0 : Int)) := World.objAt.cell hHa.out.2.1 (i := 0) rfl
          have d1 : wa.cell? ⟨S, 1, none⟩ = some (.int .i64 (x1 : Int)) := World.objAt.cell hHa.out.1 (i := 1) rfl
          have b1 : wa.cell? ⟨S + 1, 1, none⟩ = some (.int .i64 (y1 : Int)) := World.objAt.cell hHa.out.2.1 (i := 1) rfl
          have d2 : wa.cell? ⟨S, 2, none⟩ = some (.int .i64 (x2 : Int)) := World.objAt.cell hHa.out.1 (i := 2) rfl
          have b2 : wa.cell? ⟨S + 1, 2, none⟩ = some (.int .i64 (y2 : Int)) := World.objAt.cell hHa.out.2.1 (i := 2) rfl
          go_wp2
          go_quiet (fail)
          obtain ⟨wb, hwa⟩ : ∃ wb, wa.drewN nq = wb := ⟨_, rfl⟩
          have hHb := Lib.hid (show LessAtS w wb S x0 x1 x2 y0 y1 y2 by rw [← hwa]; exact hHa.out.drew nq)
          rw [hwa]
          clear hwa d0 d1 d2 b0 b1 b2 nq
          have d0 : wb.cell? ⟨S, 0, none⟩ = some (.int .i64 (x0 : Int)) := World.objAt.cell hHb.out.1 (i := 0) rfl
          have b0 : wb.cell? ⟨S + 1, 0, none⟩ = some (.int .i64 (y0 : Int)) := World.objAt.cell hHb.out.2.1 (i := 0) rfl
          have d1 : wb.cell? ⟨S, 1, none⟩ = some (.int .i64 (x1 : Int)) := World.objAt.cell hHb.out.1 (i := 1) rfl
          have b1 : wb.cell? ⟨S + 1, 1, none⟩ = some (.int .i64 (y1 : Int)) := World.objAt.cell hHb.out.2.1 (i := 1) rfl
          have d2 : wb.cell? ⟨S, 2, none⟩ = some (.int .i64 (x2 : Int)) := World.objAt.cell hHb.out.1 (i := 2) rfl
          have b2 : wb.cell? ⟨S + 1, 2, none⟩ = some (.int .i64 (y2 : Int)) := World.objAt.cell hHb.out.2.1 (i := 2) rfl
          go_wp2
          refine bodyPost_ret (results_tmp rfl _ _ _) rfl ?_
          refine ⟨?_, Lib.hid hHb.out.2.2⟩
          have h1 := HE.out
          have h2 := HL.out
          have h3 := HEQ.out.1
          have h4 := HEQ.out.2
          have : triLess (x0, x1, x2) (y0, y1, y2) = true := by unfold triLess; dsimp only; split <;> (try split) <;> first | (simp; omega) | (exfalso; omega)
          have hd : decide (x2 < y2) = true := by simp; omega
          show Ending.returned (.bool (decide (x2 < y2))) = _
          rw [this, hd]
        · have c2 : decide ((x2 : Int) < (y2 : Int)) = false := by simp; omega
          have HL := Lib.hid hL
          clear hE hL
          have d0 : wr.cell? ⟨S, 0, none⟩ = some (.int .i64 (x0 : Int)) := World.objAt.cell hH.out.1 (i := 0) rfl
          have b0 : wr.cell? ⟨S + 1, 0, none⟩ = some (.int .i64 (y0 : Int)) := World.objAt.cell hH.out.2.1 (i := 0) rfl
          have d1 : wr.cell? ⟨S, 1, none⟩ = some (.int .i64 (x1 : Int)) := World.objAt.cell hH.out.1 (i := 1) rfl
          have b1 : wr.cell? ⟨S + 1, 1, none⟩ = some (.int .i64 (y1 : Int)) := World.objAt.cell hH.out.2.1 (i := 1) rfl
          have d2 : wr.cell? ⟨S, 2, none⟩ = some (.int .i64 (x2 : Int)) := World.objAt.cell hH.out.1 (i := 2) rfl
          have b2 : wr.cell? ⟨S + 1, 2, none⟩ = some (.int .i64 (y2 : Int)) := World.objAt.cell hH.out.2.1 (i := 2) rfl
          go_wp2
          go_quiet (fail)
          obtain ⟨wa, hwa⟩ : ∃ wa, wr.drewN nq = wa := ⟨_, rfl⟩
          have hHa := Lib.hid (show LessAtS w wa S x0 x1 x2 y0 y1 y2 by rw [← hwa]; exact hH.out.drew nq)
          rw [hwa]
          clear hwa d0 d1 d2 b0 b1 b2 nq
          have d0 : wa.cell? ⟨S, 0, none⟩ = some (.int .i64 (x0 : Int)) := World.objAt.cell hHa.out.1 (i := 0) rfl
          have b0 : wa.cell? ⟨S + 1, 0, none⟩ = some (.int .i64 (y0 : Int)) := World.objAt.cell hHa.out.2.1 (i := 0) rfl
          have d1 : wa.cell? ⟨S, 1, none⟩ = some (.int .i64 (x1 : Int)) := World.objAt.cell hHa.out.1 (i := 1) rfl
          have b1 : wa.cell? ⟨S + 1, 1, none⟩ = some (.int .i64 (y1 : Int)) := World.objAt.cell hHa.out.2.1 (i := 1) rfl
          have d2 : wa.cell? ⟨S, 2, none⟩ = some (.int .i64 (x2 : Int)) := World.objAt.cell hHa.out.1 (i := 2) rfl
          have b2 : wa.cell? ⟨S + 1, 2, none⟩ = some (.int .i64 (y2 : Int)) := World.objAt.cell hHa.out.2.1 (i := 2) rfl
          go_wp2
          go_quiet (fail)
          obtain ⟨wb, hwa⟩ : ∃ wb, wa.drewN nq = wb := ⟨_, rfl⟩
          have hHb := Lib.hid (show LessAtS w wb S x0 x1 x2 y0 y1 y2 by rw [← hwa]; exact hHa.out.drew nq)
          rw [hwa]
          clear hwa d0 d1 d2 b0 b1 b2 nq
          have d0 : wb.cell? ⟨S, 0, none⟩ = some (.int .i64 (x0 : Int)) := World.objAt.cell hHb.out.1 (i := 0) rfl
          have b0 : wb.cell? ⟨S + 1, 0, none⟩ = some (.int .i64 (y0 : Int)) := World.objAt.cell hHb.out.2.1 (i := 0) rfl
          have d1 : wb.cell? ⟨S, 1, none⟩ = some (.int .i64 (x1 : Int)) := World.objAt.cell hHb.out.1 (i := 1) rfl
          have b1 : wb.cell? ⟨S + 1, 1, none⟩ = some (.int .i64 (y1 : Int)) := World.objAt.cell hHb.out.2.1 (i := 1) rfl
          have d2 : wb.cell? ⟨S, 2, none⟩ = some (.int .i64 (x2 : Int)) := World.objAt.cell hHb.out.1 (i := 2) rfl
          have b2 : wb.cell? ⟨S + 1, 2, none⟩ = some (.int .i64 (y2 : Int)) := World.objAt.cell hHb.out.2.1 (i := 2) rfl
          go_wp2
          refine bodyPost_ret (results_tmp rfl _ _ _) rfl ?_
          refine ⟨?_, Lib.hid hHb.out.2.2⟩
          have h1 := HE.out
          have h2 := HL.out
          have h3 := HEQ.out.1
          have h4 := HEQ.out.2
          have : triLess (x0, x1, x2) (y0, y1, y2) = false := by unfold triLess; dsimp only; split <;> (try split) <;> first | (simp; omega) | (exfalso; omega)
          have hd : decide (x2 < y2) = false := by simp; omega
          show Ending.returned (.bool (decide (x2 < y2))) = _
          rw [this, hd]
    · have HEQ := Lib.hid (And.intro e0 (And.intro e1 e2))
      clear e0 e1 e2
      go_wp2
      refine bodyPost_ret (results_tmp rfl _ _ _) rfl ?_
      refine ⟨?_, Lib.hid hH.out.2.2⟩
      obtain ⟨h1, h2, h3⟩ := HEQ.out
      have : triLess (x0, x1, x2) (y0, y1, y2) = false := by unfold triLess; dsimp only; split <;> (try split) <;> first | (simp; omega) | (exfalso; omega)
      rw [this]; rfl
theorem digits10 : ∀ d : Fin 10, (⟨#[48, 49, 50, 51, 52, 53, 54, 55, 56, 57]⟩ : ByteArray).extract d.val (d.val + 1) = bs [UInt8.ofNat (48 + d.val)] := by decide +kernel
theorem decL_len4 {n : Nat} (h : n ≤ 9999) : (bs (decL n)).size ≤ 4 := by
  rw [bs_size]
  exact decL_len 3 n (by omega)
set_option maxRecDepth 100000 in
set_option maxHeartbeats 4000000 in
theorem decimal_any (n : Nat) : n ≤ 9999 → ∀ w, Calls Tryz.prog 48 #[.int .i64 (n : Int)] w (StrPost (bs (decL n)) w) := by
  induction n using Nat.strongRecOn with
  | _ n ih =>
    intro hn w
    by_cases h : n < 10
    · have hd := digits10 ⟨n, h⟩
      simp only at hd
      have hdl : decL n = [UInt8.ofNat (48 + n)] := by rw [decL]; simp [h]
      have HD := Lib.hid (And.intro hd hdl)
      clear hd hdl ih
      have g0 : decide ((n : Int) < (10 : Int)) = true := by simp; omega
      go_enter Tryz.func48, Tryz.ntmps48
      go_wp2
      go_ret
      refine ⟨?_, Below.refl _ _⟩
      rw [HD.out.2, ← HD.out.1]
      rfl
    · have hdl : decL n = decL (n / 10) ++ [UInt8.ofNat (48 + n % 10)] := by rw [decL]; simp [h]
      have hdl2 : decL (n % 10) = [UInt8.ofNat (48 + n % 10)] := by rw [decL]; simp [show n % 10 < 10 by omega]
      have H1 := Lib.hid (ih (n / 10) (by omega) (by omega))
      have H2 := Lib.hid (ih (n % 10) (by omega) (by omega))
      obtain ⟨A, hA⟩ : ∃ A, bs (decL (n / 10)) = A := ⟨_, rfl⟩
      obtain ⟨B, hB⟩ : ∃ B, bs (decL (n % 10)) = B := ⟨_, rfl⟩
      have hAs : A.size ≤ 4 := by rw [← hA]; exact decL_len4 (by omega)
      have hBs : B.size ≤ 4 := by rw [← hB]; exact decL_len4 (by omega)
      rw [hA] at H1
      rw [hB] at H2
      have HE := Lib.hid (show bs (decL n) = A ++ B by rw [← hA, ← hB, bs_append, hdl, hdl2])
      clear hdl hdl2 hA hB ih
      have g0 : decide ((n : Int) < (10 : Int)) = false := by simp; omega
      have hcat : A.size + B.size ≤ 9223372036854775807 := by omega
      obtain ⟨a, ha⟩ : ∃ a, n / 10 = a := ⟨_, rfl⟩
      obtain ⟨b, hb⟩ : ∃ b, n % 10 = b := ⟨_, rfl⟩
      have haI : (n : Int) / 10 = (a : Int) := by omega
      have hbI : (n : Int) % 10 = (b : Int) := by omega
      rw [ha] at H1
      rw [hb] at H2
      go_enter Tryz.func48, Tryz.ntmps48
      go_wp2_with fail
      refine (H1.out w).mono ?_
      rintro e w1 ⟨rfl, hb1⟩
      have HB1 := Lib.hid hb1
      clear hb1
      go_wp2_with fail
      refine (H2.out w1).mono ?_
      rintro e w2 ⟨rfl, hb2⟩
      have HB2 := Lib.hid (HB1.out.trans (hb2.mono HB1.out.size))
      clear hb2
      go_wp2
      go_ret
      exact ⟨by rw [HE.out]; rfl, HB2.out⟩
theorem sgnL_len {b : Int} (h : -9999 ≤ b ∧ b ≤ 9999) : (bs (sgnL b)).size ≤ 5 := by
  rw [bs_size]
  unfold sgnL
  split
  · have := decL_len4 (n := b.natAbs) (by omega)
    rw [bs_size] at this
    simp; omega
  · have := decL_len4 (n := b.toNat) (by omega)
    rw [bs_size] at this
    simp; omega
set_option maxRecDepth 100000 in
set_option maxHeartbeats 4000000 in
theorem signed_any (b : Int) (h : -9999 ≤ b ∧ b ≤ 9999) (w : World) : Calls Tryz.prog 49 #[.int .i64 b] w (StrPost (bs (sgnL b)) w) := by
  by_cases h0 : b < 0
  · obtain ⟨n, hn⟩ : ∃ n : Nat, b.natAbs = n := ⟨_, rfl⟩
    have hnI : -b = (n : Int) := by omega
    have g0 : decide (b < (0 : Int)) = true := by simp; omega
    have H := Lib.hid (decimal_any n (by omega) w)
    have HE := Lib.hid (show bs (sgnL b) = ⟨#[45]⟩ ++ bs (decL n) by unfold sgnL; rw [if_pos h0, hn]; exact (bs_append [45] (decL n)).symm)
    have hs := decL_len4 (n := n) (by omega)
    obtain ⟨A, hA⟩ : ∃ A, bs (decL n) = A := ⟨_, rfl⟩
    rw [hA] at H HE hs
    have hcat : 1 + A.size ≤ 9223372036854775807 := by omega
    clear hA hn
    go_enter Tryz.func49, Tryz.ntmps49
    go_wp2_with fail
    refine H.out.mono ?_
    rintro e w1 ⟨rfl, hb1⟩
    have HB1 := Lib.hid hb1
    clear hb1 H
    go_wp2
    go_ret
    exact ⟨by rw [HE.out]; rfl, HB1.out⟩
  · obtain ⟨n, rfl⟩ := Int.eq_ofNat_of_zero_le (show 0 ≤ b by omega)
    have g0 : decide ((n : Int) < (0 : Int)) = false := by simp
    have H := Lib.hid (decimal_any n (by omega) w)
    have HE := Lib.hid (show bs (sgnL (n : Int)) = ⟨#[43]⟩ ++ bs (decL n) by unfold sgnL; rw [if_neg h0]; exact (bs_append [43] (decL n)).symm)
    have hs := decL_len4 (n := n) (by omega)
    obtain ⟨A, hA⟩ : ∃ A, bs (decL n) = A := ⟨_, rfl⟩
    rw [hA] at H HE hs
    have hcat : 1 + A.size ≤ 9223372036854775807 := by omega
    clear hA
    go_enter Tryz.func49, Tryz.ntmps49
    go_wp2_with fail
    refine H.out.mono ?_
    rintro e w1 ⟨rfl, hb1⟩
    have HB1 := Lib.hid hb1
    clear hb1 H
    go_wp2
    go_ret
    exact ⟨by rw [HE.out]; rfl, HB1.out⟩
set_option maxRecDepth 100000 in
set_option maxHeartbeats 4000000 in
theorem counted_any (a b : Int) (ha : -9999 ≤ a ∧ a ≤ 9999) (h : -9999 ≤ b ∧ b ≤ 9999) (w : World) : Calls Tryz.prog 37 #[.int .i64 a, .int .i64 b] w (StrPost (bs (cntL a b)) w) := by
  have hS := fun w' => signed_any b h w'
  have hs2 := sgnL_len h
  obtain ⟨C, hC⟩ : ∃ C, bs (sgnL b) = C := ⟨_, rfl⟩
  rw [hC] at hs2
  simp only [hC] at hS
  have HS := Lib.hid hS
  by_cases h0 : a < 0
  · obtain ⟨n, hn⟩ : ∃ n : Nat, a.natAbs = n := ⟨_, rfl⟩
    have hnI : -a = (n : Int) := by omega
    have g0 : decide (a < (0 : Int)) = true := by simp; omega
    have H := Lib.hid (decimal_any n (by omega) w)
    have hs := decL_len4 (n := n) (by omega)
    obtain ⟨A, hA⟩ : ∃ A, bs (decL n) = A := ⟨_, rfl⟩
    have HE := Lib.hid (show bs (cntL a b) = ⟨#[45]⟩ ++ A ++ ⟨#[110]⟩ ++ C by
      rw [← hA, ← hC]
      unfold cntL; rw [if_pos h0, hn]
      show _ = bs [45] ++ bs (decL n) ++ bs [110] ++ bs (sgnL b)
      rw [bs_append, bs_append, bs_append]
      simp)
    rw [hA] at H hs
    have hcat : 1 + A.size ≤ 9223372036854775807 := by omega
    have hcat2 : 1 + A.size + 1 ≤ 9223372036854775807 := by omega
    have hcat3 : 1 + A.size + 1 + C.size ≤ 9223372036854775807 := by omega
    clear hA hn hS hC
    go_enter Tryz.func37, Tryz.ntmps37
    go_wp2_with fail
    refine H.out.mono ?_
    rintro e w1 ⟨rfl, hb1⟩
    have HB1 := Lib.hid hb1
    clear hb1 H
    go_wp2_with fail
    refine (HS.out w1).mono ?_
    rintro e w2 ⟨rfl, hb2⟩
    have HB2 := Lib.hid (HB1.out.trans (hb2.mono HB1.out.size))
    clear hb2 HS
    go_wp2
    go_ret
    exact ⟨by rw [HE.out]; rfl, HB2.out⟩
  · obtain ⟨n, rfl⟩ := Int.eq_ofNat_of_zero_le (show 0 ≤ a by omega)
    have g0 : decide ((n : Int) < (0 : Int)) = false := by simp
    have H := Lib.hid (decimal_any n (by omega) w)
    have hs := decL_len4 (n := n) (by omega)
    obtain ⟨A, hA⟩ : ∃ A, bs (decL n) = A := ⟨_, rfl⟩
    have HE := Lib.hid (show bs (cntL (n : Int) b) = A ++ ⟨#[110]⟩ ++ C by
      rw [← hA, ← hC]
      unfold cntL; rw [if_neg h0]
      show _ = bs (decL n) ++ bs [110] ++ bs (sgnL b)
      rw [bs_append, bs_append]
      simp)
    rw [hA] at H hs
    have hcat2 : A.size + 1 ≤ 9223372036854775807 := by omega
    have hcat3 : A.size + 1 + C.size ≤ 9223372036854775807 := by omega
    clear hA hS hC
    go_enter Tryz.func37, Tryz.ntmps37
    go_wp2_with fail
    refine H.out.mono ?_
    rintro e w1 ⟨rfl, hb1⟩
    have HB1 := Lib.hid hb1
    clear hb1 H
    go_wp2_with fail
    refine (HS.out w1).mono ?_
    rintro e w2 ⟨rfl, hb2⟩
    have HB2 := Lib.hid (HB1.out.trans (hb2.mono HB1.out.size))
    clear hb2 HS
    go_wp2
    go_ret
    exact ⟨by rw [HE.out]; rfl, HB2.out⟩
theorem digits_at : ∀ d : Fin 16, (⟨#[48, 49, 50, 51, 52, 53, 54, 55, 56, 57, 97, 98, 99, 100, 101, 102]⟩ : ByteArray).extract d.val (d.val + 1) = bs [hxd d.val] := by decide +kernel
set_option maxRecDepth 100000 in
set_option maxHeartbeats 4000000 in
theorem escapeOf_any (c : Nat) (w : World) (h0 : 0 < c) (h : c < 128) : Calls Tryz.prog 46 #[.int .i64 (c : Int)] w (StrPost (bs (esx c)) w) := by
  go_enter Tryz.func46, Tryz.ntmps46
  go_wp2
  go_loopw [0, 3] (fun v o wr => ∃ (x : Nat) (q : ByteArray), v = .int .i64 (x : Int) ∧ o = .string q ∧ x < 128 ∧ q.size ≤ 2 ∧ Hid ((x = c ∧ q = ByteArray.empty) ∨ (16 ≤ c ∧ x = c / 16 ∧ q = bs [hxd (c % 16)]) ∨ (x = 0 ∧ q = bs (if c < 16 then [hxd c] else [hxd (c / 16), hxd (c % 16)]))) ∧ wr = w) (fun v _ _ => (intOf v).toNat)
  case atStart => exact ⟨c, ByteArray.empty, rfl, rfl, h, by simp, Lib.hid (.inl ⟨rfl, rfl⟩), rfl⟩
  case round =>
    obtain ⟨x, q, rfl, rfl, hx, hq, hst, rfl⟩ := hrel
    by_cases h0x : 0 < x
    · have g0 : decide ((0 : Int) < (x : Int)) = true := by simp; omega
      have hd := digits_at ⟨x % 16, by omega⟩
      simp only at hd
      have HD := Lib.hid hd
      clear hd
      have hcat : (ByteArray.extract ⟨#[48, 49, 50, 51, 52, 53, 54, 55, 56, 57, 97, 98, 99, 100, 101, 102]⟩ (x % 16) (x % 16 + 1)).size + q.size ≤ 9223372036854775807 := by rw [ByteArray.size_extract]; omega
      go_wp2
      have hsz : (((⟨#[48, 49, 50, 51, 52, 53, 54, 55, 56, 57, 97, 98, 99, 100, 101, 102]⟩ : ByteArray).extract (x % 16) (x % 16 + 1)) ++ q).size = 1 + q.size := by rw [HD.out, ByteArray.size_append, bs_size]; rfl
      rcases hst.out with ⟨h1, h2⟩ | ⟨h1, h2, h3⟩ | ⟨h1, _⟩
      · by_cases h16 : c < 16
        · exact ⟨⟨x / 16, _, rfl, rfl, by omega, by rw [hsz, h2]; decide, Lib.hid (.inr (.inr ⟨by omega, by rw [HD.out, h2, if_pos h16, ByteArray.append_empty, show x % 16 = c by omega]⟩)), trivial⟩, by simp [intOf]; omega⟩
        · exact ⟨⟨x / 16, _, rfl, rfl, by omega, by rw [hsz, h2]; decide, Lib.hid (.inr (.inl ⟨by omega, by omega, by rw [HD.out, h2, ByteArray.append_empty, show x % 16 = c % 16 by omega]⟩)), trivial⟩, by simp [intOf]; omega⟩
      · exact ⟨⟨x / 16, _, rfl, rfl, by omega, by rw [hsz, h3, bs_size]; simp, Lib.hid (.inr (.inr ⟨by omega, by rw [HD.out, h3, if_neg (by omega), bs_append, show x % 16 = c / 16 by omega]; rfl⟩)), trivial⟩, by simp [intOf]; omega⟩
      · omega
    · have g0 : decide ((0 : Int) < (x : Int)) = false := by simp; omega
      have hc1 : (⟨#[92]⟩ : ByteArray).size + q.size ≤ 9223372036854775807 := by show 1 + q.size ≤ _; omega
      have hc2 : 1 + q.size + 1 ≤ 9223372036854775807 := by omega
      go_wp2
      go_ret
      rcases hst.out with ⟨h1, h2⟩ | ⟨h1, h2, h3⟩ | ⟨h1, h2⟩
      · omega
      · omega
      · rw [h2]
        refine ⟨?_, Below.refl _ _⟩
        show Ending.returned (.string (bs [92] ++ bs _ ++ bs [32])) = _
        rw [bs_append, bs_append]
        rfl
set_option maxRecDepth 100000 in
set_option maxHeartbeats 4000000 in
theorem written_any (a : Option Addr) (len cap : Nat) (w : World) (t : ByteArray) (hpos : 0 < len)
    (hW : Calls Tryz.prog 16 #[.slice a len cap, .int .i64 0] w (StrPost t w)) :
    Calls Tryz.prog 9 #[.slice a len cap] w (StrPost t w) := by
  have g0 : ((len : Int) == 0) = false := by simp; omega
  have H := Lib.hid hW
  clear hW
  go_enter Tryz.func9, Tryz.ntmps9
  go_wp2_with fail
  refine H.out.mono ?_
  rintro e w2 ⟨rfl, hb⟩
  have HB := Lib.hid hb
  clear hb
  go_wp2
  go_ret
  exact ⟨rfl, HB.out⟩
end Go.Proofs.YtoanofdomhnafaaGreatDoor
