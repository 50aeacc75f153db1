/- Nothing appended, or some values out of another slice. -/
import Derived.Test.YtphppdbhofeagaaGreatPtrAll
import Derived.Laws.AppendOwn
import Derived.Deep.AppendLies
namespace Go.Proofs.YtphppdbhofeagaaGreat
open Go.RowKit
set_option linter.unusedVariables false
set_option linter.unusedSimpArgs false

section
variable {P : Program} {w : World}

/-- Nothing appended: the slice as it was. -/
theorem run_append_none2 (t ty e : TypeId) (i : TypeInfo) (ht : P.underlying t = some (.slice e)) (hi : P.info? e = some i) (b b' : Option Addr) (n c c' : Nat) (hc : n ≤ c) :
    (Builtin.append_ #[t, t] ty #[.slice b n c, .slice b' 0 c']).run P w = .ok (.slice b n c) w := by
  cases b <;> cases b' <;> simp [Builtin.append_, run_underlying ht, sizeOf, typeInfo, hi, Builtin.lenOf, hc, Builtin.firstCells, storeCells, Result.andThen, loadCells, loadCellsFrom]

theorem wp_append_none2 {o : Oper} {a : Act} {K : Act → World → Prop} {Q : Exit → Act → World → Prop} (s x : Operand) (t : TypeId)
    (ho : o.op = .call { callee := .builtin .append, args := #[s, x], argTypes := #[t, t] })
    (e : TypeId) (i : TypeInfo) (ht : P.underlying t = some (.slice e)) (hi : P.info? e = some i) (b b' : Option Addr) (n c c' : Nat) (hc : n ≤ c)
    (hs : a.eval s = .slice b n c) (hx : a.eval x = .slice b' 0 c') (h : K (a.put o.dst (.slice b n c)) w) : o.wp P a w K Q := by
  have hr := run_append_none2 (P := P) (w := w) t o.type e i ht hi b b' n c c' hc
  unfold Oper.wp execOp
  simp only [ho, resolve, invoke, builtin, Sem.run_bind, Sem.run_pure, Result.andThen_ok, List.map_toArray, List.map_cons, List.map_nil, hs, hx, hr]
  exact h

theorem wpList_append_none2 {ops : Array Oper} {rest : List Oper} {o : Oper} {a : Act} {Q : Exit → Act → World → Prop} (hgd : o.guard = none) (s x : Operand) (t : TypeId)
    (ho : o.op = .call { callee := .builtin .append, args := #[s, x], argTypes := #[t, t] })
    (e : TypeId) (i : TypeInfo) (ht : P.underlying t = some (.slice e)) (hi : P.info? e = some i) (b b' : Option Addr) (n c c' : Nat) (hc : n ≤ c)
    (hs : a.eval s = .slice b n c) (hx : a.eval x = .slice b' 0 c') (h : wpList P ops Q rest (a.put o.dst (.slice b n c)) w) : wpList P ops Q (o :: rest) a w :=
  wpList_plain hgd fun _ hK => wp_append_none2 s x t ho e i ht hi b b' n c c' hc hs hx (hK _ _ h)
/-- Some values out of a slice that can be read, or none, behind an own row. -/
theorem wp_append_reads {o : Oper} {a : Act} {K : Act → World → Prop} {Q : Exit → Act → World → Prop} (s x : Operand) (t : TypeId)
    (ho : o.op = .call { callee := .builtin .append, args := #[s, x], argTypes := #[t, t] })
    (base : Nat) (e : TypeId) (i : TypeInfo) (z : Value) (bytes : Nat) (ht : P.underlying t = some (.slice e)) (hi : P.info? e = some i) (hz : i.zero = some z)
    (hsize : i.size = 1) (hby : i.bytes = bytes) (hzs : z.cells.size = 1)
    (b : Option Addr) (n c : Nat) (xs : List Value) (hs : a.eval s = .slice b n c) (hown : w.ownsRow base e 1 (.slice b n c) n xs)
    (b' : Option Addr) (m c' : Nat) (news : List Value) (hx : a.eval x = .slice b' m c') (hrow : Row w b' m news) (h1 : ∀ u ∈ news, u.oneCell' = true)
    (h63 : n + m ≤ maxLen) (hbytes : (n + m) * bytes ≤ 140737488355328) (hbase : base ≤ w.heap.size)
    (h : ∀ b2 c2 w', w'.ownsRow base e 1 (.slice b2 (n + m) c2) (n + m) (xs ++ news) → w.grownBy w' (Value.slice b n c).ownBlock → K (a.put o.dst (.slice b2 (n + m) c2)) w') : o.wp P a w K Q := by
  obtain ⟨r1, r2, r3⟩ := hrow
  by_cases hm : m = 0
  · subst hm
    have hnil : news = [] := List.eq_nil_of_length_eq_zero r1
    subst hnil
    have hnc : n ≤ c := by
      rcases hown.2 with ⟨hv, _⟩ | ⟨g, cap, cur, hv, _, _, hn, _⟩
      · simp at hv; omega
      · simp at hv; omega
    refine wp_append_none2 s x t ho e i ht hi b b' n c c' hnc hs hx ?_
    exact h b c w (by simpa using hown) ⟨rfl, rfl, rfl, Nat.le_refl _, fun _ _ _ => rfl⟩
  · obtain ⟨bb, off, rfl, hc⟩ := r3 (by omega)
    refine wp_append_lies w s x t ho base e i z 1 bytes ht hi hz hsize hby hzs (by omega) (.slice b n c) n xs hs hown ⟨bb, off, none⟩ m c' news hx (by omega) (fun j u hj => ?_) h1 (by omega) h63 hbytes hbase _ rfl (fun g cap w' h2 h3 _ _ => h (some ⟨g, 0, none⟩) cap w' h2 h3)
    have hjl : j < news.length := (List.getElem?_eq_some_iff.1 hj).1
    have hadd : (⟨bb, off, none⟩ : Addr).add j = ⟨bb, off + j, none⟩ := by unfold Addr.add; split <;> simp_all
    rw [hadd, hc j (by omega), List.getD_eq_getElem?_getD, hj]
    rfl

theorem wpList_append_reads {ops : Array Oper} {rest : List Oper} {o : Oper} {a : Act} {Q : Exit → Act → World → Prop} (hgd : o.guard = none) (s x : Operand) (t : TypeId)
    (ho : o.op = .call { callee := .builtin .append, args := #[s, x], argTypes := #[t, t] })
    (base : Nat) (e : TypeId) (i : TypeInfo) (z : Value) (bytes : Nat) (ht : P.underlying t = some (.slice e)) (hi : P.info? e = some i) (hz : i.zero = some z)
    (hsize : i.size = 1) (hby : i.bytes = bytes) (hzs : z.cells.size = 1)
    (b : Option Addr) (n c : Nat) (xs : List Value) (hs : a.eval s = .slice b n c) (hown : w.ownsRow base e 1 (.slice b n c) n xs)
    (b' : Option Addr) (m c' : Nat) (news : List Value) (hx : a.eval x = .slice b' m c') (hrow : Row w b' m news) (h1 : ∀ u ∈ news, u.oneCell' = true)
    (h63 : n + m ≤ maxLen) (hbytes : (n + m) * bytes ≤ 140737488355328) (hbase : base ≤ w.heap.size)
    (h : ∀ b2 c2 w', w'.ownsRow base e 1 (.slice b2 (n + m) c2) (n + m) (xs ++ news) → w.grownBy w' (Value.slice b n c).ownBlock → wpList P ops Q rest (a.put o.dst (.slice b2 (n + m) c2)) w') : wpList P ops Q (o :: rest) a w :=
  wpList_plain hgd fun _ hK => wp_append_reads s x t ho base e i z bytes ht hi hz hsize hby hzs b n c xs hs hown b' m c' news hx hrow h1 h63 hbytes hbase fun b2 c2 w' h2 h3 => hK _ _ (h b2 c2 w' h2 h3)

/-- The same, where the operation has a guard. -/
theorem wpList_append_reads_g {ops : Array Oper} {rest : List Oper} {o : Oper} {a : Act} {Q : Exit → Act → World → Prop} (hgd : Region.wanted o (yielded ops a.tmps) = true) (s x : Operand) (t : TypeId)
    (ho : o.op = .call { callee := .builtin .append, args := #[s, x], argTypes := #[t, t] })
    (base : Nat) (e : TypeId) (i : TypeInfo) (z : Value) (bytes : Nat) (ht : P.underlying t = some (.slice e)) (hi : P.info? e = some i) (hz : i.zero = some z)
    (hsize : i.size = 1) (hby : i.bytes = bytes) (hzs : z.cells.size = 1)
    (b : Option Addr) (n c : Nat) (xs : List Value) (hs : a.eval s = .slice b n c) (hown : w.ownsRow base e 1 (.slice b n c) n xs)
    (b' : Option Addr) (m c' : Nat) (news : List Value) (hx : a.eval x = .slice b' m c') (hrow : Row w b' m news) (h1 : ∀ u ∈ news, u.oneCell' = true)
    (h63 : n + m ≤ maxLen) (hbytes : (n + m) * bytes ≤ 140737488355328) (hbase : base ≤ w.heap.size)
    (h : ∀ b2 c2 w', w'.ownsRow base e 1 (.slice b2 (n + m) c2) (n + m) (xs ++ news) → w.grownBy w' (Value.slice b n c).ownBlock → wpList P ops Q rest (a.put o.dst (.slice b2 (n + m) c2)) w') : wpList P ops Q (o :: rest) a w :=
  wpList_step fun _ hK => by
    rw [if_pos hgd]
    exact wp_append_reads s x t ho base e i z bytes ht hi hz hsize hby hzs b n c xs hs hown b' m c' news hx hrow h1 h63 hbytes hbase fun b2 c2 w' h2 h3 => hK _ _ (h b2 c2 w' h2 h3)
/-- At a step of a region that draws its order. -/
theorem step_append_reads {ops : Array Oper} {o : Oper} {a : Act} {K : Act → World → Prop} {Q : Exit → Act → World → Prop} {E : Prop} (hgd : o.guard = none) (s x : Operand) (t : TypeId)
    (ho : o.op = .call { callee := .builtin .append, args := #[s, x], argTypes := #[t, t] })
    (base : Nat) (e : TypeId) (i : TypeInfo) (z : Value) (bytes : Nat) (ht : P.underlying t = some (.slice e)) (hi : P.info? e = some i) (hz : i.zero = some z)
    (hsize : i.size = 1) (hby : i.bytes = bytes) (hzs : z.cells.size = 1)
    (b : Option Addr) (n c : Nat) (xs : List Value) (hs : a.eval s = .slice b n c) (hown : w.ownsRow base e 1 (.slice b n c) n xs)
    (b' : Option Addr) (m c' : Nat) (news : List Value) (hx : a.eval x = .slice b' m c') (hrow : Row w b' m news) (h1 : ∀ u ∈ news, u.oneCell' = true)
    (h63 : n + m ≤ maxLen) (hbytes : (n + m) * bytes ≤ 140737488355328) (hbase : base ≤ w.heap.size)
    (h : ∀ b2 c2 w', w'.ownsRow base e 1 (.slice b2 (n + m) c2) (n + m) (xs ++ news) → w.grownBy w' (Value.slice b n c).ownBlock → K (a.put o.dst (.slice b2 (n + m) c2)) w') :
    if Region.wanted o (yielded ops a.tmps) = true then Oper.wp P o a w K Q else E := by
  have hw : Region.wanted o (yielded ops a.tmps) = true := by simp [Region.wanted, hgd]
  rw [if_pos hw]
  exact wp_append_reads s x t ho base e i z bytes ht hi hz hsize hby hzs b n c xs hs hown b' m c' news hx hrow h1 h63 hbytes hbase h
end

/-- An empty row that has just been laid. -/
theorem owns_empty (w : World) (B : Nat) (hB : B ≤ w.heap.size) (e : TypeId) : (w.alloc (.cells #[] e)).ownsRow B e 1 (.slice (some ⟨w.heap.size, 0, none⟩) 0 0) 0 [] :=
  ⟨rfl, .inr ⟨w.heap.size, 0, #[], rfl, hB, heap_alloc_new w _, Nat.le_refl _, Nat.zero_le _, rfl, rfl⟩⟩

theorem reads_row {w : World} {a : Option Addr} {n c : Nat} {vs : List Value} (h : ReadsAs w (.slice a n c) vs) : Row w a n vs := by
  obtain ⟨a', c', he, _, _, hr⟩ := h
  simp at he
  obtain ⟨rfl, rfl, rfl⟩ := he
  exact hr

theorem intV_one {l : List Nat} : ∀ u ∈ l.map intV, u.oneCell' = true := by
  intro u hu
  obtain ⟨n, _, rfl⟩ := List.mem_map.1 hu
  rfl

end Go.Proofs.YtphppdbhofeagaaGreat
