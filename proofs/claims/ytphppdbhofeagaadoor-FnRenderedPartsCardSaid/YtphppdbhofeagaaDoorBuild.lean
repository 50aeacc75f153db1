/- strings.Builder at this dump: copyCheck, WriteByte, WriteString (the shelf's contracts do not lay here: the body of copyCheck is another one). -/
import Derived.Lib.Builder
import Derived.Lib.AppendStr
import Derived.Lib.Strings
import Derived.Lib.Slices
import Derived.Lib.Walk
import Derived.Laws.Externs
import Derived.Test.YtphppdbhofeagaaDoorSegAll
namespace Go.Proofs.YtphppdbhofeagaaDoor
open Go.RowKit
set_option linter.unusedVariables false
set_option linter.unusedSimpArgs false

theorem bld_size : (Tryd.prog.info? 56).map (·.size) = some 2 := by kernel_rfl
theorem bld_lies : liesAt Tryd.prog Tryd.prog.depth 56 (2 / Tryd.prog.cellsOf 56) 0 56 1 = true := by kernel_rfl
theorem bld_byte : (Tryd.prog.info? 5).map (fun i => (i.zero, i.size, i.bytes)) = some (some (.int .u8 0), 1, 1) := by kernel_rfl

set_option maxHeartbeats 1000000 in
set_option maxRecDepth 100000 in
theorem bldUsed_any (b : Nat) (w : World) (h0 : w.cell? ⟨b, 0, none⟩ = some (.pointer (some ⟨b, 0, none⟩))) :
    Calls Tryd.prog 92 #[.pointer (some ⟨b, 0, none⟩)] w fun e w' => e = .returned (.tuple #[]) ∧ w' = w := by
  obtain ⟨j, hj, _⟩ := Option.map_eq_some_iff.1 bld_size
  go_enter Tryd.func92, Tryd.ntmps92
  go_wp2
  rw [Lib.run_neq_ptr_same w _ Tryd.underlying53 hj]
  go_wp2
  go_end0
  exact ⟨rfl, rfl⟩

set_option maxHeartbeats 1000000 in
set_option maxRecDepth 100000 in
theorem bldFresh_any (b : Nat) (w : World) (h0 : w.cell? ⟨b, 0, none⟩ = some (.pointer none)) (hsh : w.shape? b = some (56, 2)) (hfz : w.frozen? ⟨b, 0, none⟩ = false) :
    Calls Tryd.prog 92 #[.pointer (some ⟨b, 0, none⟩)] w fun e w' => e = .returned (.tuple #[]) ∧ w' = w.setCell ⟨b, 0, none⟩ (.pointer (some ⟨b, 0, none⟩)) := by
  obtain ⟨j, hj, hjs⟩ := Option.map_eq_some_iff.1 bld_size
  go_enter Tryd.func92, Tryd.ntmps92
  go_wp2
  rw [Lib.run_to_unsafe w ⟨b, 0, none⟩ Tryd.underlying53 Tryd.underlying135 hj (by rw [hjs]; decide) hsh (Nat.zero_lt_succ 1)]
  simp only [Result.andThen]
  rw [Oper.upon_value]
  go_wp2
  rw [run_callFunc_extern Tryd.func93 (by kernel_rfl) (by kernel_rfl) (by kernel_rfl) (e := Extern.AbiNoEscape.same) (by kernel_rfl)]
  rw [Lib.run_noEscape]
  simp only [Result.andThen]
  rw [Oper.upon_value]
  go_wp2
  rw [Lib.run_from_unsafe w ⟨b, 0, none⟩ Tryd.underlying135 Tryd.underlying53 hj hsh bld_lies]
  simp only [Result.andThen]
  rw [Oper.upon_value]
  go_wp2
  go_end0
  exact ⟨rfl, rfl⟩

abbrev IsB (B b : Nat) (l : List UInt8) (w : World) : Prop := Lib.IsBuilder 56 5 B b (Lib.byteCells l) w

/-- All other blocks that are no rows of bytes are kept. -/
def Others (b : Nat) (w w' : World) : Prop := ∀ q cs T fr, q ≠ b → T ≠ 5 → w.heap[q]? = some (.cells cs T fr) → w'.heap[q]? = some (.cells cs T fr)

theorem Others.cell {b : Nat} {w w' : World} (h : Others b w w') {q i : Nat} {cs : Array Value} {T : TypeId} {fr : Nat × Nat} (hq : q ≠ b) (hT : T ≠ 5) (hb : w.heap[q]? = some (.cells cs T fr)) : w'.cell? ⟨q, i, none⟩ = cs[i]? :=
  Lib.cell_of_heap (h q cs T fr hq hT hb) i

theorem Others.trans {b : Nat} {w w' w2 : World} (h : Others b w w') (h2 : Others b w' w2) : Others b w w2 := fun q cs T fr a c d => h2 q cs T fr a c (h q cs T fr a c d)

theorem others_setCell {b : Nat} {w : World} (i : Nat) (v : Value) : Others b w (w.setCell ⟨b, i, none⟩ v) := fun q cs T fr a c d => by
  rw [Below.heap_setCell _ _ _ _ (fun e => a e)]
  exact d

theorem bldCheckK_any (B b : Nat) (bs : List Value) (w : World) (h : Lib.IsBuilder 56 5 B b bs w) :
    Calls Tryd.prog 92 #[.pointer (some ⟨b, 0, none⟩)] w fun e w' => e = .returned (.tuple #[]) ∧ (Lib.BuilderAt 56 5 B b (.pointer (some ⟨b, 0, none⟩)) bs w' ∧ Below B w w') ∧ Others b w w' := by
  rcases h with h | h
  · refine (bldFresh_any b w h.cell0 h.shape h.frozen0).mono ?_
    rintro e w' ⟨rfl, rfl⟩
    exact ⟨rfl, ⟨h.used _, (Below.refl B w).setCell (p := ⟨b, 0, none⟩) h.1 _⟩, others_setCell 0 _⟩
  · refine (bldUsed_any b w h.cell0).mono ?_
    rintro e w' ⟨rfl, rfl⟩
    exact ⟨rfl, ⟨h, Below.refl B _⟩, fun q cs T fr _ _ d => d⟩

set_option maxHeartbeats 2000000 in
set_option maxRecDepth 100000 in
theorem writeByteK_any (B b : Nat) (l : List UInt8) (c : UInt8) (w : World) (h : IsB B b l w) (hlen : l.length + 1 ≤ 140737488355328) (hBw : B ≤ w.heap.size) :
    Calls Tryd.prog 90 #[.pointer (some ⟨b, 0, none⟩), .int .u8 c.toNat] w fun e w' => e = .returned .nilIface ∧ (IsB B b (l ++ [c]) w' ∧ Below B w w') ∧ Others b w w' := by
  obtain ⟨i0, hi, hz0, hz1, hz2⟩ := info_parts bld_byte
  have hll : (Lib.byteCells l).length = l.length := Lib.byteCells_length _
  have happ : Lib.byteCells (l ++ [c]) = Lib.byteCells l ++ [.int .u8 c.toNat] := by simp [Lib.byteCells]
  unfold IsB at h ⊢
  rw [happ]
  obtain ⟨bs, hbs⟩ : ∃ bs, Lib.byteCells l = bs := ⟨_, rfl⟩
  rw [hbs] at h hll ⊢
  rw [← hll] at hlen
  clear happ hbs hll
  obtain ⟨v0, hv0⟩ : ∃ v0 : Int, (c.toNat : Int) = v0 := ⟨_, rfl⟩
  rw [hv0]
  clear hv0
  go_enter Tryd.func90, Tryd.ntmps90
  go_wp2_with fail
  refine (bldCheckK_any B b bs _ h).mono ?_
  rintro e w1 ⟨rfl, ⟨h1, hb1⟩, ho1⟩
  have HO1 := Lib.hid ho1
  clear ho1
  obtain ⟨hB, v, hbk, hown, hne⟩ := h1
  have c0 : w1.cell? ⟨b, 0, none⟩ = some (.pointer (some ⟨b, 0, none⟩)) := by rw [Lib.cell_of_heap hbk]; rfl
  have c1 : w1.cell? ⟨b, 1, none⟩ = some v := by rw [Lib.cell_of_heap hbk]; rfl
  go_wp2_with (at_builtin; refine wpList_append_own _ rfl _ _ 54 rfl B 5 i0 (.int .u8 0) 1 1 Tryd.underlying54 hi hz0 hz1 hz2 rfl (by decide) _ _ _ rfl (hown.alloc _) ⟨w1.heap.size, 0, none⟩ 1 1 [.int .u8 v0] rfl rfl ?c1 ?c2 ?c3 ?c4 ?c5 ?_)
  case c1 =>
    intro j u hj
    match j, hj with
    | 0, hj => simp at hj; subst hj; simp [Addr.add]
  case c2 => intro u hu; simp at hu; subst hu; rfl
  case c3 => unfold maxLen; omega
  case c4 => omega
  case c5 => have := hb1.size; simp; omega
  intro v' w2 hown' hgrow _
  have hlt : b < w1.heap.size := by
    rcases Nat.lt_or_ge b w1.heap.size with h' | h'
    · exact h'
    · simp [Array.getElem?_eq_none h'] at hbk
  have hb2 : w2.heap[b]? = some (.cells #[.pointer (some ⟨b, 0, none⟩), v] 56 (0, 0)) := by
    rw [hgrow.block b (by simp; omega) (fun e => hne e.symm), Lib.alloc_old w1 _ b hlt]
    exact hbk
  have d0 : w2.cell? ⟨b, 0, none⟩ = some (.pointer (some ⟨b, 0, none⟩)) := by rw [Lib.cell_of_heap hb2]; rfl
  have d1 : w2.cell? ⟨b, 1, none⟩ = some v := by rw [Lib.cell_of_heap hb2]; rfl
  have f1 : w2.frozen? ⟨b, 1, none⟩ = false := Lib.frozen_of_heap hb2 1
  obtain ⟨g, cap, rfl⟩ : ∃ g cap, v' = .slice (some ⟨g, 0, none⟩) (bs.length + 1) cap := by
    rcases hown'.2 with ⟨_, h0⟩ | ⟨g, cap, cur, hv, _⟩
    · omega
    · exact ⟨g, cap, hv⟩
  go_wp2
  go_ret
  refine ⟨rfl, ⟨.inr ?_, ?_⟩, ?_⟩
  · exact Lib.BuilderAt.put (T := 56) (e := 5) hB hb2 (bs' := bs ++ [.int .u8 v0]) (by simpa using hown') (by decide)
  · exact ((hb1.alloc (by have := hb1.size; omega) _).grown hgrow (by have := hb1.size; simp; omega) (fun k hk => (hown.lt k hk).1)).setCell (p := ⟨b, 1, none⟩) hB _
  · refine (HO1.out.trans (fun q cs T fr hq hT hc => ?_)).trans (others_setCell 1 _)
    have hql : q < w1.heap.size := (Array.getElem?_eq_some_iff.1 hc).1
    rw [hgrow.block q (by simp; omega) (fun e => Lib.ownBlock_ne hown hc hT e.symm), Lib.alloc_old w1 _ q hql]
    exact hc

/-- WriteByte. -/
theorem writeByte_any (B b : Nat) (l : List UInt8) (c : UInt8) (w : World) (h : IsB B b l w) (hlen : l.length + 1 ≤ 140737488355328) (hBw : B ≤ w.heap.size) :
    Calls Tryd.prog 90 #[.pointer (some ⟨b, 0, none⟩), .int .u8 c.toNat] w fun e w' => e = .returned .nilIface ∧ IsB B b (l ++ [c]) w' ∧ Below B w w' :=
  (writeByteK_any B b l c w h hlen hBw).mono fun _ _ h => ⟨h.1, h.2.1.1, h.2.1.2⟩

set_option maxHeartbeats 2000000 in
set_option maxRecDepth 100000 in
theorem writeStrK_any (B b : Nat) (l : List UInt8) (s : ByteArray) (w : World) (h : IsB B b l w) (hlen : l.length + s.size ≤ 140737488355328) (hBw : B ≤ w.heap.size) :
    Calls Tryd.prog 91 #[.pointer (some ⟨b, 0, none⟩), .string s] w fun e w' => e = .returned (.tuple #[.int .i64 s.size, .nilIface]) ∧ (IsB B b (l ++ s.data.toList) w' ∧ Below B w w') ∧ Others b w w' := by
  obtain ⟨i0, hi, hz0, hz1, hz2⟩ := info_parts bld_byte
  have hll : (Lib.byteCells l).length = l.length := Lib.byteCells_length _
  have happ : Lib.byteCells (l ++ s.data.toList) = Lib.byteCells l ++ Lib.strCells s := Lib.byteCells_append _ _
  unfold IsB at h ⊢
  rw [happ]
  obtain ⟨bs, hbs⟩ : ∃ bs, Lib.byteCells l = bs := ⟨_, rfl⟩
  rw [hbs] at h hll ⊢
  rw [← hll] at hlen
  clear happ hbs hll
  go_enter Tryd.func91, Tryd.ntmps91
  go_wp2_with fail
  refine (bldCheckK_any B b bs _ h).mono ?_
  rintro e w1 ⟨rfl, ⟨h1, hb1⟩, ho1⟩
  have HO1 := Lib.hid ho1
  clear ho1
  obtain ⟨hB, v, hbk, hown, hne⟩ := h1
  have c0 : w1.cell? ⟨b, 0, none⟩ = some (.pointer (some ⟨b, 0, none⟩)) := by rw [Lib.cell_of_heap hbk]; rfl
  have c1 : w1.cell? ⟨b, 1, none⟩ = some v := by rw [Lib.cell_of_heap hbk]; rfl
  go_wp2_with (at_builtin; refine Lib.wpList_append_own_string _ rfl _ _ 54 9 rfl B 5 i0 Tryd.underlying54 Tryd.underlying9 hi hz0 hz1 hz2 _ _ _ rfl hown s rfl ?c3 ?c4 ?c5 ?_)
  case c3 => unfold maxLen; omega
  case c4 => omega
  case c5 => have := hb1.size; omega
  intro v' w2 hown' hgrow _
  have hlt : b < w1.heap.size := by
    rcases Nat.lt_or_ge b w1.heap.size with h' | h'
    · exact h'
    · simp [Array.getElem?_eq_none h'] at hbk
  have hb2 : w2.heap[b]? = some (.cells #[.pointer (some ⟨b, 0, none⟩), v] 56 (0, 0)) := by
    rw [hgrow.block b hlt (fun e => hne e.symm)]
    exact hbk
  have d0 : w2.cell? ⟨b, 0, none⟩ = some (.pointer (some ⟨b, 0, none⟩)) := by rw [Lib.cell_of_heap hb2]; rfl
  have d1 : w2.cell? ⟨b, 1, none⟩ = some v := by rw [Lib.cell_of_heap hb2]; rfl
  have f1 : w2.frozen? ⟨b, 1, none⟩ = false := Lib.frozen_of_heap hb2 1
  obtain ⟨ao, n', cap, rfl⟩ : ∃ ao n' cap, v' = .slice ao n' cap := by
    rcases hown'.2 with ⟨hv, _⟩ | ⟨g, cap, cur, hv, _⟩
    · exact ⟨_, _, _, hv⟩
    · exact ⟨_, _, _, hv⟩
  go_wp2
  go_ret2
  refine ⟨rfl, ⟨.inr ?_, ?_⟩, ?_⟩
  · exact Lib.BuilderAt.put (T := 56) (e := 5) hB hb2 (bs' := bs ++ Lib.strCells s) (by simpa [Lib.strCells_length] using hown') (by decide)
  · exact (hb1.grown hgrow (by have := hb1.size; omega) (fun k hk => (hown.lt k hk).1)).setCell (p := ⟨b, 1, none⟩) hB _
  · refine (HO1.out.trans (fun q cs T fr hq hT hc => ?_)).trans (others_setCell 1 _)
    have hql : q < w1.heap.size := (Array.getElem?_eq_some_iff.1 hc).1
    rw [hgrow.block q hql (fun e => Lib.ownBlock_ne hown hc hT e.symm)]
    exact hc

/-- WriteString. -/
theorem writeStr_any (B b : Nat) (l : List UInt8) (s : ByteArray) (w : World) (h : IsB B b l w) (hlen : l.length + s.size ≤ 140737488355328) (hBw : B ≤ w.heap.size) :
    Calls Tryd.prog 91 #[.pointer (some ⟨b, 0, none⟩), .string s] w fun e w' => e = .returned (.tuple #[.int .i64 s.size, .nilIface]) ∧ IsB B b (l ++ s.data.toList) w' ∧ Below B w w' :=
  (writeStrK_any B b l s w h hlen hBw).mono fun _ _ h => ⟨h.1, h.2.1.1, h.2.1.2⟩

/-- A builder stays one where all that lay in memory is kept. -/
theorem IsB.below {B b : Nat} {l : List UInt8} {w w' : World} (h : IsB B b l w) (hb : Below w.heap.size w w') : IsB B b l w' := by
  have keep : ∀ p, Lib.BuilderAt 56 5 B b p (Lib.byteCells l) w → Lib.BuilderAt 56 5 B b p (Lib.byteCells l) w' := by
    rintro p ⟨hB, v, hbk, hown, hne⟩
    have hlt : b < w.heap.size := (Array.getElem?_eq_some_iff.1 hbk).1
    refine ⟨hB, v, by rw [hb.block b hlt]; exact hbk, ?_, hne⟩
    exact ownsRow_kept hown (fun q hq => hb.block q (hown.lt q hq).2)
  exact h.elim (fun x => .inl (keep _ x)) (fun x => .inr (keep _ x))

end Go.Proofs.YtphppdbhofeagaaDoor
