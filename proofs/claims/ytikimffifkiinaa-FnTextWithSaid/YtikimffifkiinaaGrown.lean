/- impl.grown: the nodes of a tree. -/
import Derived.Test.YtikimffifkiinaaGrow
import Derived.Deep.OwnRows
namespace Go.Proofs.Ytikimffifkiinaa
open Go.RowKit
set_option linter.unusedVariables false
set_option linter.unusedSimpArgs false

theorem Seg.weaken {w : World} {E : Nat → Nat} {lo hi : Nat} {nb : Nat → Nat} {v : Nat → Value} {ts : List NodeD} {B B' : Nat} (h : Seg w E lo hi nb v ts B) (hB : B' ≤ B) : Seg w E lo hi nb v ts B' :=
  ⟨h.node, fun i a b => ownsRow_base (h.own i a b) hB, fun i a b => Nat.le_trans hB (h.base i a b), h.inj, h.sep⟩

/-- A tree in memory, behind the block B: a row of pointers, the nodes. -/
structure Forest (B : Nat) (w : World) (bl len : Nat) (nb : Nat → Nat) (v : Nat → Value) (ts : List NodeD) : Prop where
  seg : Seg w (fun i => i + sz ts i) 0 len nb v ts B
  base : B ≤ bl
  row : ∃ arr, w.heap[bl]? = some (.cells arr 53 (0, 0)) ∧ arr.size = len ∧ ∀ i, i < len → arr[i]? = some (lk (some (nb i)))

theorem Forest.cell {B : Nat} {w : World} {bl len : Nat} {nb : Nat → Nat} {v : Nat → Value} {ts : List NodeD} (h : Forest B w bl len nb v ts) {i : Nat} (hi : i < len) : w.cell? ⟨bl, i, none⟩ = some (.pointer (some ⟨nb i, 0, none⟩)) := by
  obtain ⟨arr, a, b, c⟩ := h.row
  simp [World.cell?, a, c i hi]

theorem Forest.node {B : Nat} {w : World} {bl len : Nat} {nb : Nat → Nat} {v : Nat → Value} {ts : List NodeD} (h : Forest B w bl len nb v ts) {i : Nat} (hi : i < len) : World.nodeAt w (nb i) (nodeR (fun i => i + sz ts i) 0 nb (ts.getD i default) (v i) i) := h.seg.node i (Nat.zero_le _) hi

/-- What comes behind does not change it. -/
theorem Forest.below {B : Nat} {w w' : World} {bl len : Nat} {nb : Nat → Nat} {v : Nat → Value} {ts : List NodeD} (h : Forest B w bl len nb v ts) (hb : Below w.heap.size w w') : Forest B w' bl len nb v ts := by
  obtain ⟨arr, a, b, c⟩ := h.row
  have ha : ∀ k, k < w.heap.size → w'.heap[k]? = w.heap[k]? := hb.block
  refine ⟨⟨fun i x y => ?_, fun i x y => ?_, h.seg.base, h.seg.inj, h.seg.sep⟩, h.base, arr, ?_, b, c⟩
  · have hn := h.seg.node i x y
    have hl := hn.lt
    unfold World.nodeAt at hn ⊢
    rw [ha _ hl]; exact hn
  · refine ownsRow_kept (h.seg.own i x y) (fun k hk => ha k ?_)
    exact (World.ownsRow.lt (h.seg.own i x y) k hk).2
  · rw [ha bl (Array.getElem?_eq_some_iff.1 a).1]; exact a

def GrownPost (ts : List NodeD) (len : Nat) (W : World) (e : Ending) (w : World) : Prop :=
  ∃ bl nb v, e = .returned (.tuple #[.slice (some ⟨bl, 0, none⟩) len len, .bool true]) ∧ Hid (Forest W.heap.size w bl len nb v ts) ∧ Hid (Below W.heap.size W w)

theorem made_info : (Try.prog.info? 53).map (fun i => (i.zero, i.size, i.bytes)) = some (some (.pointer none), 1, 8) := by kernel_rfl

theorem grown_make (n : Nat) (hn : n ≤ 200) (w : World) : (Instr.makeSlice 46 (.int .i64 (n : Int)) (.int .i64 (n : Int))).run Try.prog w = .ok (.slice (some ⟨w.heap.size, 0, none⟩) n n) (w.alloc (.cells (madeCells #[.pointer none] n) 53)) :=
  run_make_row' 46 53 (.pointer none) 8 Try.underlying46 made_info rfl .i64 .i64 n (by omega) (by omega) w

set_option maxRecDepth 100000 in
set_option maxHeartbeats 1000000 in
theorem grown_any (W : World) (a : Option Addr) (len cap : Nat) (ts : List NodeD) (hR : RightT ts len) (h : Nodes W a len ts) :
    Calls Try.prog 36 #[.slice a len cap] W (GrownPost ts len W) := by
  have hlen := hR.le
  have hpos := hR.pos
  have hyes := iright_any a len cap ts hR W h
  have hgrow : ∀ (w1 : World), Below W.heap.size W w1 → Calls Try.prog 49 #[.slice a len cap, .int .i64 0, .slice (some ⟨w1.heap.size, 0, none⟩) len len] (w1.alloc (.cells (madeCells #[.pointer none] len) 53))
      (GrowPost ts w1.heap.size 0 (fun _ => 0) (fun _ => .pointer none) (w1.alloc (.cells (madeCells #[.pointer none] len) 53))) := fun w1 hb =>
    grow_any W a len cap ts hR h w1.heap.size len hb.size len 0 _ _ _ _ (by rw [hR.root]; exact Nat.le_refl _) hpos (hb.alloc hb.size _) (heap_alloc_new _ _) (size_madeCells _ _)
  have hmk := fun w => grown_make len hlen w
  have HR := Lib.hid hR
  have HY := Lib.hid hyes
  have HG := Lib.hid hgrow
  clear hR hyes hgrow h
  go_enter Try.func36, Try.ntmps36
  go_wp2_with fail
  refine HY.out.mono ?_
  rintro e w1 ⟨rfl, hb1⟩
  have hcall := HG.out w1 hb1
  have HC := Lib.hid hcall
  have HB := Lib.hid hb1
  clear hcall hb1 HG HY
  go_wp2_with fail
  refine HC.out.mono ?_
  rintro e w2 ⟨rfl, nb, v, hgrew⟩
  have hfin : Forest W.heap.size w2 w1.heap.size len nb v ts ∧ Below W.heap.size W w2 := by
    have hbs := HB.out.size
    have hr := HR.out.root
    have hseg := hgrew.seg
    rw [hr, Nat.zero_add] at hseg
    refine ⟨⟨hseg.weaken (by simp; omega), hbs, ?_⟩, ?_⟩
    · obtain ⟨arr, arr', r1, r2, r3, r4, r5⟩ := hgrew.rowed.row
      rw [heap_alloc_new] at r1
      simp only [Option.some.injEq, Obj.cells.injEq] at r1
      refine ⟨arr', r2, ?_, fun i hi => r4 i (Nat.zero_le _) (by rw [hr]; omega)⟩
      rw [r3, ← r1.1]; exact size_madeCells _ _
    · exact (HB.out.alloc hbs _).grown hgrew.grown (by simp; omega) (fun q hq => by simp at hq; omega)
  have HF := Lib.hid hfin.1
  have HB2 := Lib.hid hfin.2
  clear hfin hgrew HB HC
  go_wp2
  go_ret2
  exact ⟨w1.heap.size, nb, v, rfl, HF, HB2⟩

end Go.Proofs.Ytikimffifkiinaa
