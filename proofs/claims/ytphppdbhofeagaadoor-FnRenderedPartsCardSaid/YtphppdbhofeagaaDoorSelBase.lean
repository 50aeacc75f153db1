/- goquery: a document of a node, its empty selection, AddNodes; a selection in memory. -/
import Derived.Test.YtphppdbhofeagaaDoorPtrAll
import Derived.Test.YtphppdbhofeagaaDoorGrowAll
namespace Go.Proofs.YtphppdbhofeagaaDoor
open Go.RowKit
set_option linter.unusedVariables false
set_option linter.unusedSimpArgs false

/-- A document with its selection. -/
def DocPost (w : World) (e : Ending) (w' : World) : Prop :=
  ∃ d s a, e = .returned (.pointer (some ⟨d, 0, none⟩)) ∧ w'.cell? ⟨d, 0, none⟩ = some (.pointer (some ⟨s, 0, none⟩)) ∧ w'.cell? ⟨s, 0, none⟩ = some (.slice a 1 1) ∧ w'.cell? ⟨s, 1, none⟩ = some (.pointer (some ⟨d, 0, none⟩)) ∧ Below w.heap.size w w'

set_option maxRecDepth 100000 in
set_option maxHeartbeats 1000000 in
theorem newDoc_any (p : Nat) (w : World) : Calls Tryd.prog 39 #[.pointer (some ⟨p, 0, none⟩)] w (DocPost w) := by
  go_enter Tryd.func39, Tryd.ntmps39
  go_wp2
  go_ret
  refine ⟨w.heap.size, w.heap.size + 2, some ⟨w.heap.size + 1, 0, none⟩, rfl, ?_, ?_, ?_, ?_⟩
  · exact cell_alloc_old (cell_alloc_old (cell_alloc_new' _ _ _ rfl rfl) _) _
  · exact cell_alloc_new' _ _ _ (by simp) rfl
  · exact cell_alloc_new' _ _ _ (by simp) rfl
  · exact (((Below.refl _ w).alloc (Nat.le_refl _) _).alloc (by simp) _).alloc (by simp; omega) _

def EmptyPost (d : Nat) (w : World) (e : Ending) (w' : World) : Prop :=
  ∃ s, e = .returned (.pointer (some ⟨s, 0, none⟩)) ∧ w'.cell? ⟨s, 0, none⟩ = some (.slice none 0 0) ∧ w'.cell? ⟨s, 1, none⟩ = some (.pointer (some ⟨d, 0, none⟩)) ∧ Below w.heap.size w w'

set_option maxRecDepth 100000 in
set_option maxHeartbeats 1000000 in
theorem eq1_any (s d : Nat) (a : Option Addr) (w : World) (c0 : w.cell? ⟨s, 0, none⟩ = some (.slice a 1 1)) (c1 : w.cell? ⟨s, 1, none⟩ = some (.pointer (some ⟨d, 0, none⟩))) :
    Calls Tryd.prog 40 #[.pointer (some ⟨s, 0, none⟩), .int .i64 1] w (EmptyPost d w) := by
  go_enter Tryd.func40, Tryd.ntmps40
  go_wp2
  go_ret
  refine ⟨w.heap.size, rfl, ?_, ?_, ?_⟩
  · exact cell_alloc_new' _ _ _ (by simp) rfl
  · exact cell_alloc_new' _ _ _ (by simp) rfl
  · exact (Below.refl _ w).alloc (Nat.le_refl _) _

/-- A selection in memory: its nodes. -/
structure SelAt (w : World) (s : Nat) (v : Value) (l : List Nat) (B : Nat) : Prop where
  nodes : w.cell? ⟨s, 0, none⟩ = some v
  doc : ∃ d, w.cell? ⟨s, 1, none⟩ = some (.pointer (some ⟨d, 0, none⟩))
  own : OwnPtrs w B v l
  base : B ≤ s

def SelPost (l : List Nat) (w : World) (e : Ending) (w' : World) : Prop :=
  ∃ s v, e = .returned (.pointer (some ⟨s, 0, none⟩)) ∧ Hid (SelAt w' s v l w.heap.size) ∧ Hid (Below w.heap.size w w')

set_option maxRecDepth 100000 in
set_option maxHeartbeats 1000000 in
theorem addNodes_any (s d : Nat) (v : Value) (l : List Nat) (w : World) (c0 : w.cell? ⟨s, 0, none⟩ = some (.slice none 0 0)) (c1 : w.cell? ⟨s, 1, none⟩ = some (.pointer (some ⟨d, 0, none⟩))) (h : PtrsOf w v l) (hal : ∀ i, i < l.length → Alive w (l.getD i 0)) (hon : Once l) (hn : l.length ≤ 200) :
    Calls Tryd.prog 41 #[.pointer (some ⟨s, 0, none⟩), v] w (SelPost l w) := by
  have hno := noDup_any v l w h hal hon hn
  have HNO := Lib.hid hno
  clear h hal hon hno
  go_enter Tryd.func41, Tryd.ntmps41
  go_wp2_with fail
  refine HNO.out.mono ?_
  rintro e w1 ⟨v', rfl, ho, hb⟩
  have c1' := cell_below hb.out c1
  obtain ⟨a', cap', hv, _⟩ := ho.out.ptrs.nil
  rw [List.length_map] at hv
  subst hv
  clear c0 c1 HNO
  go_wp2
  go_ret
  refine ⟨w1.heap.size, .slice a' l.length cap', rfl, Lib.hid ⟨?_, ⟨d, ?_⟩, ?_, hb.out.size⟩, Lib.hid ?_⟩
  · exact cell_alloc_new' _ _ _ (by simp) rfl
  · exact cell_alloc_new' _ _ _ (by simp) rfl
  · exact ho.out.alloc _
  · exact hb.out.alloc hb.out.size _


theorem SelAt.below {w w' : World} {s : Nat} {v : Value} {l : List Nat} {B : Nat} (h : SelAt w s v l B) (hb : Below w.heap.size w w') : SelAt w' s v l B := by
  obtain ⟨d, hd⟩ := h.doc
  exact ⟨cell_below hb h.nodes, ⟨d, cell_below hb hd⟩, ownsRow_kept h.own (fun k hk => hb.block k (World.ownsRow.lt h.own k hk).2), h.base⟩

theorem SelAt.weaken {w : World} {s : Nat} {v : Value} {l : List Nat} {B B' : Nat} (h : SelAt w s v l B) (hB : B' ≤ B) : SelAt w s v l B' := ⟨h.nodes, h.doc, ownsRow_base h.own hB, Nat.le_trans hB h.base⟩

theorem Forest.alive {B : Nat} {w : World} {bl len : Nat} {nb : Nat → Nat} {v : Nat → Value} {ts : List NodeD} (h : Forest B w bl len nb v ts) {l : List Nat} (hl : ∀ i ∈ l, i < len) : ∀ i, i < (l.map nb).length → Alive w ((l.map nb).getD i 0) := fun i hi => by
  have hi' : i < l.length := by simpa using hi
  have : (l.map nb).getD i 0 = nb (l.getD i 0) := by simp [List.getD, hi']
  rw [this]
  exact (h.node (hl _ (getD_mem' hi'))).alive

theorem Forest.once {B : Nat} {w : World} {bl len : Nat} {nb : Nat → Nat} {v : Nat → Value} {ts : List NodeD} (h : Forest B w bl len nb v ts) {l : List Nat} (hl : ∀ i ∈ l, i < len) (ho : Once l) : Once (l.map nb) := fun i j hi hj he => by
  have hi' : i < l.length := by simpa using hi
  have hj' : j < l.length := by simpa using hj
  have e1 : (l.map nb).getD i 0 = nb (l.getD i 0) := by simp [List.getD, hi']
  have e2 : (l.map nb).getD j 0 = nb (l.getD j 0) := by simp [List.getD, hj']
  rw [e1, e2] at he
  exact ho i j hi' hj' (h.seg.inj _ _ (Nat.zero_le _) (hl _ (getD_mem' hi')) (Nat.zero_le _) (hl _ (getD_mem' hj')) he)

end Go.Proofs.YtphppdbhofeagaaDoor
