/- goquery: newSingleSelection, with its cells. -/
import Derived.Test.YtoleejaabiafcaaGreatPtrAll
import Derived.Test.YtoleejaabiafcaaGreatKnotAll
namespace Go.Proofs.YtoleejaabiafcaaGreat
open Go.RowKit
set_option linter.unusedVariables false
set_option linter.unusedSimpArgs false

/-- A selection of one node that has just been made. -/
structure OneAt (w : World) (s g T d : Nat) : Prop where
  nodes : w.cell? ⟨s, 0, none⟩ = some (.slice (some ⟨g, 0, none⟩) 1 1)
  doc : w.cell? ⟨s, 1, none⟩ = some (.pointer (some ⟨d, 0, none⟩))
  one : w.cell? ⟨g, 0, none⟩ = some (.pointer (some ⟨T, 0, none⟩))
  row : w.heap[g]? = some (.cells #[.pointer (some ⟨T, 0, none⟩)] 58)

def OnePost (T d : Nat) (w : World) (e : Ending) (w' : World) : Prop := e = .returned (.pointer (some ⟨w.heap.size + 1, 0, none⟩)) ∧ Hid (OneAt w' (w.heap.size + 1) w.heap.size T d) ∧ Hid (Below w.heap.size w w')

set_option maxRecDepth 100000 in
set_option maxHeartbeats 1000000 in
theorem one_any (T d : Nat) (w : World) : Calls Tryz.prog 55 #[.pointer (some ⟨T, 0, none⟩), .pointer (some ⟨d, 0, none⟩)] w (OnePost T d w) := by
  obtain ⟨w1, hw1⟩ : ∃ w1, w.alloc (.cells #[.pointer (some ⟨T, 0, none⟩)] 58) = w1 := ⟨_, rfl⟩
  have hs1 : w1.heap.size = w.heap.size + 1 := by rw [← hw1]; simp
  have h1 : w1.cell? ⟨w.heap.size, 0, none⟩ = some (.pointer (some ⟨T, 0, none⟩)) := by rw [← hw1]; exact cell_alloc_new' _ _ _ rfl rfl
  have hb1 : Below w.heap.size w w1 := by rw [← hw1]; exact (Below.refl _ _).alloc (Nat.le_refl _) _
  have hr1 : w1.heap[w.heap.size]? = some (.cells #[.pointer (some ⟨T, 0, none⟩)] 58) := by rw [← hw1]; exact heap_alloc_new w _
  have HR := Lib.hid hr1
  have HB := Lib.hid hb1
  have H1 := Lib.hid h1
  clear hb1 h1 hr1
  go_enter Tryz.func55, Tryz.ntmps55
  go_wp2
  go_ret
  refine ⟨rfl, Lib.hid ⟨?_, ?_, ?_, ?_⟩, Lib.hid (HB.out.alloc (by omega) _)⟩
  · rw [← hs1]; exact cell_alloc_new' _ _ _ rfl rfl
  · rw [← hs1]; exact cell_alloc_new' _ _ _ rfl rfl
  · exact cell_alloc_old H1.out _
  · exact (((Below.refl w1.heap.size w1).alloc (Nat.le_refl _) _).block _ (by omega)).trans HR.out

/-- The same, as a selection. -/
theorem OneAt.sel {w : World} {s g T d B : Nat} (h : OneAt w s g T d) (hB : B ≤ g) (hs : B ≤ s) : SelAt w s (.slice (some ⟨g, 0, none⟩) 1 1) [T] B :=
  ⟨h.nodes, ⟨d, h.doc⟩, ⟨rfl, .inr ⟨g, 1, #[.pointer (some ⟨T, 0, none⟩)], rfl, hB, h.row, Nat.le_refl _, by unfold maxLen; omega, rfl, rfl⟩⟩, hs⟩

end Go.Proofs.YtoleejaabiafcaaGreat
