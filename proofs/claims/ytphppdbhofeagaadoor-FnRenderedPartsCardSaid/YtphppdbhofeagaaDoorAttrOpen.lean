/- The attributes of a node, as a walk wants them. -/
import Derived.Test.YtphppdbhofeagaaDoorAloneAll
namespace Go.Proofs.YtphppdbhofeagaaDoor
open Go.RowKit
set_option linter.unusedVariables false
set_option linter.unusedSimpArgs false

theorem attrCells_get : ∀ (l : List (ByteArray × ByteArray)) (i : Nat), i < l.length → (attrCells l)[i * 3]? = some (.string ByteArray.empty) ∧ (attrCells l)[i * 3 + 1]? = some (.string (l.getD i default).1) ∧ (attrCells l)[i * 3 + 2]? = some (.string (l.getD i default).2) := by
  intro l
  induction l with
  | nil => intro i hi; simp at hi
  | cons x l ih =>
    intro i hi
    have hc : attrCells (x :: l) = [.string ByteArray.empty, .string x.1, .string x.2] ++ attrCells l := by simp [attrCells]
    rw [hc]
    cases i with
    | zero => simp
    | succ i =>
      have hi' : i < l.length := by simpa using hi
      obtain ⟨h1, h2, h3⟩ := ih i hi'
      have e : (i + 1) * 3 = 3 + i * 3 := by omega
      rw [e]
      refine ⟨?_, ?_, ?_⟩
      · rw [List.getElem?_append_right (by simp)]; simpa using h1
      · rw [List.getElem?_append_right (by simp; omega)]; simpa [show 3 + i * 3 + 1 - 3 = i * 3 + 1 by omega] using h2
      · rw [List.getElem?_append_right (by simp; omega)]; simpa [show 3 + i * 3 + 2 - 3 = i * 3 + 2 by omega] using h3

/-- The attributes of a node, as a walk wants them. -/
theorem attr_open {w : World} {B : Nat} {v : Value} {l : List (ByteArray × ByteArray)} (h : w.ownsRow B 109 3 v l.length (attrCells l)) :
    ∃ a cap g, v = .slice a l.length cap ∧ l.length ≤ 9223372036854775807 ∧ (0 < l.length → a = some ⟨g, 0, none⟩) ∧ ∀ i, i < l.length → w.cell? ⟨g, i * 3, none⟩ = some (.string ByteArray.empty) ∧ w.cell? ⟨g, i * 3 + 1, none⟩ = some (.string (l.getD i default).1) ∧ w.cell? ⟨g, i * 3 + 2, none⟩ = some (.string (l.getD i default).2) := by
  rcases h.2 with ⟨rfl, h0⟩ | ⟨g, cap, cur, rfl, hb, hg, hn, hm, hcs, ht⟩
  · exact ⟨none, 0, 0, by rw [h0], by omega, fun h => by omega, fun i hi => by omega⟩
  · refine ⟨_, cap, g, rfl, by unfold maxLen at hm; omega, fun _ => rfl, fun i hi => ?_⟩
    have hadd : ∀ j, (⟨g, 0, none⟩ : Addr).add j = ⟨g, j, none⟩ := fun j => by unfold Addr.add; split <;> simp_all
    obtain ⟨h1, h2, h3⟩ := attrCells_get l i hi
    have c1 := h.cells (g := g) rfl _ _ h1
    have c2 := h.cells (g := g) rfl _ _ h2
    have c3 := h.cells (g := g) rfl _ _ h3
    rw [hadd] at c1 c2 c3
    exact ⟨c1, c2, c3⟩

end Go.Proofs.YtphppdbhofeagaaDoor
