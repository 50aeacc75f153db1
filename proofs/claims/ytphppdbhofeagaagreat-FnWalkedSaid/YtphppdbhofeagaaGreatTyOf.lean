/- Kinds of nodes that are no elements. -/
import Derived.Test.YtphppdbhofeagaaGreatAloneAll
namespace Go.Proofs.YtphppdbhofeagaaGreat
set_option linter.unusedVariables false
set_option linter.unusedSimpArgs false

theorem tyOf_ne {q : Int} (h : q = 1 ∨ q = 2 ∨ q = 4 ∨ q = 5) : tyOf q ≠ 3 := by
  rcases h with rfl | rfl | rfl | rfl <;> simp [tyOf]

end Go.Proofs.YtphppdbhofeagaaGreat
