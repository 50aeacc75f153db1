/- Slices of strings, of integers, of bools among the arguments, as views. -/
import Derived.Test.YtjidbnegoailcaaBase
import Derived.OpenShut
import Derived.ShutString
import Derived.ChangeOld
import Derived.Below
namespace Go.Proofs.Ytjidbnegoailcaa
open Go.RowKit Go.ChangeShapes Go.WideShapes
set_option linter.unusedVariables false
set_option linter.unusedSimpArgs false

theorem Try.own : ownKnob Try.prog.godebug = none := by kernel_rfl
theorem Try.laidOut : laidOutB Try.prog = true := by kernel_rfl

theorem row_of_cells {w : World} {x : Addr} {len : Nat} (vs : List Value) (hl : vs.length = len) (hm : len ≤ maxLen) (hc : ∀ i, i < len → w.cell? (x.add i) = some (vs.getD i undef)) : Row w (some x) len vs := by
  refine ⟨hl, hm, fun h0 => ?_⟩
  obtain ⟨b, off, spot⟩ := x
  have h := hc 0 h0
  have hspot : spot = none := by simpa [Addr.add] using World.cell?_spot h
  subst hspot
  refine ⟨b, off, rfl, fun i hi => ?_⟩
  have := hc i hi
  by_cases h0 : i = 0
  · subst h0; simpa [Addr.add] using this
  · simpa [Addr.add, h0] using this

theorem row_nil (w : World) : Row w none 0 [] := ⟨rfl, Nat.zero_le _, fun h => absurd h (Nat.lt_irrefl 0)⟩

section
variable {H : Type} {enc : TypeId × Value → H} {W : World}


end
end Go.Proofs.Ytjidbnegoailcaa
