/- cascadia.nameStart, spec.beginByte: what they answer of a byte. -/
import Derived.Test.YtbikpalfhlgnoaaDoorNameBytes
namespace Go.Proofs.YtbikpalfhlgnoaaDoor
open Go.RowKit
set_option linter.unusedVariables false
set_option linter.unusedSimpArgs false

set_option maxRecDepth 100000 in
set_option maxHeartbeats 4000000 in
theorem nameStart_any (n : Int) (w : World) : Calls Tryd.prog 39 #[.int .u8 n] w (SomeBool (fun b => b = isNs n) w) := by
  go_enter Tryd.func39, Tryd.ntmps39
  go_wp2
  all_goals go_ret
  all_goals refine ⟨_, ?_, rfl, rfl⟩
  all_goals (show _ = _; rw [Bool.eq_iff_iff]; simp [isNs]; try omega)

set_option maxRecDepth 100000 in
set_option maxHeartbeats 4000000 in
theorem beginByte_any (n : Int) (w : World) : Calls Tryd.prog 19 #[.int .u8 n] w (SomeBool (fun b => b = isNs n) w) := by
  go_enter Tryd.func19, Tryd.ntmps19
  go_wp2
  all_goals go_ret
  all_goals refine ⟨_, ?_, rfl, rfl⟩
  all_goals (show _ = _; rw [Bool.eq_iff_iff]; simp [isNs]; try omega)

end Go.Proofs.YtbikpalfhlgnoaaDoor
