/- spec.Name: it returns; a name has at most 40 bytes. -/
import Derived.Test.YtphppdbhofeagaaDoorBase
import Derived.BigGuardPart
namespace Go.Proofs.YtphppdbhofeagaaDoor
open Go.RowKit
set_option linter.unusedVariables false
set_option linter.unusedSimpArgs false

def NameSays (s : ByteArray) (b : Bool) : Prop := b = true → s.size ≤ 40

set_option maxHeartbeats 1000000 in
theorem name_any (s : ByteArray) (w : World) (hs : s.size ≤ maxLen) :
    Calls Tryd.prog 32 #[.string s] w (SomeBool (NameSays s) w) := by
  unfold maxLen at hs
  go_enter Tryd.func32, Tryd.ntmps32
  by_cases h0 : s.size = 0
  · have h0' : ((s.size : Int) == 0) = true := by simp [h0]
    go_wp2
    go_ret
    exact ⟨_, (fun _ => by omega), rfl, rfl⟩
  · have h0' : ((s.size : Int) == 0) = false := by simpa using h0
    by_cases h1 : 40 < s.size
    · go_wp2
      go_ret
      exact ⟨_, (fun h => by cases h), rfl, rfl⟩
    · have h1' : s.size ≤ 40 := by omega
      have hp : 0 < s.size := by omega
      go_wp2
      · go_ret
        exact ⟨_, fun _ => h1', rfl, rfl⟩
      · go_ret
        exact ⟨_, fun _ => h1', rfl, rfl⟩
      · go_loop [3] (fun i => ∃ k : Nat, k ≤ 40 ∧ i = .int .i64 k) (fun i => 41 - (intOf i).toNat)
        case atStart => exact ⟨1, by omega, rfl⟩
        case round =>
          obtain ⟨k, hk, rfl⟩ := hrel
          go_wp2
          all_goals first
            | (go_ret; exact ⟨_, fun _ => h1', rfl, rfl⟩)
            | (go_round
               case rel => exact ⟨k + 1, by omega, by go_num⟩
               case measure => simp [intOf]; omega)

end Go.Proofs.YtphppdbhofeagaaDoor
