/- zzFits8, spec.Name, countable. -/
import Derived.Test.YtobnglgnoflbnaaBase
namespace Go.Proofs.Ytobnglgnoflbnaa
open Go.RowKit
set_option linter.unusedVariables false
set_option linter.unusedSimpArgs false

set_option maxHeartbeats 400000 in
theorem zzFits8_any (a : Option Addr) (len cap : Nat) (ss : List ByteArray) (w : World) (h : Strs w a len ss) :
    Calls Try.prog 24 #[.slice a len cap] w (SomeBool (fun _ => True) w) := by
  have hm := h.len.2
  go_enter Try.func24, Try.ntmps24
  go_wp2
  · go_ret
    exact ⟨_, trivial, rfl, rfl⟩
  · go_loop [10] (fun i => ∃ k : Nat, k ≤ len ∧ i = .int .i64 k) (fun i => len - (intOf i).toNat)
    case atStart => exact ⟨0, Nat.zero_le _, rfl⟩
    case round =>
      obtain ⟨k, hk, rfl⟩ := hrel
      by_cases hlt : k < len
      · obtain ⟨b, off, rfl, hc⟩ := h.at (by omega)
        have hck := hc k hlt
        go_wp2
        · go_ret
          exact ⟨_, trivial, rfl, rfl⟩
        · go_round
          case rel => exact ⟨k + 1, by omega, by go_num⟩
          case measure => simp [intOf]; omega
      · go_wp2
        go_ret
        exact ⟨_, trivial, rfl, rfl⟩

end Go.Proofs.Ytobnglgnoflbnaa
