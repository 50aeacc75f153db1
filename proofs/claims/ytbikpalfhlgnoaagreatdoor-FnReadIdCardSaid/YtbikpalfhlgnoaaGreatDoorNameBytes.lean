/- cascadia.nameChar, hexDigit; laws.control9: what they answer of a byte, of a text. -/
import Derived.Test.YtbikpalfhlgnoaaGreatDoorDigits
namespace Go.Proofs.YtbikpalfhlgnoaaGreatDoor
open Go.RowKit
set_option linter.unusedVariables false
set_option linter.unusedSimpArgs false

/-- A byte of names. -/
def isNc (n : Int) : Bool := decide ((97 ≤ n ∧ n ≤ 122) ∨ (65 ≤ n ∧ n ≤ 90) ∨ n = 95 ∨ 127 < n ∨ n = 45 ∨ (48 ≤ n ∧ n ≤ 57))
/-- A byte at which a name may begin. -/
def isNs (n : Int) : Bool := decide ((97 ≤ n ∧ n ≤ 122) ∨ (65 ≤ n ∧ n ≤ 90) ∨ n = 95 ∨ 127 < n)
/-- A hexadecimal digit. -/
def isHx (n : Int) : Bool := decide ((48 ≤ n ∧ n ≤ 57) ∨ (97 ≤ n ∧ n ≤ 102) ∨ (65 ≤ n ∧ n ≤ 70))

set_option maxRecDepth 100000 in
set_option maxHeartbeats 4000000 in
theorem nameChar_any (n : Int) (w : World) : Calls Tryz.prog 30 #[.int .u8 n] w (SomeBool (fun b => b = isNc n) w) := by
  go_enter Tryz.func30, Tryz.ntmps30
  go_wp2
  all_goals go_ret
  all_goals refine ⟨_, ?_, rfl, rfl⟩
  all_goals (show _ = _; rw [Bool.eq_iff_iff]; simp [isNc]; try omega)

set_option maxRecDepth 100000 in
set_option maxHeartbeats 4000000 in
theorem hexDigit_any (n : Int) (w : World) : Calls Tryz.prog 33 #[.int .u8 n] w (SomeBool (fun b => b = isHx n) w) := by
  go_enter Tryz.func33, Tryz.ntmps33
  go_wp2
  all_goals go_ret
  all_goals refine ⟨_, ?_, rfl, rfl⟩
  all_goals (show _ = _; rw [Bool.eq_iff_iff]; simp [isHx]; try omega)

set_option maxRecDepth 100000 in
set_option maxHeartbeats 4000000 in
theorem nameByte_any (n : Int) (w : World) : Calls Tryz.prog 16 #[.int .u8 n] w (SomeBool (fun b => b = isNc n) w) := by
  go_enter Tryz.func16, Tryz.ntmps16
  go_wp2
  all_goals go_ret
  all_goals refine ⟨_, ?_, rfl, rfl⟩
  all_goals (show _ = _; rw [Bool.eq_iff_iff]; simp [isNc]; try omega)

/-- Control bytes. -/
def isCtl (n : Int) : Bool := decide (n < 32 ∨ n = 127)

/-- Whether there is a control byte. -/
def NoCtl (s : ByteArray) : Prop := ∀ i, i < s.size → isCtl (nx s i) = false

end Go.Proofs.YtbikpalfhlgnoaaGreatDoor
