/- cascadia.nameChar, hexDigit; laws.control9: what they answer of a byte, of a text. -/
import Derived.Test.YtbikpalfhlgnoaaDoorDigits
namespace Go.Proofs.YtbikpalfhlgnoaaDoor
open Go.RowKit
set_option linter.unusedVariables false
set_option linter.unusedSimpArgs false

/-- A byte of names. -/
def isNc (n : Int) : Bool := decide ((97 ≤ n ∧ n ≤ 122) ∨ (65 ≤ n ∧ n ≤ 90) ∨ n = 95 ∨ 127 < n ∨ n = 45 ∨ (48 ≤ n ∧ n ≤ 57))
/-- A byte at which a name may begin. -/
def isNs (n : Int) : Bool := decide ((97 ≤ n ∧ n ≤ 122) ∨ (65 ≤ n ∧ n ≤ 90) ∨ n = 95 ∨ 127 < n)
/-- A hexadecimal digit. -/
def isHx (n : Int) : Bool := decide ((48 ≤ n ∧ n ≤ 57) ∨ (97 ≤ n ∧ n ≤ 102) ∨ (65 ≤ n ∧ n ≤ 70))

set_option maxRecDepth 100000 in
set_option maxHeartbeats 4000000 in
theorem nameChar_any (n : Int) (w : World) : Calls Tryd.prog 41 #[.int .u8 n] w (SomeBool (fun b => b = isNc n) w) := by
  go_enter Tryd.func41, Tryd.ntmps41
  go_wp2
  all_goals go_ret
  all_goals refine ⟨_, ?_, rfl, rfl⟩
  all_goals (show _ = _; rw [Bool.eq_iff_iff]; simp [isNc]; try omega)

set_option maxRecDepth 100000 in
set_option maxHeartbeats 4000000 in
theorem hexDigit_any (n : Int) (w : World) : Calls Tryd.prog 55 #[.int .u8 n] w (SomeBool (fun b => b = isHx n) w) := by
  go_enter Tryd.func55, Tryd.ntmps55
  go_wp2
  all_goals go_ret
  all_goals refine ⟨_, ?_, rfl, rfl⟩
  all_goals (show _ = _; rw [Bool.eq_iff_iff]; simp [isHx]; try omega)

set_option maxRecDepth 100000 in
set_option maxHeartbeats 4000000 in
theorem nameStart_any (n : Int) (w : World) : Calls Tryd.prog 39 #[.int .u8 n] w (SomeBool (fun b => b = isNs n) w) := by
  go_enter Tryd.func39, Tryd.ntmps39
  go_wp2
  all_goals go_ret
  all_goals refine ⟨_, ?_, rfl, rfl⟩
  all_goals (show _ = _; rw [Bool.eq_iff_iff]; simp [isNs]; try omega)

set_option maxRecDepth 100000 in
set_option maxHeartbeats 4000000 in
theorem nameByte_any (n : Int) (w : World) : Calls Tryd.prog 26 #[.int .u8 n] w (SomeBool (fun b => b = isNc n) w) := by
  go_enter Tryd.func26, Tryd.ntmps26
  go_wp2
  all_goals go_ret
  all_goals refine ⟨_, ?_, rfl, rfl⟩
  all_goals (show _ = _; rw [Bool.eq_iff_iff]; simp [isNc]; try omega)

set_option maxRecDepth 100000 in
set_option maxHeartbeats 4000000 in
theorem beginByte_any (n : Int) (w : World) : Calls Tryd.prog 19 #[.int .u8 n] w (SomeBool (fun b => b = isNs n) w) := by
  go_enter Tryd.func19, Tryd.ntmps19
  go_wp2
  all_goals go_ret
  all_goals refine ⟨_, ?_, rfl, rfl⟩
  all_goals (show _ = _; rw [Bool.eq_iff_iff]; simp [isNs]; try omega)

/-- Control bytes. -/
def isCtl (n : Int) : Bool := decide (n < 32 ∨ n = 127)

/-- Whether there is a control byte. -/
def NoCtl (s : ByteArray) : Prop := ∀ i, i < s.size → isCtl (nx s i) = false

set_option maxRecDepth 100000 in
set_option maxHeartbeats 4000000 in
theorem control_any (s : ByteArray) (w : World) (hs : s.size ≤ maxLen) : Calls Tryd.prog 14 #[.string s] w (SomeBool (fun b => b = false → NoCtl s) w) := by
  unfold maxLen at hs
  go_enter Tryd.func14, Tryd.ntmps14
  go_wp2
  go_loopw [3] (fun i wr => ∃ k : Nat, i = .int .i64 (k : Int) ∧ k ≤ s.size ∧ (∀ i, i < k → isCtl (nx s i) = false) ∧ wr = w) (fun i _ => s.size - (intOf i).toNat)
  case atStart => exact ⟨0, by go_num, by omega, fun i hi => absurd hi (by omega), rfl⟩
  case round =>
    obtain ⟨k, rfl, hk, hd, rfl⟩ := hrel
    have HD := Lib.hid hd
    clear hd
    by_cases hlt : k < s.size
    · have g0 : decide ((k : Int) < (s.size : Int)) = true := by simp [hlt]
      have g0n : decide (k < s.size) = true := by simp [hlt]
      by_cases h32 : (s[k].toNat : Int) < 32
      · have g1 : decide ((s[k].toNat : Int) < (32 : Int)) = true := by simp [h32]
        go_wp2
        go_ret
        exact ⟨true, (fun h => by cases h), rfl, rfl⟩
      · have g1 : decide ((s[k].toNat : Int) < (32 : Int)) = false := by simp [h32]
        by_cases h7 : (s[k].toNat : Int) = 127
        · have g2 : ((s[k].toNat : Int) == 127) = true := by simp [h7]
          have H7 := Lib.hid h7
          clear h7
          go_wp2
          go_ret
          exact ⟨true, (fun h => by cases h), rfl, rfl⟩
        · have g2 : ((s[k].toNat : Int) == 127) = false := by simp [h7]
          go_wp2
          go_roundw
          case rel => exact ⟨k + 1, by go_num, by omega, fun i hi => by
            by_cases hik : i < k
            · exact HD.out i hik
            · obtain rfl : i = k := by omega
              rw [nx_lt hlt]; simp [isCtl]; omega, trivial⟩
          case measure => simp [intOf]; omega
    · have g0 : decide ((k : Int) < (s.size : Int)) = false := by simp; omega
      have g0n : decide (k < s.size) = false := by simp; omega
      go_wp2
      go_ret
      exact ⟨false, fun _ i hi => HD.out i (by omega), rfl, rfl⟩

end Go.Proofs.YtbikpalfhlgnoaaDoor
