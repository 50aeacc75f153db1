/- spec.PlainTag, spec.letters. -/
import Derived.Test.YtphppdbhofeagaaDoorRendLen
import Derived.BigGuardPart
namespace Go.Proofs.YtphppdbhofeagaaDoor
open Go.RowKit
set_option linter.unusedVariables false
set_option linter.unusedSimpArgs false

def TagSays (s : ByteArray) (b : Bool) : Prop := b = true → Plainish s
def LettersSays (s : ByteArray) (b : Bool) : Prop := b = true → Letters s

theorem plainish_of {s : ByteArray} {c : List UInt8} (h : (s.toList == c) = true) (hc : c ∈ plainLists) : Plainish s := by
  rw [ByteArray.toList_eq] at h
  have := eq_of_beq h
  rw [Plainish, this]
  exact hc

set_option maxRecDepth 100000 in
set_option maxHeartbeats 8000000 in
theorem plainTag_any (s : ByteArray) (w : World) :
    Calls Tryd.prog 22 #[.string s] w (SomeBool (TagSays s) w) := by
  cases h0 : (s.toList == [100, 105, 118])
  case true =>
    go_enter Tryd.func22, Tryd.ntmps22
    go_wp2
    go_ret
    exact ⟨_, (fun _ => plainish_of h0 (by decide)), rfl, rfl⟩
  cases h1 : (s.toList == [115, 101, 99, 116, 105, 111, 110])
  case true =>
    go_enter Tryd.func22, Tryd.ntmps22
    go_wp2
    go_ret
    exact ⟨_, (fun _ => plainish_of h1 (by decide)), rfl, rfl⟩
  cases h2 : (s.toList == [97, 114, 116, 105, 99, 108, 101])
  case true =>
    go_enter Tryd.func22, Tryd.ntmps22
    go_wp2
    go_ret
    exact ⟨_, (fun _ => plainish_of h2 (by decide)), rfl, rfl⟩
  cases h3 : (s.toList == [97, 115, 105, 100, 101])
  case true =>
    go_enter Tryd.func22, Tryd.ntmps22
    go_wp2
    go_ret
    exact ⟨_, (fun _ => plainish_of h3 (by decide)), rfl, rfl⟩
  cases h4 : (s.toList == [110, 97, 118])
  case true =>
    go_enter Tryd.func22, Tryd.ntmps22
    go_wp2
    go_ret
    exact ⟨_, (fun _ => plainish_of h4 (by decide)), rfl, rfl⟩
  cases h5 : (s.toList == [104, 101, 97, 100, 101, 114])
  case true =>
    go_enter Tryd.func22, Tryd.ntmps22
    go_wp2
    go_ret
    exact ⟨_, (fun _ => plainish_of h5 (by decide)), rfl, rfl⟩
  cases h6 : (s.toList == [102, 111, 111, 116, 101, 114])
  case true =>
    go_enter Tryd.func22, Tryd.ntmps22
    go_wp2
    go_ret
    exact ⟨_, (fun _ => plainish_of h6 (by decide)), rfl, rfl⟩
  cases h7 : (s.toList == [109, 97, 105, 110])
  case true =>
    go_enter Tryd.func22, Tryd.ntmps22
    go_wp2
    go_ret
    exact ⟨_, (fun _ => plainish_of h7 (by decide)), rfl, rfl⟩
  cases h8 : (s.toList == [115, 112, 97, 110])
  case true =>
    go_enter Tryd.func22, Tryd.ntmps22
    go_wp2
    go_ret
    exact ⟨_, (fun _ => plainish_of h8 (by decide)), rfl, rfl⟩
  cases h9 : (s.toList == [97, 98, 98, 114])
  case true =>
    go_enter Tryd.func22, Tryd.ntmps22
    go_wp2
    go_ret
    exact ⟨_, (fun _ => plainish_of h9 (by decide)), rfl, rfl⟩
  cases h10 : (s.toList == [115, 117, 98])
  case true =>
    go_enter Tryd.func22, Tryd.ntmps22
    go_wp2
    go_ret
    exact ⟨_, (fun _ => plainish_of h10 (by decide)), rfl, rfl⟩
  cases h11 : (s.toList == [115, 117, 112])
  case true =>
    go_enter Tryd.func22, Tryd.ntmps22
    go_wp2
    go_ret
    exact ⟨_, (fun _ => plainish_of h11 (by decide)), rfl, rfl⟩
  cases h12 : (s.toList == [113])
  case true =>
    go_enter Tryd.func22, Tryd.ntmps22
    go_wp2
    go_ret
    exact ⟨_, (fun _ => plainish_of h12 (by decide)), rfl, rfl⟩
  cases h13 : (s.toList == [120, 45, 97])
  case true =>
    go_enter Tryd.func22, Tryd.ntmps22
    go_wp2
    go_ret
    exact ⟨_, (fun _ => plainish_of h13 (by decide)), rfl, rfl⟩
  cases h14 : (s.toList == [120, 45, 98])
  case true =>
    go_enter Tryd.func22, Tryd.ntmps22
    go_wp2
    go_ret
    exact ⟨_, (fun _ => plainish_of h14 (by decide)), rfl, rfl⟩
  go_enter Tryd.func22, Tryd.ntmps22
  go_wp2
  go_ret
  exact ⟨_, (fun h => by cases h), rfl, rfl⟩

set_option maxRecDepth 100000 in
set_option maxHeartbeats 4000000 in
theorem letters_any (s : ByteArray) (w : World) (hs : s.size ≤ maxLen) :
    Calls Tryd.prog 23 #[.string s] w (SomeBool (LettersSays s) w) := by
  unfold maxLen at hs
  go_enter Tryd.func23, Tryd.ntmps23
  go_wp2
  go_loopw [3] (fun iv wr => ∃ k : Nat, k ≤ s.size ∧ iv = .int .i64 (k : Int) ∧ Hid (∀ j (h : j < s.size), j < k → (s[j]'h).toNat ≠ 38 ∧ (s[j]'h).toNat ≠ 62) ∧ w = wr) (fun iv _ => s.size - (intOf iv).toNat)
  case atStart => exact ⟨0, by omega, by go_num, Lib.hid (fun j h hj => by omega), rfl⟩
  case round =>
    obtain ⟨k, hk, rfl, HL, rfl⟩ := hrel
    by_cases hlt : k < s.size
    · have hkI : (k : Int) < (s.size : Int) := by omega
      by_cases hok : (s[k]'hlt).toNat ≠ 38 ∧ (s[k]'hlt).toNat ≠ 62
      · have H2 := Lib.hid (show ∀ j (h : j < s.size), j < k + 1 → (s[j]'h).toNat ≠ 38 ∧ (s[j]'h).toNat ≠ 62 from fun j h hj => by
          by_cases e : j = k
          · subst e; exact hok
          · exact HL.out j h (by omega))
        clear HL hok
        go_wp2
        all_goals first
          | (go_ret; exact ⟨_, (fun h => by cases h), rfl, rfl⟩)
          | (refine ⟨?rel, ?measure⟩
             case rel => exact ⟨k + 1, by omega, by go_num, H2, by first | rfl | trivial⟩
             case measure => simp [intOf]; omega)
      · have hbad : (s[k]'hlt).toNat = 38 ∨ (s[k]'hlt).toNat = 62 := by omega
        clear hok HL
        rcases hbad with hc | hc
        all_goals
          go_wp2
          go_ret
          exact ⟨_, (fun h => by cases h), rfl, rfl⟩
    · obtain rfl : k = s.size := by omega
      go_wp2
      go_ret
      exact ⟨_, (fun _ i h => HL.out i h h), rfl, rfl⟩

end Go.Proofs.YtphppdbhofeagaaDoor
