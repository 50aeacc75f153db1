/- spec.Point, spec.Plain: they return; of what they say nothing is needed here. -/
import Derived.Test.YtphppdbhofeagaaDoorBase
import Derived.BigGuardPart
namespace Go.Proofs.YtphppdbhofeagaaDoor
open Go.RowKit
set_option linter.unusedVariables false
set_option linter.unusedSimpArgs false

/-- A code point and how many bytes it has, within the text. -/
def PointPost (s : ByteArray) (at_ : Nat) (w : World) (e : Ending) (w' : World) : Prop :=
  ∃ (q : Int) (n : Nat), e = .returned (.tuple #[.int .i64 q, .int .i64 n]) ∧ n ≤ 4 ∧ at_ + n ≤ s.size ∧ w = w'

set_option maxRecDepth 100000 in
set_option maxHeartbeats 2000000 in
theorem point_any (s : ByteArray) (at_ : Nat) (w : World) (hs : s.size ≤ maxLen) (hat : at_ < s.size) :
    Calls Tryd.prog 46 #[.string s, .int .i64 at_] w (PointPost s at_ w) := by
  unfold maxLen at hs
  obtain ⟨c, hc⟩ : ∃ c, wrap64 ((s[at_]'hat).toNat : Int) = c := ⟨_, rfl⟩
  rcases (show c < 128 ∨ (128 ≤ c ∧ c < 192) ∨ (192 ≤ c ∧ c < 224) ∨ (224 ≤ c ∧ c < 240) ∨ (240 ≤ c ∧ c < 248) ∨ 248 ≤ c by omega) with h | h | h | h | h | h
  · have g128 : decide (c < (128 : Int)) = true := by simp; omega
    go_enter Tryd.func46, Tryd.ntmps46
    go_wp2
    go_ret2
    exact ⟨_, 1, rfl, by omega, by omega, rfl⟩
  · have g128 : decide (c < (128 : Int)) = false := by simp; omega
    have e192 : decide ((192 : Int) ≤ c) = false := by simp; omega
    have e224 : decide ((224 : Int) ≤ c) = false := by simp; omega
    have e240 : decide ((240 : Int) ≤ c) = false := by simp; omega
    go_enter Tryd.func46, Tryd.ntmps46
    go_wp2
    go_ret2
    exact ⟨_, 0, rfl, by omega, by omega, rfl⟩
  · skip
    have g128 : decide (c < (128 : Int)) = false := by simp; omega
    have e192 : decide ((192 : Int) ≤ c) = true := by simp; omega
    have g224 : decide (c < (224 : Int)) = true := by simp; omega
    by_cases hr : (s.size : Int) - at_ ≤ 1
    · have gr : decide ((s.size : Int) - (at_ : Int) ≤ 1) = true := by simp; omega
      go_enter Tryd.func46, Tryd.ntmps46
      go_wp2
      go_ret2
      exact ⟨_, 0, rfl, by omega, by omega, rfl⟩
    · have gr : decide ((s.size : Int) - (at_ : Int) ≤ 1) = false := by simp; omega
      go_enter Tryd.func46, Tryd.ntmps46
      go_wp2
      go_loop [4, 9] (fun p i => ∃ (q : Int) (k : Nat), 1 ≤ k ∧ k ≤ 2 ∧ p = .int .i64 q ∧ i = .int .i64 k) (fun _ i => 2 - (intOf i).toNat)
      case atStart => exact ⟨_, 1, by omega, by omega, rfl, rfl⟩
      case round =>
        obtain ⟨q, k, hk1, hk2, rfl, rfl⟩ := hrel
        by_cases hlt : k ≤ 1
        · go_wp2
          all_goals first
            | (go_ret2; exact ⟨_, 0, rfl, by omega, by omega, rfl⟩)
            | (go_round
               case rel => exact ⟨_, k + 1, by omega, by omega, rfl, by go_num⟩
               case measure => simp [intOf]; omega)
        · go_wp2
          all_goals first
            | (go_ret2; exact ⟨_, 0, rfl, by omega, by omega, rfl⟩)
            | (go_ret2; exact ⟨_, 2, rfl, by omega, by omega, rfl⟩)
  · skip
    have g128 : decide (c < (128 : Int)) = false := by simp; omega
    have e192 : decide ((192 : Int) ≤ c) = true := by simp; omega
    have g224 : decide (c < (224 : Int)) = false := by simp; omega
    have e224 : decide ((224 : Int) ≤ c) = true := by simp; omega
    have g240 : decide (c < (240 : Int)) = true := by simp; omega
    by_cases hr : (s.size : Int) - at_ ≤ 2
    · have gr : decide ((s.size : Int) - (at_ : Int) ≤ 2) = true := by simp; omega
      go_enter Tryd.func46, Tryd.ntmps46
      go_wp2
      go_ret2
      exact ⟨_, 0, rfl, by omega, by omega, rfl⟩
    · have gr : decide ((s.size : Int) - (at_ : Int) ≤ 2) = false := by simp; omega
      go_enter Tryd.func46, Tryd.ntmps46
      go_wp2
      go_loop [4, 9] (fun p i => ∃ (q : Int) (k : Nat), 1 ≤ k ∧ k ≤ 3 ∧ p = .int .i64 q ∧ i = .int .i64 k) (fun _ i => 3 - (intOf i).toNat)
      case atStart => exact ⟨_, 1, by omega, by omega, rfl, rfl⟩
      case round =>
        obtain ⟨q, k, hk1, hk2, rfl, rfl⟩ := hrel
        by_cases hlt : k ≤ 2
        · go_wp2
          all_goals first
            | (go_ret2; exact ⟨_, 0, rfl, by omega, by omega, rfl⟩)
            | (go_round
               case rel => exact ⟨_, k + 1, by omega, by omega, rfl, by go_num⟩
               case measure => simp [intOf]; omega)
        · go_wp2
          all_goals first
            | (go_ret2; exact ⟨_, 0, rfl, by omega, by omega, rfl⟩)
            | (go_ret2; exact ⟨_, 3, rfl, by omega, by omega, rfl⟩)
  · skip
    have g128 : decide (c < (128 : Int)) = false := by simp; omega
    have e192 : decide ((192 : Int) ≤ c) = true := by simp; omega
    have g224 : decide (c < (224 : Int)) = false := by simp; omega
    have e224 : decide ((224 : Int) ≤ c) = true := by simp; omega
    have g240 : decide (c < (240 : Int)) = false := by simp; omega
    have e240 : decide ((240 : Int) ≤ c) = true := by simp; omega
    have g248 : decide (c < (248 : Int)) = true := by simp; omega
    by_cases hr : (s.size : Int) - at_ ≤ 3
    · have gr : decide ((s.size : Int) - (at_ : Int) ≤ 3) = true := by simp; omega
      go_enter Tryd.func46, Tryd.ntmps46
      go_wp2
      go_ret2
      exact ⟨_, 0, rfl, by omega, by omega, rfl⟩
    · have gr : decide ((s.size : Int) - (at_ : Int) ≤ 3) = false := by simp; omega
      go_enter Tryd.func46, Tryd.ntmps46
      go_wp2
      go_loop [4, 9] (fun p i => ∃ (q : Int) (k : Nat), 1 ≤ k ∧ k ≤ 4 ∧ p = .int .i64 q ∧ i = .int .i64 k) (fun _ i => 4 - (intOf i).toNat)
      case atStart => exact ⟨_, 1, by omega, by omega, rfl, rfl⟩
      case round =>
        obtain ⟨q, k, hk1, hk2, rfl, rfl⟩ := hrel
        by_cases hlt : k ≤ 3
        · go_wp2
          all_goals first
            | (go_ret2; exact ⟨_, 0, rfl, by omega, by omega, rfl⟩)
            | (go_round
               case rel => exact ⟨_, k + 1, by omega, by omega, rfl, by go_num⟩
               case measure => simp [intOf]; omega)
        · go_wp2
          all_goals first
            | (go_ret2; exact ⟨_, 0, rfl, by omega, by omega, rfl⟩)
            | (go_ret2; exact ⟨_, 4, rfl, by omega, by omega, rfl⟩)
  · have g128 : decide (c < (128 : Int)) = false := by simp; omega
    have e192 : decide ((192 : Int) ≤ c) = true := by simp; omega
    have g224 : decide (c < (224 : Int)) = false := by simp; omega
    have e224 : decide ((224 : Int) ≤ c) = true := by simp; omega
    have g240 : decide (c < (240 : Int)) = false := by simp; omega
    have e240 : decide ((240 : Int) ≤ c) = true := by simp; omega
    have g248 : decide (c < (248 : Int)) = false := by simp; omega
    go_enter Tryd.func46, Tryd.ntmps46
    go_wp2
    go_ret2
    exact ⟨_, 0, rfl, by omega, by omega, rfl⟩

set_option maxRecDepth 100000 in
set_option maxHeartbeats 1000000 in
theorem plain_any (s : ByteArray) (w : World) (hs : s.size ≤ maxLen) :
    Calls Tryd.prog 30 #[.string s] w (SomeBool (fun _ => True) w) := by
  have hs' := hs
  unfold maxLen at hs'
  go_enter Tryd.func30, Tryd.ntmps30
  go_wp2
  go_loop [3] (fun i => ∃ k : Nat, k ≤ s.size ∧ i = .int .i64 k) (fun i => s.size - (intOf i).toNat)
  case atStart => exact ⟨0, Nat.zero_le _, rfl⟩
  case round =>
    obtain ⟨k, hk, rfl⟩ := hrel
    by_cases hlt : k < s.size
    · go_wp2_with fail
      refine (point_any s k w hs hlt).mono ?_
      rintro e w' ⟨q, n, rfl, hn4, hn, rfl⟩
      by_cases h0 : n = 0
      · have g0 : ((n : Int) == 0) = true := by simp [h0]
        have H0 := Lib.hid h0
        clear h0
        go_wp2
        go_ret
        exact ⟨_, trivial, rfl, rfl⟩
      · have g0 : ((n : Int) == 0) = false := by simp; omega
        by_cases h1 : q = 0
        · have g1 : (q == 0) = true := by simp [h1]
          have H1 := Lib.hid h1
          clear h1
          go_wp2
          go_ret
          exact ⟨_, trivial, rfl, rfl⟩
        · have g1 : (q == 0) = false := by simp [h1]
          go_wp2
          go_round
          case rel => exact ⟨k + n, by omega, by go_num⟩
          case measure => simp [intOf]; omega
    · go_wp2
      go_ret
      exact ⟨_, trivial, rfl, rfl⟩

end Go.Proofs.YtphppdbhofeagaaDoor
