/- spec.Name, countable. -/
import Derived.Test.YtcnfdakfbglahaaStrings
import Derived.BigGuardPart
namespace Go.Proofs.Ytcnfdakfbglahaa
open Go.RowKit
set_option linter.unusedVariables false
set_option linter.unusedSimpArgs false

set_option maxHeartbeats 1000000 in
theorem name_any (s : ByteArray) (w : World) (hs : s.size ≤ maxLen) :
    Calls Try.prog 13 #[.string s] w (SomeBool (fun _ => True) w) := by
  unfold maxLen at hs
  go_enter Try.func13, Try.ntmps13
  by_cases h0 : s.size = 0
  · have h0' : ((s.size : Int) == 0) = true := by simp [h0]
    go_wp2
    go_ret
    exact ⟨_, trivial, rfl, rfl⟩
  · have h0' : ((s.size : Int) == 0) = false := by simpa using h0
    by_cases h1 : 40 < s.size
    · go_wp2
      go_ret
      exact ⟨_, trivial, rfl, rfl⟩
    · have h1' : s.size ≤ 40 := by omega
      have hp : 0 < s.size := by omega
      go_wp2
      · go_ret
        exact ⟨_, trivial, rfl, rfl⟩
      · go_ret
        exact ⟨_, trivial, rfl, rfl⟩
      · go_loop [3] (fun i => ∃ k : Nat, k ≤ 40 ∧ i = .int .i64 k) (fun i => 41 - (intOf i).toNat)
        case atStart => exact ⟨1, by omega, rfl⟩
        case round =>
          obtain ⟨k, hk, rfl⟩ := hrel
          go_wp2
          all_goals first
            | (go_ret; exact ⟨_, trivial, rfl, rfl⟩)
            | (go_round
               case rel => exact ⟨k + 1, by omega, by go_num⟩
               case measure => simp [intOf]; omega)

def CountableSays (len : Nat) (at_ : Int) (b : Bool) : Prop := b = true → len ≤ 200 ∧ 0 ≤ at_ ∧ at_ < len
theorem countableSays_false (len : Nat) (at_ : Int) : CountableSays len at_ false := by simp [CountableSays]

/-- countable: yes, and then the place is one of at most 200. -/
theorem countable_any (a : Option Addr) (len cap : Nat) (ss : List ByteArray) (at_ : Int) (w : World) (h : Strs w a len ss) (hw : ∀ s ∈ ss, s.size ≤ maxLen) :
    Calls Try.prog 6 #[.slice a len cap, .int .i64 at_] w (SomeBool (CountableSays len at_) w) := by
  have hm := h.len.2
  by_cases h0 : 200 < len
  · go_enter Try.func6, Try.ntmps6
    go_wp2
    go_ret
    exact ⟨_, countableSays_false _ _, rfl, rfl⟩
  by_cases h1 : at_ < 0
  · have h0' : len ≤ 200 := by omega
    have g0 : decide ((200 : Int) < (len : Int)) = false := by simp; omega
    go_enter Try.func6, Try.ntmps6
    go_wp2
    go_ret
    exact ⟨_, countableSays_false _ _, rfl, rfl⟩
  by_cases h2 : len ≤ at_
  · have h0' : len ≤ 200 := by omega
    have h1' : 0 ≤ at_ := by omega
    have g0 : decide ((200 : Int) < (len : Int)) = false := by simp; omega
    have g1 : decide (at_ < (0 : Int)) = false := by simp; omega
    go_enter Try.func6, Try.ntmps6
    go_wp2
    go_ret
    exact ⟨_, countableSays_false _ _, rfl, rfl⟩
  have h0' : len ≤ 200 := by omega
  have h1' : 0 ≤ at_ := by omega
  have h2' : at_ < len := by omega
  have g0 : decide ((200 : Int) < (len : Int)) = false := by simp; omega
  have g1 : decide (at_ < (0 : Int)) = false := by simp; omega
  have g2 : decide ((len : Int) ≤ at_) = false := by simp; omega
  obtain ⟨b, off, rfl, hc⟩ := h.at (by omega)
  have HC := Lib.hid hc
  have HW := Lib.hid hw
  clear hc hw h0 h1 h2
  go_enter Try.func6, Try.ntmps6
  go_wp2
  go_loop [5] (fun i => ∃ k : Nat, k ≤ len ∧ i = .int .i64 k) (fun i => len - (intOf i).toNat)
  case atStart => exact ⟨0, by omega, rfl⟩
  case round =>
    obtain ⟨k, hk, rfl⟩ := hrel
    by_cases hlt : k < len
    · have hck := HC.out k hlt
      obtain ⟨s, hs⟩ : ∃ s, s = ss.getD k ByteArray.empty := ⟨_, rfl⟩
      rw [← hs] at hck
      have hsz : s.size ≤ maxLen := by
        have hk' : k < ss.length := by rw [h.len.1]; exact hlt
        have : s = ss[k] := by rw [hs]; simp [List.getD, hk']
        rw [this]; exact HW.out _ (List.getElem_mem _)
      have HSZ := Lib.hid hsz
      clear hs hsz
      go_wp2_with fail
      refine (name_any s _ HSZ.out).mono ?_
      rintro e w' ⟨c, _, rfl, rfl⟩
      cases c
      · go_wp2
        go_ret
        exact ⟨_, countableSays_false _ _, rfl, rfl⟩
      · go_wp2
        go_round
        case rel => exact ⟨k + 1, by omega, by go_num⟩
        case measure => simp [intOf]; omega
    · go_wp2
      go_ret
      exact ⟨_, fun _ => ⟨h0', h1', h2'⟩, rfl, rfl⟩

end Go.Proofs.Ytcnfdakfbglahaa
