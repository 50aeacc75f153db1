/- spec.ascii, spec.stands, spec.inside. -/
import Derived.Test.YtikimffifkiinaaBase
import Derived.BigGuardPart
namespace Go.Proofs.Ytikimffifkiinaa
open Go.RowKit
set_option linter.unusedVariables false
set_option linter.unusedSimpArgs false

/-- A part stands at a place of a text. -/
def hasAt (s p : ByteArray) (i : Nat) : Bool := (s.extract i (i + p.size)).toList == p.toList
/-- A part stands somewhere in a text. -/
def Has (s p : ByteArray) : Prop := ∃ i, i + p.size ≤ s.size ∧ hasAt s p i = true

set_option maxRecDepth 100000 in
set_option maxHeartbeats 1000000 in
theorem ascii_any (s : ByteArray) (w : World) (hs : s.size ≤ maxLen) :
    Calls Try.prog 19 #[.string s] w (SomeBool (fun _ => True) w) := by
  unfold maxLen at hs
  go_enter Try.func19, Try.ntmps19
  go_wp2
  go_loop [3] (fun i => ∃ k : Nat, k ≤ s.size ∧ i = .int .i64 k) (fun i => s.size - (intOf i).toNat)
  case atStart => exact ⟨0, by omega, rfl⟩
  case round =>
    obtain ⟨k, hk, rfl⟩ := hrel
    by_cases hlt : k < s.size
    · go_wp2
      all_goals first
        | (go_ret; exact ⟨_, trivial, rfl, rfl⟩)
        | (go_round
           case rel => exact ⟨k + 1, by omega, by go_num⟩
           case measure => simp [intOf]; omega)
    · obtain rfl : k = s.size := by omega
      go_wp2
      all_goals (go_ret; exact ⟨_, trivial, rfl, rfl⟩)

set_option maxRecDepth 100000 in
set_option maxHeartbeats 1000000 in
theorem stands_any (s p : ByteArray) (i : Nat) (w : World) (hs : s.size ≤ 9223372036854775807) (hi : i + p.size ≤ s.size) :
    Calls Try.prog 35 #[.string s, .int .i64 i, .string p] w (fun e w' => e = .returned (.bool (hasAt s p i)) ∧ w = w') := by
  have hg : decide ((0 : Int) ≤ (i : Int)) = true := by simp
  have hl : decide ((i : Int) + (p.size : Int) ≤ (s.size : Int)) = true := by simp; omega
  obtain ⟨b, hb⟩ : ∃ b, hasAt s p i = b := ⟨_, rfl⟩
  have hb' := hb
  unfold hasAt at hb'
  rw [hb]
  clear hb
  go_enter Try.func35, Try.ntmps35
  go_wp2
  go_ret
  exact ⟨rfl, rfl⟩

set_option maxRecDepth 100000 in
set_option maxHeartbeats 1000000 in
theorem inside_any (s p : ByteArray) (w : World) (hs : s.size ≤ 4611686018427387904) (hp : p.size ≤ 1000) :
    Calls Try.prog 20 #[.string s, .string p] w (SomeBool (fun b => b = true ↔ Has s p) w) := by
  go_enter Try.func20, Try.ntmps20
  go_wp2
  go_loop [5] (fun i => ∃ k : Nat, k ≤ s.size + 1 ∧ i = .int .i64 k ∧ Hid (∀ j, j < k → j + p.size ≤ s.size → hasAt s p j = false)) (fun i => s.size + 1 - (intOf i).toNat)
  case atStart => exact ⟨0, by omega, rfl, Lib.hid (fun j hj => by omega)⟩
  case round =>
    obtain ⟨k, hk, rfl, HF⟩ := hrel
    by_cases hlt : k + p.size ≤ s.size
    · have hst := stands_any s p k w (by omega) hlt
      have hltI : decide ((k : Int) + (p.size : Int) ≤ (s.size : Int)) = true := by simp; omega
      cases hb : hasAt s p k
      · rw [hb] at hst
        have HB := Lib.hid hb
        have HS := Lib.hid hst
        clear hb hst
        go_wp2_with fail
        refine HS.out.mono ?_
        rintro e w1 ⟨rfl, rfl⟩
        go_wp2
        go_round
        case rel => exact ⟨k + 1, by omega, by go_num, Lib.hid (fun j hj hj2 => by
          rcases Nat.lt_or_ge j k with h | h
          · exact HF.out j h hj2
          · obtain rfl : j = k := by omega
            exact HB.out)⟩
        case measure => simp [intOf]; omega
      · rw [hb] at hst
        have HB := Lib.hid hb
        have HS := Lib.hid hst
        clear hb hst
        go_wp2_with fail
        refine HS.out.mono ?_
        rintro e w1 ⟨rfl, rfl⟩
        go_wp2
        go_ret
        exact ⟨true, by simpa using ⟨k, hlt, HB.out⟩, rfl, rfl⟩
    · have hltI : decide ((k : Int) + (p.size : Int) ≤ (s.size : Int)) = false := by simp; omega
      go_wp2
      go_ret
      refine ⟨false, ?_, rfl, rfl⟩
      simp only [Bool.false_eq_true, false_iff]
      rintro ⟨i, h1, h2⟩
      have := HF.out i (by omega) h1
      rw [this] at h2
      cases h2

end Go.Proofs.Ytikimffifkiinaa
