/- spec.escapeOf: an escape by number. -/
import Derived.Test.YtbikpalfhlgnoaaDoorNamedF
import Derived.Test.YtbikpalfhlgnoaaDoorStrPost
namespace Go.Proofs.YtbikpalfhlgnoaaDoor
open Go.RowKit
set_option linter.unusedVariables false
set_option linter.unusedSimpArgs false

theorem digits_at : ∀ d : Fin 16, (⟨#[48, 49, 50, 51, 52, 53, 54, 55, 56, 57, 97, 98, 99, 100, 101, 102]⟩ : ByteArray).extract d.val (d.val + 1) = bs [hxd d.val] := by decide +kernel

set_option maxRecDepth 100000 in
set_option maxHeartbeats 4000000 in
theorem escapeOf_any (c : Nat) (w : World) (h0 : 0 < c) (h : c < 128) : Calls Tryd.prog 25 #[.int .i64 (c : Int)] w (StrPost (bs (esx c)) w) := by
  go_enter Tryd.func25, Tryd.ntmps25
  go_wp2
  go_loopw [0, 3] (fun v o wr => ∃ (x : Nat) (q : ByteArray), v = .int .i64 (x : Int) ∧ o = .string q ∧ x < 128 ∧ q.size ≤ 2 ∧ Hid ((x = c ∧ q = ByteArray.empty) ∨ (16 ≤ c ∧ x = c / 16 ∧ q = bs [hxd (c % 16)]) ∨ (x = 0 ∧ q = bs (if c < 16 then [hxd c] else [hxd (c / 16), hxd (c % 16)]))) ∧ wr = w) (fun v _ _ => (intOf v).toNat)
  case atStart => exact ⟨c, ByteArray.empty, rfl, rfl, h, by simp, Lib.hid (.inl ⟨rfl, rfl⟩), rfl⟩
  case round =>
    obtain ⟨x, q, rfl, rfl, hx, hq, hst, rfl⟩ := hrel
    by_cases h0x : 0 < x
    · have g0 : decide ((0 : Int) < (x : Int)) = true := by simp; omega
      have hd := digits_at ⟨x % 16, by omega⟩
      simp only at hd
      have HD := Lib.hid hd
      clear hd
      have hcat : (ByteArray.extract ⟨#[48, 49, 50, 51, 52, 53, 54, 55, 56, 57, 97, 98, 99, 100, 101, 102]⟩ (x % 16) (x % 16 + 1)).size + q.size ≤ 9223372036854775807 := by rw [ByteArray.size_extract]; omega
      go_wp2
      have hsz : (((⟨#[48, 49, 50, 51, 52, 53, 54, 55, 56, 57, 97, 98, 99, 100, 101, 102]⟩ : ByteArray).extract (x % 16) (x % 16 + 1)) ++ q).size = 1 + q.size := by rw [HD.out, ByteArray.size_append, bs_size]; rfl
      rcases hst.out with ⟨h1, h2⟩ | ⟨h1, h2, h3⟩ | ⟨h1, _⟩
      · by_cases h16 : c < 16
        · exact ⟨⟨x / 16, _, rfl, rfl, by omega, by rw [hsz, h2]; decide, Lib.hid (.inr (.inr ⟨by omega, by rw [HD.out, h2, if_pos h16, ByteArray.append_empty, show x % 16 = c by omega]⟩)), trivial⟩, by simp [intOf]; omega⟩
        · exact ⟨⟨x / 16, _, rfl, rfl, by omega, by rw [hsz, h2]; decide, Lib.hid (.inr (.inl ⟨by omega, by omega, by rw [HD.out, h2, ByteArray.append_empty, show x % 16 = c % 16 by omega]⟩)), trivial⟩, by simp [intOf]; omega⟩
      · exact ⟨⟨x / 16, _, rfl, rfl, by omega, by rw [hsz, h3, bs_size]; simp, Lib.hid (.inr (.inr ⟨by omega, by rw [HD.out, h3, if_neg (by omega), bs_append, show x % 16 = c / 16 by omega]; rfl⟩)), trivial⟩, by simp [intOf]; omega⟩
      · omega
    · have g0 : decide ((0 : Int) < (x : Int)) = false := by simp; omega
      have hc1 : (⟨#[92]⟩ : ByteArray).size + q.size ≤ 9223372036854775807 := by show 1 + q.size ≤ _; omega
      have hc2 : 1 + q.size + 1 ≤ 9223372036854775807 := by omega
      go_wp2
      go_ret
      rcases hst.out with ⟨h1, h2⟩ | ⟨h1, h2, h3⟩ | ⟨h1, h2⟩
      · omega
      · omega
      · rw [h2]
        refine ⟨?_, Below.refl _ _⟩
        show Ending.returned (.string (bs [92] ++ bs _ ++ bs [32])) = _
        rw [bs_append, bs_append]
        rfl

end Go.Proofs.YtbikpalfhlgnoaaDoor
