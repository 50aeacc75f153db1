/- spec.Signed, cascadia.escape: both write the signs escaped. -/
import Derived.Test.YtbikpalfhlgnoaaDoorSigned
import Derived.Test.YtbikpalfhlgnoaaDoorStrPost
import Derived.BigGuardPart
namespace Go.Proofs.YtbikpalfhlgnoaaDoor
open Go.RowKit
set_option linter.unusedVariables false
set_option linter.unusedSimpArgs false

set_option maxRecDepth 100000 in
set_option maxHeartbeats 8000000 in
theorem signed_any (s : ByteArray) (w : World) (hs : s.size ≤ 1000) : Calls Tryd.prog 16 #[.string s] w (StrPost (bs (sg s s.size)) w) := by
  go_enter Tryd.func16, Tryd.ntmps16
  go_wp2
  go_loopw [3, 4] (fun o i wr => ∃ (k : Nat) (t : ByteArray), o = .string t ∧ i = .int .i64 (k : Int) ∧ k ≤ s.size ∧ Hid (t = bs (sg s k)) ∧ t.size ≤ 2 * k ∧ Below w.heap.size w wr) (fun _ i _ => s.size - (intOf i).toNat)
  case atStart => exact ⟨0, ByteArray.empty, rfl, by go_num, by omega, Lib.hid rfl, by simp, Below.refl _ _⟩
  case round =>
    obtain ⟨k, t, rfl, rfl, hk, ht, hts, hb⟩ := hrel
    have HB := Lib.hid hb
    clear hb
    by_cases hlt : k < s.size
    · have g0 : decide ((k : Int) < (s.size : Int)) = true := by simp [hlt]
      have g0n : decide (k < s.size) = true := by simp [hlt]
      have h1 : (s.extract k (k + 1)).size = 1 := by rw [ByteArray.size_extract]; omega
      have hc1 : t.size + (s.extract k (k + 1)).size ≤ 9223372036854775807 := by omega
      have hc2 : t.size + 1 ≤ 9223372036854775807 := by omega
      have hc3 : t.size + 1 + (s.extract k (k + 1)).size ≤ 9223372036854775807 := by omega
      have hc4 : (t ++ ({ data := #[92] } : ByteArray)).size + (s.extract k (k + 1)).size ≤ 9223372036854775807 := by
        rw [ByteArray.size_append, show ({ data := #[92] } : ByteArray).size = 1 from rfl]; omega
      have hx := nx_lt hlt
      have hx0 := nx_nonneg s k
      have hx1 := nx_le s k
      rw [hx] at hx0 hx1
      have hreg : (0 ≤ (s[k].toNat : Int) ∧ (s[k].toNat : Int) < 32) ∨ (32 ≤ (s[k].toNat : Int) ∧ (s[k].toNat : Int) < 48) ∨ (48 ≤ (s[k].toNat : Int) ∧ (s[k].toNat : Int) < 58) ∨ (58 ≤ (s[k].toNat : Int) ∧ (s[k].toNat : Int) < 65) ∨ (65 ≤ (s[k].toNat : Int) ∧ (s[k].toNat : Int) < 91) ∨ (91 ≤ (s[k].toNat : Int) ∧ (s[k].toNat : Int) < 95) ∨ (95 ≤ (s[k].toNat : Int) ∧ (s[k].toNat : Int) < 96) ∨ (96 ≤ (s[k].toNat : Int) ∧ (s[k].toNat : Int) < 97) ∨ (97 ≤ (s[k].toNat : Int) ∧ (s[k].toNat : Int) < 123) ∨ (123 ≤ (s[k].toNat : Int) ∧ (s[k].toNat : Int) < 127) ∨ (127 ≤ (s[k].toNat : Int) ∧ (s[k].toNat : Int) < 256) := by omega
      have HX := Lib.hid hx
      clear hx
      rcases hreg with ⟨l, u⟩ | ⟨l, u⟩ | ⟨l, u⟩ | ⟨l, u⟩ | ⟨l, u⟩ | ⟨l, u⟩ | ⟨l, u⟩ | ⟨l, u⟩ | ⟨l, u⟩ | ⟨l, u⟩ | ⟨l, u⟩
      · have b1 : decide ((48 : Int) ≤ (s[k].toNat : Int)) = false := by simp; omega
        have b2 : decide ((s[k].toNat : Int) ≤ (57 : Int)) = true := by simp; omega
        have b3 : decide ((97 : Int) ≤ (s[k].toNat : Int)) = false := by simp; omega
        have b4 : decide ((s[k].toNat : Int) ≤ (122 : Int)) = true := by simp; omega
        have b5 : decide ((65 : Int) ≤ (s[k].toNat : Int)) = false := by simp; omega
        have b6 : decide ((s[k].toNat : Int) ≤ (90 : Int)) = true := by simp; omega
        have b7 : decide ((32 : Int) ≤ (s[k].toNat : Int)) = false := by simp; omega
        have b8 : decide ((s[k].toNat : Int) < (127 : Int)) = true := by simp; omega
        have e95 : ((s[k].toNat : Int) == 95) = false := by simp; omega
        have hsg : isSign (nx s k) = false := by rw [HX.out]; simp only [isSign, decide_eq_false_iff_not]; omega
        have HS := Lib.hid hsg
        clear hsg l u
        go_wp2
        go_roundw
        case rel => exact ⟨k + 1, t ++ s.extract k (k + 1), rfl, by go_num, by omega, Lib.hid (by rw [ht.out, sg_plain hlt HS.out, extract_one hlt, ← bs_append]), by rw [ByteArray.size_append]; omega, HB.out⟩
        case measure => simp [intOf]; omega
      · have b1 : decide ((48 : Int) ≤ (s[k].toNat : Int)) = false := by simp; omega
        have b2 : decide ((s[k].toNat : Int) ≤ (57 : Int)) = true := by simp; omega
        have b3 : decide ((97 : Int) ≤ (s[k].toNat : Int)) = false := by simp; omega
        have b4 : decide ((s[k].toNat : Int) ≤ (122 : Int)) = true := by simp; omega
        have b5 : decide ((65 : Int) ≤ (s[k].toNat : Int)) = false := by simp; omega
        have b6 : decide ((s[k].toNat : Int) ≤ (90 : Int)) = true := by simp; omega
        have b7 : decide ((32 : Int) ≤ (s[k].toNat : Int)) = true := by simp; omega
        have b8 : decide ((s[k].toNat : Int) < (127 : Int)) = true := by simp; omega
        have e95 : ((s[k].toNat : Int) == 95) = false := by simp; omega
        have hsg : isSign (nx s k) = true := by rw [HX.out]; simp only [isSign, decide_eq_true_eq]; omega
        have HS := Lib.hid hsg
        clear hsg l u
        go_wp2
        go_roundw
        case rel => exact ⟨k + 1, t ++ ({ data := #[92] } : ByteArray) ++ s.extract k (k + 1), rfl, by go_num, by omega, Lib.hid (by rw [ht.out, sg_sign hlt HS.out, extract_one hlt, ← bs_append, ← bs_append]; rfl), by rw [ByteArray.size_append, ByteArray.size_append, show ({ data := #[92] } : ByteArray).size = 1 from rfl]; omega, HB.out⟩
        case measure => simp [intOf]; omega
      · have b1 : decide ((48 : Int) ≤ (s[k].toNat : Int)) = true := by simp; omega
        have b2 : decide ((s[k].toNat : Int) ≤ (57 : Int)) = true := by simp; omega
        have b3 : decide ((97 : Int) ≤ (s[k].toNat : Int)) = false := by simp; omega
        have b4 : decide ((s[k].toNat : Int) ≤ (122 : Int)) = true := by simp; omega
        have b5 : decide ((65 : Int) ≤ (s[k].toNat : Int)) = false := by simp; omega
        have b6 : decide ((s[k].toNat : Int) ≤ (90 : Int)) = true := by simp; omega
        have b7 : decide ((32 : Int) ≤ (s[k].toNat : Int)) = true := by simp; omega
        have b8 : decide ((s[k].toNat : Int) < (127 : Int)) = true := by simp; omega
        have e95 : ((s[k].toNat : Int) == 95) = false := by simp; omega
        have hsg : isSign (nx s k) = false := by rw [HX.out]; simp only [isSign, decide_eq_false_iff_not]; omega
        have HS := Lib.hid hsg
        clear hsg l u
        go_wp2
        go_roundw
        case rel => exact ⟨k + 1, t ++ s.extract k (k + 1), rfl, by go_num, by omega, Lib.hid (by rw [ht.out, sg_plain hlt HS.out, extract_one hlt, ← bs_append]), by rw [ByteArray.size_append]; omega, HB.out⟩
        case measure => simp [intOf]; omega
      · have b1 : decide ((48 : Int) ≤ (s[k].toNat : Int)) = true := by simp; omega
        have b2 : decide ((s[k].toNat : Int) ≤ (57 : Int)) = false := by simp; omega
        have b3 : decide ((97 : Int) ≤ (s[k].toNat : Int)) = false := by simp; omega
        have b4 : decide ((s[k].toNat : Int) ≤ (122 : Int)) = true := by simp; omega
        have b5 : decide ((65 : Int) ≤ (s[k].toNat : Int)) = false := by simp; omega
        have b6 : decide ((s[k].toNat : Int) ≤ (90 : Int)) = true := by simp; omega
        have b7 : decide ((32 : Int) ≤ (s[k].toNat : Int)) = true := by simp; omega
        have b8 : decide ((s[k].toNat : Int) < (127 : Int)) = true := by simp; omega
        have e95 : ((s[k].toNat : Int) == 95) = false := by simp; omega
        have hsg : isSign (nx s k) = true := by rw [HX.out]; simp only [isSign, decide_eq_true_eq]; omega
        have HS := Lib.hid hsg
        clear hsg l u
        go_wp2
        go_roundw
        case rel => exact ⟨k + 1, t ++ ({ data := #[92] } : ByteArray) ++ s.extract k (k + 1), rfl, by go_num, by omega, Lib.hid (by rw [ht.out, sg_sign hlt HS.out, extract_one hlt, ← bs_append, ← bs_append]; rfl), by rw [ByteArray.size_append, ByteArray.size_append, show ({ data := #[92] } : ByteArray).size = 1 from rfl]; omega, HB.out⟩
        case measure => simp [intOf]; omega
      · have b1 : decide ((48 : Int) ≤ (s[k].toNat : Int)) = true := by simp; omega
        have b2 : decide ((s[k].toNat : Int) ≤ (57 : Int)) = false := by simp; omega
        have b3 : decide ((97 : Int) ≤ (s[k].toNat : Int)) = false := by simp; omega
        have b4 : decide ((s[k].toNat : Int) ≤ (122 : Int)) = true := by simp; omega
        have b5 : decide ((65 : Int) ≤ (s[k].toNat : Int)) = true := by simp; omega
        have b6 : decide ((s[k].toNat : Int) ≤ (90 : Int)) = true := by simp; omega
        have b7 : decide ((32 : Int) ≤ (s[k].toNat : Int)) = true := by simp; omega
        have b8 : decide ((s[k].toNat : Int) < (127 : Int)) = true := by simp; omega
        have e95 : ((s[k].toNat : Int) == 95) = false := by simp; omega
        have hsg : isSign (nx s k) = false := by rw [HX.out]; simp only [isSign, decide_eq_false_iff_not]; omega
        have HS := Lib.hid hsg
        clear hsg l u
        go_wp2
        go_roundw
        case rel => exact ⟨k + 1, t ++ s.extract k (k + 1), rfl, by go_num, by omega, Lib.hid (by rw [ht.out, sg_plain hlt HS.out, extract_one hlt, ← bs_append]), by rw [ByteArray.size_append]; omega, HB.out⟩
        case measure => simp [intOf]; omega
      · have b1 : decide ((48 : Int) ≤ (s[k].toNat : Int)) = true := by simp; omega
        have b2 : decide ((s[k].toNat : Int) ≤ (57 : Int)) = false := by simp; omega
        have b3 : decide ((97 : Int) ≤ (s[k].toNat : Int)) = false := by simp; omega
        have b4 : decide ((s[k].toNat : Int) ≤ (122 : Int)) = true := by simp; omega
        have b5 : decide ((65 : Int) ≤ (s[k].toNat : Int)) = true := by simp; omega
        have b6 : decide ((s[k].toNat : Int) ≤ (90 : Int)) = false := by simp; omega
        have b7 : decide ((32 : Int) ≤ (s[k].toNat : Int)) = true := by simp; omega
        have b8 : decide ((s[k].toNat : Int) < (127 : Int)) = true := by simp; omega
        have e95 : ((s[k].toNat : Int) == 95) = false := by simp; omega
        have hsg : isSign (nx s k) = true := by rw [HX.out]; simp only [isSign, decide_eq_true_eq]; omega
        have HS := Lib.hid hsg
        clear hsg l u
        go_wp2
        go_roundw
        case rel => exact ⟨k + 1, t ++ ({ data := #[92] } : ByteArray) ++ s.extract k (k + 1), rfl, by go_num, by omega, Lib.hid (by rw [ht.out, sg_sign hlt HS.out, extract_one hlt, ← bs_append, ← bs_append]; rfl), by rw [ByteArray.size_append, ByteArray.size_append, show ({ data := #[92] } : ByteArray).size = 1 from rfl]; omega, HB.out⟩
        case measure => simp [intOf]; omega
      · have b1 : decide ((48 : Int) ≤ (s[k].toNat : Int)) = true := by simp; omega
        have b2 : decide ((s[k].toNat : Int) ≤ (57 : Int)) = false := by simp; omega
        have b3 : decide ((97 : Int) ≤ (s[k].toNat : Int)) = false := by simp; omega
        have b4 : decide ((s[k].toNat : Int) ≤ (122 : Int)) = true := by simp; omega
        have b5 : decide ((65 : Int) ≤ (s[k].toNat : Int)) = true := by simp; omega
        have b6 : decide ((s[k].toNat : Int) ≤ (90 : Int)) = false := by simp; omega
        have b7 : decide ((32 : Int) ≤ (s[k].toNat : Int)) = true := by simp; omega
        have b8 : decide ((s[k].toNat : Int) < (127 : Int)) = true := by simp; omega
        have e95 : ((s[k].toNat : Int) == 95) = true := by simp; omega
        have hsg : isSign (nx s k) = false := by rw [HX.out]; simp only [isSign, decide_eq_false_iff_not]; omega
        have HS := Lib.hid hsg
        clear hsg l u
        go_wp2
        go_roundw
        case rel => exact ⟨k + 1, t ++ s.extract k (k + 1), rfl, by go_num, by omega, Lib.hid (by rw [ht.out, sg_plain hlt HS.out, extract_one hlt, ← bs_append]), by rw [ByteArray.size_append]; omega, HB.out⟩
        case measure => simp [intOf]; omega
      · have b1 : decide ((48 : Int) ≤ (s[k].toNat : Int)) = true := by simp; omega
        have b2 : decide ((s[k].toNat : Int) ≤ (57 : Int)) = false := by simp; omega
        have b3 : decide ((97 : Int) ≤ (s[k].toNat : Int)) = false := by simp; omega
        have b4 : decide ((s[k].toNat : Int) ≤ (122 : Int)) = true := by simp; omega
        have b5 : decide ((65 : Int) ≤ (s[k].toNat : Int)) = true := by simp; omega
        have b6 : decide ((s[k].toNat : Int) ≤ (90 : Int)) = false := by simp; omega
        have b7 : decide ((32 : Int) ≤ (s[k].toNat : Int)) = true := by simp; omega
        have b8 : decide ((s[k].toNat : Int) < (127 : Int)) = true := by simp; omega
        have e95 : ((s[k].toNat : Int) == 95) = false := by simp; omega
        have hsg : isSign (nx s k) = true := by rw [HX.out]; simp only [isSign, decide_eq_true_eq]; omega
        have HS := Lib.hid hsg
        clear hsg l u
        go_wp2
        go_roundw
        case rel => exact ⟨k + 1, t ++ ({ data := #[92] } : ByteArray) ++ s.extract k (k + 1), rfl, by go_num, by omega, Lib.hid (by rw [ht.out, sg_sign hlt HS.out, extract_one hlt, ← bs_append, ← bs_append]; rfl), by rw [ByteArray.size_append, ByteArray.size_append, show ({ data := #[92] } : ByteArray).size = 1 from rfl]; omega, HB.out⟩
        case measure => simp [intOf]; omega
      · have b1 : decide ((48 : Int) ≤ (s[k].toNat : Int)) = true := by simp; omega
        have b2 : decide ((s[k].toNat : Int) ≤ (57 : Int)) = false := by simp; omega
        have b3 : decide ((97 : Int) ≤ (s[k].toNat : Int)) = true := by simp; omega
        have b4 : decide ((s[k].toNat : Int) ≤ (122 : Int)) = true := by simp; omega
        have b5 : decide ((65 : Int) ≤ (s[k].toNat : Int)) = true := by simp; omega
        have b6 : decide ((s[k].toNat : Int) ≤ (90 : Int)) = false := by simp; omega
        have b7 : decide ((32 : Int) ≤ (s[k].toNat : Int)) = true := by simp; omega
        have b8 : decide ((s[k].toNat : Int) < (127 : Int)) = true := by simp; omega
        have e95 : ((s[k].toNat : Int) == 95) = false := by simp; omega
        have hsg : isSign (nx s k) = false := by rw [HX.out]; simp only [isSign, decide_eq_false_iff_not]; omega
        have HS := Lib.hid hsg
        clear hsg l u
        go_wp2
        go_roundw
        case rel => exact ⟨k + 1, t ++ s.extract k (k + 1), rfl, by go_num, by omega, Lib.hid (by rw [ht.out, sg_plain hlt HS.out, extract_one hlt, ← bs_append]), by rw [ByteArray.size_append]; omega, HB.out⟩
        case measure => simp [intOf]; omega
      · have b1 : decide ((48 : Int) ≤ (s[k].toNat : Int)) = true := by simp; omega
        have b2 : decide ((s[k].toNat : Int) ≤ (57 : Int)) = false := by simp; omega
        have b3 : decide ((97 : Int) ≤ (s[k].toNat : Int)) = true := by simp; omega
        have b4 : decide ((s[k].toNat : Int) ≤ (122 : Int)) = false := by simp; omega
        have b5 : decide ((65 : Int) ≤ (s[k].toNat : Int)) = true := by simp; omega
        have b6 : decide ((s[k].toNat : Int) ≤ (90 : Int)) = false := by simp; omega
        have b7 : decide ((32 : Int) ≤ (s[k].toNat : Int)) = true := by simp; omega
        have b8 : decide ((s[k].toNat : Int) < (127 : Int)) = true := by simp; omega
        have e95 : ((s[k].toNat : Int) == 95) = false := by simp; omega
        have hsg : isSign (nx s k) = true := by rw [HX.out]; simp only [isSign, decide_eq_true_eq]; omega
        have HS := Lib.hid hsg
        clear hsg l u
        go_wp2
        go_roundw
        case rel => exact ⟨k + 1, t ++ ({ data := #[92] } : ByteArray) ++ s.extract k (k + 1), rfl, by go_num, by omega, Lib.hid (by rw [ht.out, sg_sign hlt HS.out, extract_one hlt, ← bs_append, ← bs_append]; rfl), by rw [ByteArray.size_append, ByteArray.size_append, show ({ data := #[92] } : ByteArray).size = 1 from rfl]; omega, HB.out⟩
        case measure => simp [intOf]; omega
      · have b1 : decide ((48 : Int) ≤ (s[k].toNat : Int)) = true := by simp; omega
        have b2 : decide ((s[k].toNat : Int) ≤ (57 : Int)) = false := by simp; omega
        have b3 : decide ((97 : Int) ≤ (s[k].toNat : Int)) = true := by simp; omega
        have b4 : decide ((s[k].toNat : Int) ≤ (122 : Int)) = false := by simp; omega
        have b5 : decide ((65 : Int) ≤ (s[k].toNat : Int)) = true := by simp; omega
        have b6 : decide ((s[k].toNat : Int) ≤ (90 : Int)) = false := by simp; omega
        have b7 : decide ((32 : Int) ≤ (s[k].toNat : Int)) = true := by simp; omega
        have b8 : decide ((s[k].toNat : Int) < (127 : Int)) = false := by simp; omega
        have e95 : ((s[k].toNat : Int) == 95) = false := by simp; omega
        have hsg : isSign (nx s k) = false := by rw [HX.out]; simp only [isSign, decide_eq_false_iff_not]; omega
        have HS := Lib.hid hsg
        clear hsg l u
        go_wp2
        go_roundw
        case rel => exact ⟨k + 1, t ++ s.extract k (k + 1), rfl, by go_num, by omega, Lib.hid (by rw [ht.out, sg_plain hlt HS.out, extract_one hlt, ← bs_append]), by rw [ByteArray.size_append]; omega, HB.out⟩
        case measure => simp [intOf]; omega
    · have g0 : decide ((k : Int) < (s.size : Int)) = false := by simp; omega
      have g0n : decide (k < s.size) = false := by simp; omega
      go_wp2
      go_ret
      obtain rfl : k = s.size := by omega
      exact ⟨by rw [ht.out]; rfl, HB.out⟩

end Go.Proofs.YtbikpalfhlgnoaaDoor
