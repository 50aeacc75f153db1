/- spec.Escaped at a text without carriage returns. -/
import Derived.Test.YtphppdbhofeagaaDoorHtmlEscape
namespace Go.Proofs.YtphppdbhofeagaaDoor
open Go.RowKit
set_option linter.unusedVariables false
set_option linter.unusedSimpArgs false

/-- A text that holds no carriage return. -/
def NoCr (s : ByteArray) : Prop := ∀ i (h : i < s.size), (s[i]'h).toNat ≠ 13

def EscPost (s : ByteArray) (w : World) (e : Ending) (w' : World) : Prop := ∃ z : ByteArray, e = .returned (.string z) ∧ z.data.toList = escL s.data.toList ∧ w' = w

theorem app_list (z t : ByteArray) : (z ++ t).data.toList = z.data.toList ++ t.data.toList := by
  rw [ByteArray.data_append, Array.toList_append]

set_option maxRecDepth 100000 in
set_option maxHeartbeats 4000000 in
theorem escaped_any (s : ByteArray) (w : World) (hs : s.size ≤ 100000000) (hcr : NoCr s) :
    Calls Tryd.prog 17 #[.string s] w (EscPost s w) := by
  have htl : s.data.toList.length = s.size := by rw [Array.length_toList]; rfl
  have HTL := Lib.hid htl
  have HCR := Lib.hid hcr
  clear htl hcr
  go_enter Tryd.func17, Tryd.ntmps17
  go_wp2
  go_loopw [3, 4] (fun ov iv wr => ∃ (k : Nat) (z : ByteArray), k ≤ s.size ∧ iv = .int .i64 (k : Int) ∧ ov = .string z ∧ Hid (z.data.toList = escL (s.data.toList.take k)) ∧ w = wr) (fun _ iv _ => s.size - (intOf iv).toNat)
  case atStart => exact ⟨0, ByteArray.empty, by omega, by go_num, rfl, Lib.hid rfl, rfl⟩
  case round =>
    obtain ⟨k, z, hk, rfl, rfl, HZ, rfl⟩ := hrel
    have hzs : z.size ≤ 5 * k := by
      have h1 := escL_length (s.data.toList.take k)
      rw [← HZ.out, Array.length_toList, List.length_take] at h1
      have : z.size = z.data.size := rfl
      omega
    by_cases hlt : k < s.size
    · have hkI : (k : Int) < (s.size : Int) := by omega
      have hstep : escL (s.data.toList.take (k + 1)) = escL (s.data.toList.take k) ++ escB (s[k]'hlt) := by
        rw [List.take_add_one, escL_append, List.getElem?_eq_getElem (by rw [HTL.out]; exact hlt)]
        simp [escL]
        rfl
      have HS := Lib.hid hstep
      have n13 := HCR.out k hlt
      have k4 : ¬ 9223372036854775807 < z.size + 4 := by omega
      have k5 : ¬ 9223372036854775807 < z.size + 5 := by omega
      have k1 : ¬ 9223372036854775807 < z.size + 1 := by omega
      have hxs : (s.extract k (k + 1)).size = 1 := by simp [ByteArray.size_extract]; omega
      have kx : ¬ 9223372036854775807 < z.size + (s.extract k (k + 1)).size := by omega
      clear hstep hzs
      cases hsp : special (s[k]'hlt)
      · have hb := escB_plain hsp
        have hx : (s.extract k (k + 1)).data.toList = [s[k]'hlt] := by
          rw [xtr_list, show k + 1 - k = 1 by omega, List.drop_eq_getElem_cons (by rw [HTL.out]; exact hlt)]
          rfl
        have HX := Lib.hid (And.intro hb hx)
        have hno : ∀ n : Nat, n ∈ escSet → (s[k]'hlt).toNat ≠ n := by
          intro n hn he
          have : special (s[k]'hlt) = true := special_of (by rw [he]; simpa [escSet] using hn)
          rw [hsp] at this
          exact absurd this (by decide)
        have g1 : (((s[k]'hlt).toNat : Int) == 38) = false := by have := hno 38 (by decide); simp; omega
        have g2 : (((s[k]'hlt).toNat : Int) == 60) = false := by have := hno 60 (by decide); simp; omega
        have g3 : (((s[k]'hlt).toNat : Int) == 62) = false := by have := hno 62 (by decide); simp; omega
        have g4 : (((s[k]'hlt).toNat : Int) == 34) = false := by have := hno 34 (by decide); simp; omega
        have g5 : (((s[k]'hlt).toNat : Int) == 39) = false := by have := hno 39 (by decide); simp; omega
        clear hno hsp hb hx n13
        go_wp2
        refine ⟨?rel, ?measure⟩
        case rel => exact ⟨k + 1, _, by omega, by go_num, rfl, Lib.hid (by rw [HS.out, app_list, HX.out.1, HX.out.2, HZ.out]), trivial⟩
        case measure => simp [intOf]; omega
      · rcases special_is hsp with hc | hc | hc | hc | hc | hc
        all_goals first | (exfalso; exact n13 hc) | skip
        all_goals
          have HESC := Lib.hid (congrArg escB (ofNat_of hc))
          clear hsp n13
          go_wp2
          refine ⟨?rel, ?measure⟩
          case rel => exact ⟨k + 1, _, by omega, by go_num, rfl, Lib.hid (by rw [HS.out, app_list, HESC.out, HZ.out]; rfl), trivial⟩
          case measure => simp [intOf]; omega
    · obtain rfl : k = s.size := by omega
      go_wp2
      go_ret
      refine ⟨z, rfl, ?_, rfl⟩
      have := HZ.out
      rwa [List.take_of_length_le (by rw [HTL.out]; exact Nat.le_refl _)] at this

end Go.Proofs.YtphppdbhofeagaaDoor
