/- html.escapeComment at a text of letters and blanks. -/
import Derived.Test.YtphppdbhofeagaaDoorHtmlEscape
namespace Go.Proofs.YtphppdbhofeagaaDoor
open Go.RowKit
set_option linter.unusedVariables false
set_option linter.unusedSimpArgs false

/-- Letters and blanks alone. -/
def Letters (s : ByteArray) : Prop := ∀ i (h : i < s.size), (s[i]'h).toNat ≠ 38 ∧ (s[i]'h).toNat ≠ 62

set_option maxRecDepth 100000 in
set_option maxHeartbeats 4000000 in
theorem escapeComment_any (B b : Nat) (l : List UInt8) (s : ByteArray) (w : World) (h : IsB B b l w) (hc : Letters s) (hs : s.size ≤ 100000000) (hlen : l.length ≤ 100000000000) (hBw : B ≤ w.heap.size) :
    Calls Tryd.prog 60 #[wtr b, .string s] w (Wrote B b (l ++ s.data.toList) w) := by
  have hmS := mtdStr b
  have hnS := nilStr b
  have htl : s.data.toList.length = s.size := by rw [Array.length_toList]; rfl
  have hw := fun (w' : World) (hd : Below w.heap.size w w') => writeStr_any B b l s w' (h.below hd) (by omega) (Nat.le_trans hBw hd.size)
  have HW := Lib.hid hw
  have HC := Lib.hid hc
  have HB := Lib.hid h
  have HTL := Lib.hid htl
  clear hw hc h htl
  by_cases h0 : s.size = 0
  · have hnil : s.data.toList = [] := List.eq_nil_of_length_eq_zero (by rw [HTL.out]; exact h0)
    have HN := Lib.hid hnil
    clear hnil
    go_enter Tryd.func60, Tryd.ntmps60
    go_wp2
    go_ret
    exact ⟨rfl, by rw [HN.out, List.append_nil]; exact HB.out, Below.refl _ _⟩
  · have h1 : ((s.size : Int) == 0) = false := by simpa using h0
    have hpos : (0 : Int) < (s.size : Int) := by omega
    have HZ := Lib.hid h0
    clear h0
    go_enter Tryd.func60, Tryd.ntmps60
    go_wp2
    go_loopw [5, 6] (fun iv jv wr => ∃ k : Nat, k ≤ s.size ∧ iv = .int .i64 0 ∧ jv = .int .i64 (k : Int) ∧ w = wr) (fun _ jv _ => s.size - (intOf jv).toNat)
    case atStart => exact ⟨0, by omega, rfl, by go_num, rfl⟩
    case round =>
      obtain ⟨k, hk, rfl, rfl, rfl⟩ := hrel
      by_cases hlt : k < s.size
      · obtain ⟨hc1, hc2⟩ := HC.out k hlt
        have hkI : (k : Int) < (s.size : Int) := by omega
        obtain ⟨q, hq⟩ : ∃ q, (s[k]'hlt).toNat = q := ⟨_, rfl⟩
        have g1 : (((s[k]'hlt).toNat : Int) == 38) = false := by simp; omega
        have g2 : (((s[k]'hlt).toNat : Int) == 62) = false := by simp; omega
        clear hq
        go_wp2
        refine ⟨?rel, ?measure⟩
        case rel => exact ⟨k + 1, by omega, rfl, by go_num, by first | rfl | trivial⟩
        case measure => simp [intOf]; omega
      · obtain rfl : k = s.size := by omega
        clear hlt
        go_wp2_with fail
        go_region_with (go_at_call 91; refine (HW.out _ (by first | exact Below.refl _ _ | exact (Below.refl _ _).drew)).mono ?_; rintro e w2 ⟨rfl, hb2, hbl2⟩)
        all_goals
          have HB2 := Lib.hid hb2
          have HBL2 := Lib.hid ((Below.refl B w).drew.trans hbl2)
          clear hb2 hbl2 HW
          go_wp2
          go_ret
          exact ⟨rfl, HB2.out, HBL2.out⟩

end Go.Proofs.YtphppdbhofeagaaDoor
