/- The walk of FnIsContaining. -/
import Derived.Test.YtikimffifkiinaaDoorImplContaining
import Derived.Test.YtikimffifkiinaaDoorHolds
import Derived.Test.YtikimffifkiinaaDoorFits
namespace Go.Proofs.YtikimffifkiinaaDoor
open Go.RowKit
set_option linter.unusedVariables false
set_option linter.unusedSimpArgs false

theorem str_of {s : ByteArray} {l : List UInt8} (h : s.data.toList = l) : s = ⟨l.toArray⟩ := by
  cases s with
  | mk d => simp at h; subst h; simp

theorem whole_small {ts : List NodeD} {len x : Nat} (hR : RightT ts len) (hl : ts.length = len) (hx : x < len) (own : Bool) : (whole ts x own).size ≤ 4611686018427387904 := by
  have hfit := hR.nest.fit x hx
  have hle := hR.le
  cases own
  · have := txts_length (hR.text_le hl) x (sz ts x)
    show (⟨(txts ts x (sz ts x)).toArray⟩ : ByteArray).size ≤ _
    rw [size_of]
    show (txts ts x (sz ts x)).toArray.toList.length ≤ _
    rw [List.toList_toArray]
    omega
  · have := txtL_length (hR.text_le hl) (kids (sz ts) x)
    have h2 : (kids (sz ts) x).length ≤ 200 := by rw [kids_lb hR.nest hx]; exact Nat.le_trans (lb_length_le _) hle
    show (⟨(txtL ts (kids (sz ts) x)).toArray⟩ : ByteArray).size ≤ _
    rw [size_of]
    show (txtL ts (kids (sz ts) x)).toArray.toList.length ≤ _
    rw [List.toList_toArray]
    omega

def WithinPost (b : Bool) (w : World) (e : Ending) (w' : World) : Prop := e = .returned (.bool b) ∧ w = w'

set_option maxRecDepth 100000 in
theorem within_any (a : Option Addr) (len cap : Nat) (z : Int) (w : World) (hl : len ≤ 9223372036854775807) :
    Calls Tryd.prog 7 #[.slice a len cap, .int .i64 z] w (WithinPost (decide (0 ≤ z) && decide (z < (len : Int))) w) := by
  cases h1 : decide (0 ≤ z)
  · have h1' := of_decide_eq_false h1
    go_enter Tryd.func7, Tryd.ntmps7
    go_wp2
    go_ret
    exact ⟨by simp, rfl⟩
  · have h1' := of_decide_eq_true h1
    cases h2 : decide (z < (len : Int))
    · have h2' := of_decide_eq_false h2
      go_enter Tryd.func7, Tryd.ntmps7
      go_wp2
      go_ret
      exact ⟨by simp, rfl⟩
    · have h2' := of_decide_eq_true h2
      go_enter Tryd.func7, Tryd.ntmps7
      go_wp2
      go_ret
      exact ⟨by simp, rfl⟩

namespace lawFnIsContaining

set_option maxRecDepth 100000 in
set_option maxHeartbeats 8000000 in
theorem walk {W : World} (a : Option Addr) (len cap : Nat) (ts : List NodeD) (h : Nodes W a len ts ∧ len ≤ cap ∧ cap ≤ maxLen) (z : Int) {P : Prop} (_ : P) (p : ByteArray) (hp : p.size ≤ maxLen) (own : Bool) :
    Calls Tryd.prog 4 #[.slice a len cap, .int .i64 z, .string p, .bool own] W (YesB W) := by
  have HN := Lib.hid h.1
  have hm := h.1.len.2
  have hl := h.1.len.1
  unfold maxLen at hp
  clear h
  go_enter Tryd.func4, Tryd.ntmps4
  go_wp2_with fail
  refine (fits1_any a len cap ts W HN.out).mono ?_
  rintro e w1 ⟨b1, _, rfl, hb1⟩
  have HB1 := Lib.hid hb1
  clear hb1
  cases b1
  · go_wp2
    go_ret
    exact ⟨rfl, HB1.out⟩
  by_cases hbig : 2147483647 < p.size
  · have hbigI : (2147483647 : Int) < (p.size : Int) := by omega
    go_wp2
    go_ret
    exact ⟨rfl, HB1.out⟩
  have hbigI : ¬ (2147483647 : Int) < (p.size : Int) := by omega
  go_wp2_with fail
  refine (right_any a len cap ts w1 (HN.out.below HB1.out)).mono ?_
  rintro e w2 ⟨b2, hb2, rfl, hbel2⟩
  have HB2 := Lib.hid (HB1.out.trans (hbel2.mono HB1.out.size))
  clear hbel2 HB1
  cases b2
  · go_wp2
    go_ret
    exact ⟨rfl, HB2.out⟩
  have HR := Lib.hid (hb2 rfl)
  clear hb2
  go_wp2_with fail
  refine (within_any a len cap z w2 hm).mono ?_
  rintro e w3 ⟨rfl, rfl⟩
  by_cases hz : 0 ≤ z ∧ z < (len : Int)
  rotate_left
  · have hf : (decide (0 ≤ z) && decide (z < (len : Int))) = false := by
      rw [Bool.and_eq_false_iff, decide_eq_false_iff_not, decide_eq_false_iff_not]; omega
    rw [hf]
    clear hz hf
    go_wp2
    go_ret
    exact ⟨rfl, HB2.out⟩
  obtain ⟨x, rfl⟩ := Int.eq_ofNat_of_zero_le hz.1
  have hx : x < len := by omega
  have ht : (decide (0 ≤ (x : Int)) && decide ((x : Int) < (len : Int))) = true := by simp; exact hx
  rw [ht]
  have hxI : (x : Int) < (len : Int) := hz.2
  clear ht hz
  obtain ⟨b, of_, rfl, hc⟩ := (HN.out.below HB2.out).at (by omega)
  have c0 := (hc x hx).kind
  clear hc
  by_cases h3 : (ts.getD x default).kind = 3
  rotate_left
  · obtain ⟨q, hq⟩ : ∃ q, (ts.getD x default).kind = q := ⟨_, rfl⟩
    rw [hq] at c0 h3
    have h3' : (q != 3) = true := by simpa using h3
    clear hq h3
    go_wp2
    go_ret
    exact ⟨rfl, HB2.out⟩
  rw [h3] at c0
  have h0 : 0 < x := by
    rcases Nat.eq_zero_or_pos x with rfl | h
    · have := HR.out.kind
      unfold kd at this
      omega
    · exact h
  by_cases h100 : 100 < p.size
  · have h100I : (100 : Int) < (p.size : Int) := by omega
    go_wp2
    go_ret
    exact ⟨rfl, HB2.out⟩
  have h100I : ¬ (100 : Int) < (p.size : Int) := by omega
  clear h3
  have hM : ∀ i, (ts.getD i default).text.size ≤ 2147483647 := fun i => Nat.le_trans (HR.out.text_le hl i) (by omega)
  have hfit : ∀ j, j < len → j + sz ts j ≤ len := fun j hj => HR.out.nest.fit j hj
  have hto := fun (w : World) (hb : Below W.heap.size W w) => textOf_any (some ⟨b, of_, none⟩) len cap ts x w (HN.out.below hb) HR.out.sizes hfit hx HR.out.le hM
  have hown := fun (w : World) (hb : Below W.heap.size W w) => ownText_any (some ⟨b, of_, none⟩) len cap ts x w (HN.out.below hb) HR.out.sizes hfit hx HR.out.le (fun k hk => (kids_mem HR.out.nest hx hk).2.2) (by rw [kids_lb HR.out.nest hx]; exact Nat.le_trans (lb_length_le _) HR.out.le) hM
  have hhold := fun (w : World) (o : Bool) => holdsDoor_any (whole ts x o) p w (whole_small HR.out hl hx o) (by omega)
  have hd1 := fun (w : World) (hb : Below W.heap.size W w) (hn : NoCap (whole ts x false).data.toList) => implContaining_any w (some ⟨b, of_, none⟩) len cap ts HR.out (HN.out.below hb) hx h0 p (by omega) (whole_small HR.out hl hx false) hn
  have hd2 := fun (w : World) (hb : Below W.heap.size W w) (hn : NoCap (whole ts x true).data.toList) => implContainingOwn_any w (some ⟨b, of_, none⟩) len cap ts HR.out (HN.out.below hb) hx h0 p (by omega) (whole_small HR.out hl hx true) hn
  have HTO := Lib.hid hto
  have HOWN := Lib.hid hown
  have HHOLD := Lib.hid hhold
  have HD1 := Lib.hid hd1
  have HD2 := Lib.hid hd2
  clear hto hown hhold hd1 hd2 hM hfit
  go_wp2_with fail
  refine (HTO.out w2 HB2.out).mono ?_
  rintro e w3 ⟨s, rfl, hs, hb3⟩
  have HB3 := Lib.hid (HB2.out.trans (hb3.mono HB2.out.size))
  have hs' : s = whole ts x false := str_of hs
  subst hs'
  clear hs hb3
  cases own
  · go_wp2_with fail
    refine (HHOLD.out w3 false).mono ?_
    rintro e w4 ⟨t, rfl, hb4, ht⟩
    have HB4 := Lib.hid (HB3.out.trans (hb4.mono HB3.out.size))
    clear hb4
    rcases ht with rfl | ⟨hn, ⟨rfl, hh⟩ | ⟨rfl, hh⟩⟩
    · go_wp2
      go_ret
      exact ⟨rfl, HB4.out⟩
    · have hcall := HD1.out w4 HB4.out hn
      have HCL := Lib.hid hcall
      have HH := Lib.hid hh
      clear hcall hn hh
      go_wp2_with fail
      refine HCL.out.mono ?_
      rintro e w9 ⟨r, rfl, hr, hb9⟩
      have HB9 := Lib.hid (HB4.out.trans (hb9.mono HB4.out.size))
      obtain rfl : r = true := hr.2 HH.out
      clear hb9 hr
      go_wp2
      go_ret
      exact ⟨rfl, HB9.out⟩
    · have hcall := HD1.out w4 HB4.out hn
      have HCL := Lib.hid hcall
      have HH := Lib.hid hh
      clear hcall hn hh
      go_wp2_with fail
      refine HCL.out.mono ?_
      rintro e w9 ⟨r, rfl, hr, hb9⟩
      have HB9 := Lib.hid (HB4.out.trans (hb9.mono HB4.out.size))
      obtain rfl : r = false := by
        cases r with
        | false => rfl
        | true => exact absurd (hr.1 rfl) HH.out
      clear hb9 hr
      go_wp2
      go_ret
      exact ⟨rfl, HB9.out⟩
  · go_wp2_with fail
    refine (HOWN.out w3 HB3.out).mono ?_
    rintro e w4 ⟨s, rfl, hs, hb4⟩
    have HB5 := Lib.hid (HB3.out.trans (hb4.mono HB3.out.size))
    have hs' : s = whole ts x true := str_of hs
    subst hs'
    clear hs hb4
    go_wp2_with fail
    refine (HHOLD.out w4 true).mono ?_
    rintro e w5 ⟨t, rfl, hb5, ht⟩
    have HB4 := Lib.hid (HB5.out.trans (hb5.mono HB5.out.size))
    clear hb5
    rcases ht with rfl | ⟨hn, ⟨rfl, hh⟩ | ⟨rfl, hh⟩⟩
    · go_wp2
      go_ret
      exact ⟨rfl, HB4.out⟩
    · have hcall := HD2.out w5 HB4.out hn
      have HCL := Lib.hid hcall
      have HH := Lib.hid hh
      clear hcall hn hh
      go_wp2_with fail
      refine HCL.out.mono ?_
      rintro e w9 ⟨r, rfl, hr, hb9⟩
      have HB9 := Lib.hid (HB4.out.trans (hb9.mono HB4.out.size))
      obtain rfl : r = true := hr.2 HH.out
      clear hb9 hr
      go_wp2
      go_ret
      exact ⟨rfl, HB9.out⟩
    · have hcall := HD2.out w5 HB4.out hn
      have HCL := Lib.hid hcall
      have HH := Lib.hid hh
      clear hcall hn hh
      go_wp2_with fail
      refine HCL.out.mono ?_
      rintro e w9 ⟨r, rfl, hr, hb9⟩
      have HB9 := Lib.hid (HB4.out.trans (hb9.mono HB4.out.size))
      obtain rfl : r = false := by
        cases r with
        | false => rfl
        | true => exact absurd (hr.1 rfl) HH.out
      clear hb9 hr
      go_wp2
      go_ret
      exact ⟨rfl, HB9.out⟩

end lawFnIsContaining

end Go.Proofs.YtikimffifkiinaaDoor
