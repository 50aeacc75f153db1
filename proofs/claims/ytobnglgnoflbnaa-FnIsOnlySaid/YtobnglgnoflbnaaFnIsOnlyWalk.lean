/- The walk of FnIsOnly. -/
import Derived.Test.YtobnglgnoflbnaaOnlySel
import Derived.Test.YtobnglgnoflbnaaFits
import Derived.BigGuardPart
namespace Go.Proofs.Ytobnglgnoflbnaa.lawFnIsOnly
open Go.RowKit
set_option linter.unusedVariables false
set_option linter.unusedSimpArgs false

set_option maxRecDepth 100000 in
set_option maxHeartbeats 2000000 in
theorem walk {W : World} (a : Option Addr) (len cap : Nat) (ts : List NodeD) (h : Nodes W a len ts ∧ len ≤ cap ∧ cap ≤ maxLen) (z : Int) {P : Prop} (_ : P) (ty : Bool) :
    Calls Try.prog 4 #[.slice a len cap, .int .i64 z, .bool ty] W (YesB W) := by
  have HN := Lib.hid h.1
  have hal := lawsAloneOnly_any ty
  have himp := fun w' hR hN x hx hk p hp => implIsOnly_any w' a len cap ts hR hN x hx hk p hp ty
  clear h
  have hfl0 : flagI false = 0 := rfl
  have hfl2 : flagI true = 2 := rfl
  cases ty
  · rw [hfl0] at hal himp
    have HAL := Lib.hid hal
    have HIMP := Lib.hid himp
    clear hal himp hfl0 hfl2
    go_enter Try.func4, Try.ntmps4
    go_wp2_with fail
    refine (fits1_any a len cap ts W HN.out).mono ?_
    rintro e w1 ⟨b1, _, rfl, hb1⟩
    have HB1 := Lib.hid hb1
    clear hb1
    cases b1
    · go_wp2
      go_ret
      exact ⟨rfl, HB1.out⟩
    go_wp2_with fail
    refine (HAL.out a len cap ts z w1 (HN.out.below HB1.out)).mono ?_
    rintro e w2 ⟨want, sure, rfl, hs, hb2⟩
    have HB2 := Lib.hid (HB1.out.trans (hb2.out.mono HB1.out.size))
    clear hb2 HB1 HAL
    cases sure
    · go_wp2
      go_ret
      exact ⟨rfl, HB2.out⟩
    obtain ⟨hR, x, p, rfl, hx, hk, hp, hw⟩ := hs.out rfl
    have hcall := HIMP.out w2 hR (HN.out.below HB2.out) x hx hk p hp
    rw [← hw] at hcall
    have HC := Lib.hid hcall
    clear hs hR hk hp hw hcall HIMP
    go_wp2_with fail
    refine HC.out.mono ?_
    rintro e w3 ⟨rfl, hb3⟩
    have HB3 := Lib.hid (HB2.out.trans (hb3.out.mono HB2.out.size))
    clear hb3 HC HB2
    cases want
    · go_wp2
      go_ret
      exact ⟨rfl, HB3.out⟩
    · go_wp2
      go_ret
      exact ⟨rfl, HB3.out⟩
  · rw [hfl2] at hal himp
    have HAL := Lib.hid hal
    have HIMP := Lib.hid himp
    clear hal himp hfl0 hfl2
    go_enter Try.func4, Try.ntmps4
    go_wp2_with fail
    refine (fits1_any a len cap ts W HN.out).mono ?_
    rintro e w1 ⟨b1, _, rfl, hb1⟩
    have HB1 := Lib.hid hb1
    clear hb1
    cases b1
    · go_wp2
      go_ret
      exact ⟨rfl, HB1.out⟩
    go_wp2_with fail
    refine (HAL.out a len cap ts z w1 (HN.out.below HB1.out)).mono ?_
    rintro e w2 ⟨want, sure, rfl, hs, hb2⟩
    have HB2 := Lib.hid (HB1.out.trans (hb2.out.mono HB1.out.size))
    clear hb2 HB1 HAL
    cases sure
    · go_wp2
      go_ret
      exact ⟨rfl, HB2.out⟩
    obtain ⟨hR, x, p, rfl, hx, hk, hp, hw⟩ := hs.out rfl
    have hcall := HIMP.out w2 hR (HN.out.below HB2.out) x hx hk p hp
    rw [← hw] at hcall
    have HC := Lib.hid hcall
    clear hs hR hk hp hw hcall HIMP
    go_wp2_with fail
    refine HC.out.mono ?_
    rintro e w3 ⟨rfl, hb3⟩
    have HB3 := Lib.hid (HB2.out.trans (hb3.out.mono HB2.out.size))
    clear hb3 HC HB2
    cases want
    · go_wp2
      go_ret
      exact ⟨rfl, HB3.out⟩
    · go_wp2
      go_ret
      exact ⟨rfl, HB3.out⟩

end Go.Proofs.Ytobnglgnoflbnaa.lawFnIsOnly
