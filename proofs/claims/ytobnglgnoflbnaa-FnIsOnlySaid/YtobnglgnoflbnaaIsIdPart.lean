/- The walk of FnIsId, from bareSel's answer. -/
import Derived.Test.YtobnglgnoflbnaaAloneId
import Derived.Test.YtobnglgnoflbnaaFits
import Derived.BigGuardPart
namespace Go.Proofs.Ytobnglgnoflbnaa.lawFnIsId
open Go.RowKit
set_option linter.unusedVariables false
set_option linter.unusedSimpArgs false

set_option maxRecDepth 100000 in
set_option maxHeartbeats 2000000 in
theorem walk_of {W : World} (a : Option Addr) (len cap : Nat) (ts : List NodeD) (hN : Nodes W a len ts) (z : Int) (id : ByteArray) (hid : id.size ≤ maxLen) (hbare : BareAnswers id) :
    Calls Try.prog 3 #[.slice a len cap, .int .i64 z, .string id] W (YesB W) := by
  unfold maxLen at hid
  have HN := Lib.hid hN
  have HBARE := Lib.hid hbare
  clear hN hbare
  go_enter Try.func3, Try.ntmps3
  go_wp2_with fail
  refine (fits1_any a len cap ts W HN.out).mono ?_
  rintro e w1 ⟨b1, _, rfl, hb1⟩
  have HB1 := Lib.hid hb1
  clear hb1
  cases b1
  · go_wp2
    go_ret
    exact ⟨rfl, HB1.out⟩
  by_cases q1 : (2147483647 : Int) < (id.size : Int)
  · have g1 : decide ((2147483647 : Int) < (id.size : Int)) = true := by simp [q1]
    have g1n : decide (2147483647 < id.size) = true := by simp; omega
    clear q1
    go_wp2
    go_ret
    exact ⟨rfl, HB1.out⟩
  have g1 : decide ((2147483647 : Int) < (id.size : Int)) = false := by simp [q1]
  have g1n : decide (2147483647 < id.size) = false := by simp; omega
  clear q1
  go_wp2_with fail
  refine (lawsAloneId_any a len cap ts z id w1 (HN.out.below HB1.out) HBARE.out).mono ?_
  rintro e w2 ⟨want, sure, rfl, hs, hb2⟩
  have HB2 := Lib.hid (HB1.out.trans (hb2.out.mono HB1.out.size))
  clear hb2 HB1
  cases sure
  · go_wp2
    go_ret
    exact ⟨rfl, HB2.out⟩
  obtain ⟨hR, x, rfl, hx, hk, hw⟩ := hs.out rfl
  have hcall := implIsId_any w2 a len cap ts hR (HN.out.below HB2.out) x hx hk id
  rw [← hw] at hcall
  have HC := Lib.hid hcall
  clear hs hR hk hw hcall
  go_wp2_with fail
  refine HC.out.mono ?_
  rintro e w3 ⟨rfl, hb3⟩
  have HB3 := Lib.hid (HB2.out.trans (hb3.out.mono HB2.out.size))
  clear hb3 HC HB2
  cases want
  · go_wp2
    go_ret
    exact ⟨rfl, HB3.out⟩
  · go_wp2
    go_ret
    exact ⟨rfl, HB3.out⟩

end Go.Proofs.Ytobnglgnoflbnaa.lawFnIsId
