/- asked7, answered7: what the laws on functions given as data ask first. -/
import Derived.Test.YtobnglgnoflbnaaPlaces
import Derived.Test.YtobnglgnoflbnaaWinnow
import Derived.Test.YtobnglgnoflbnaaFits
import Derived.Test.YtobnglgnoflbnaaRight
namespace Go.Proofs.Ytobnglgnoflbnaa
open Go.RowKit
set_option linter.unusedVariables false
set_option linter.unusedSimpArgs false

set_option maxRecDepth 100000 in
theorem answered_any (a : Option Addr) (n cap : Nat) (bs : List Bool) (k : Nat) (w : World) (h : Bools w a n bs) : Calls Try.prog 36 #[.slice a n cap, .int .i64 (k : Int)] w (BoolPost (bs.getD k false) w) := by
  obtain ⟨hl, hm, b, off, ha, hc⟩ := h.open
  by_cases hlt : k < n
  · obtain rfl := ha (by omega)
    have ck := hc k hlt
    have hI : (k : Int) < (n : Int) := by omega
    have g : decide ((k : Int) < (n : Int)) = true := decide_eq_true hI
    obtain ⟨x, hx⟩ : ∃ x, bs.getD k false = x := ⟨_, rfl⟩
    rw [hx] at ck ⊢
    clear h hl ha hc hx
    go_enter Try.func36, Try.ntmps36
    go_wp2
    go_ret
    exact ⟨rfl, rfl⟩
  · have g : decide ((k : Int) < (n : Int)) = false := by simp; omega
    have hx : bs.getD k false = false := by rw [List.getD_eq_getElem?_getD, List.getElem?_eq_none (by omega)]; rfl
    rw [hx]
    clear h hl ha hc hx
    go_enter Try.func36, Try.ntmps36
    go_wp2
    go_ret
    exact ⟨rfl, rfl⟩

def AskedSays (ts : List NodeD) (len : Nat) (zs : List Int) (n m : Nat) (b : Bool) : Prop := b = true → RightT ts len ∧ OrderTo len zs n ∧ m ≤ 300

set_option maxRecDepth 100000 in
set_option maxHeartbeats 1000000 in
theorem asked_any (a : Option Addr) (len cap : Nat) (ts : List NodeD) (a1 : Option Addr) (n1 c1 : Nat) (z1 : List Int) (a2 : Option Addr) (n2 c2 : Nat) (w : World) (hN : Nodes w a len ts) (h1 : Ints w a1 n1 z1) (hm2 : n2 ≤ 9223372036854775807) :
    Calls Try.prog 25 #[.slice a len cap, .slice a1 n1 c1, .slice a2 n2 c2] w (SomeBoolB (AskedSays ts len z1 n1 n2) w) := by
  have HN := Lib.hid hN
  have H1 := Lib.hid h1
  clear hN h1
  go_enter Try.func25, Try.ntmps25
  go_wp2_with fail
  refine (right_any a len cap ts w HN.out).mono ?_
  rintro e w2 ⟨b2, hb2, rfl, hbel2⟩
  have HB2 := Lib.hid hbel2
  clear hbel2
  cases b2
  · go_wp2
    go_ret
    exact ⟨false, by simp [AskedSays], rfl, HB2.out⟩
  have HR := Lib.hid (hb2 rfl)
  clear hb2
  go_wp2_with fail
  refine (order_any a len cap a1 n1 c1 z1 w2 (H1.out.below HB2.out)).mono ?_
  rintro e w3 ⟨b3, hb3, rfl, hbel3⟩
  have HB3 := Lib.hid (HB2.out.trans (hbel3.mono HB2.out.size))
  clear hbel3 HB2
  cases b3
  · go_wp2
    go_ret
    exact ⟨false, by simp [AskedSays], rfl, HB3.out⟩
  have HO := Lib.hid (hb3 rfl)
  clear hb3
  by_cases q : (n2 : Int) ≤ 300
  · have g : decide ((n2 : Int) ≤ 300) = true := by simp [q]
    have HQ := Lib.hid q
    clear q
    go_wp2
    go_ret
    exact ⟨true, fun _ => ⟨HR.out, HO.out, by have := HQ.out; omega⟩, rfl, HB3.out⟩
  · have g : decide ((n2 : Int) ≤ 300) = false := by simp [q]
    clear q
    go_wp2
    go_ret
    exact ⟨false, by simp [AskedSays], rfl, HB3.out⟩

end Go.Proofs.Ytobnglgnoflbnaa
