/- laws.selection, laws.some. -/
import Derived.Test.YtobnglgnoflbnaaPlaces
import Derived.Test.YtobnglgnoflbnaaFits
import Derived.Test.YtobnglgnoflbnaaRight
namespace Go.Proofs.Ytobnglgnoflbnaa
open Go.RowKit
set_option linter.unusedVariables false
set_option linter.unusedSimpArgs false

/-- Elements of a right tree, ascending. -/
def SelSays (ts : List NodeD) (len : Nat) (zs : List Int) (n : Nat) (b : Bool) : Prop := b = true → RightT ts len ∧ OrderTo len zs n ∧ ∀ i, i < n → kd ts (zs.getD i 0).toNat = 3

set_option maxRecDepth 100000 in
set_option maxHeartbeats 1000000 in
theorem selection_any (a : Option Addr) (len cap : Nat) (ts : List NodeD) (a1 : Option Addr) (n1 c1 : Nat) (z1 : List Int) (w : World) (hN : Nodes w a len ts) (h1 : Ints w a1 n1 z1) :
    Calls Try.prog 20 #[.slice a len cap, .slice a1 n1 c1] w (SomeBoolB (SelSays ts len z1 n1) w) := by
  have hm1 := h1.open.2.1
  have HN := Lib.hid hN
  have H1 := Lib.hid h1
  clear hN h1
  go_enter Try.func20, Try.ntmps20
  go_wp2_with fail
  refine (right_any a len cap ts w HN.out).mono ?_
  rintro e w2 ⟨b2, hb2, rfl, hbel2⟩
  have HB2 := Lib.hid hbel2
  clear hbel2
  cases b2
  · go_wp2
    go_ret
    exact ⟨false, by simp [SelSays], rfl, HB2.out⟩
  have HR := Lib.hid (hb2 rfl)
  clear hb2
  go_wp2_with fail
  refine (order_any a len cap a1 n1 c1 z1 w2 (H1.out.below HB2.out)).mono ?_
  rintro e w3 ⟨b3, hb3, rfl, hbel3⟩
  have HB3 := Lib.hid (HB2.out.trans (hbel3.mono HB2.out.size))
  clear hbel3 HB2
  cases b3
  · go_wp2
    go_ret
    exact ⟨false, by simp [SelSays], rfl, HB3.out⟩
  have HO := Lib.hid (hb3 rfl)
  clear hb3
  have hN3 := HN.out.below HB3.out
  have hI3 := H1.out.below HB3.out
  obtain ⟨b, off, rfl, hc⟩ := hN3.at HR.out.pos
  obtain ⟨_, _, b1, off1, ha1, hk1⟩ := hI3.open
  have HC := Lib.hid hc
  have HK := Lib.hid (And.intro ha1 hk1)
  clear hN3 hI3 hc ha1 hk1
  go_wp2
  go_loop [5] (fun i => ∃ k : Nat, k ≤ n1 ∧ i = .int .i64 (k : Int) ∧ ∀ j, j < k → kd ts (z1.getD j 0).toNat = 3) (fun i => n1 - (intOf i).toNat)
  case atStart => exact ⟨0, by omega, by go_num, fun j hj => by omega⟩
  case round =>
    obtain ⟨k, hk, rfl, hd⟩ := hrel
    have HD := Lib.hid hd
    clear hd
    by_cases hlt : k < n1
    · obtain rfl := HK.out.1 (by omega)
      have ck := HK.out.2 k hlt
      obtain ⟨y1, y2, _⟩ := HO.out k hlt
      have cc := (HC.out (z1.getD k 0).toNat (by omega)).kind
      have hkd : kd ts (z1.getD k 0).toNat = (ts.getD (z1.getD k 0).toNat default).kind := rfl
      obtain ⟨x, hx⟩ : ∃ x : Nat, z1.getD k 0 = (x : Int) := ⟨(z1.getD k 0).toNat, by omega⟩
      rw [hx, Int.toNat_natCast] at cc hkd
      rw [hx] at ck y2
      have hxn : x < len := by omega
      have hkI : (k : Int) < (n1 : Int) := by omega
      obtain ⟨q, hq⟩ : ∃ q, (ts.getD x default).kind = q := ⟨_, rfl⟩
      rw [hq] at cc hkd
      have HX := Lib.hid (And.intro hx hkd)
      clear hx hq hkd y1
      by_cases he : q = 3
      · subst he
        go_wp2
        go_round
        case rel => exact ⟨k + 1, by omega, by go_num, fun j hj => by
            by_cases e : j = k
            · subst e; rw [HX.out.1, Int.toNat_natCast]; exact HX.out.2
            · exact HD.out j (by omega)⟩
        case measure => simp [intOf]; omega
      · have g : (q != 3) = true := by simp [he]
        clear he
        go_wp2
        go_ret
        exact ⟨false, by simp [SelSays], rfl, HB3.out⟩
    · obtain rfl : k = n1 := by omega
      go_wp2
      go_ret
      exact ⟨true, fun _ => ⟨HR.out, HO.out, HD.out⟩, rfl, HB3.out⟩

set_option maxRecDepth 100000 in
set_option maxHeartbeats 1000000 in
theorem some_any (a : Option Addr) (len cap : Nat) (ts : List NodeD) (a1 : Option Addr) (n1 c1 : Nat) (z1 : List Int) (a2 : Option Addr) (n2 c2 : Nat) (z2 : List Int) (w : World) (hN : Nodes w a len ts) (h1 : Ints w a1 n1 z1) (h2 : Ints w a2 n2 z2) :
    Calls Try.prog 32 #[.slice a len cap, .slice a1 n1 c1, .slice a2 n2 c2] w (SomeBoolB (fun b => b = true → SelSays ts len z1 n1 true ∧ SelSays ts len z2 n2 true) w) := by
  have HN := Lib.hid hN
  have H1 := Lib.hid h1
  have H2 := Lib.hid h2
  clear hN h1 h2
  go_enter Try.func32, Try.ntmps32
  go_wp2_with fail
  refine (selection_any a len cap ts a1 n1 c1 z1 w HN.out H1.out).mono ?_
  rintro e w2 ⟨b2, hb2, rfl, hbel2⟩
  have HB2 := Lib.hid hbel2
  clear hbel2
  cases b2
  · go_wp2
    go_ret
    exact ⟨false, by simp, rfl, HB2.out⟩
  have HS := Lib.hid hb2
  clear hb2
  go_wp2_with fail
  refine (selection_any a len cap ts a2 n2 c2 z2 w2 (HN.out.below HB2.out) (H2.out.below HB2.out)).mono ?_
  rintro e w3 ⟨b3, hb3, rfl, hbel3⟩
  have HB3 := Lib.hid (HB2.out.trans (hbel3.mono HB2.out.size))
  have HS3 := Lib.hid hb3
  clear hbel3 HB2 hb3
  go_wp2
  go_ret
  exact ⟨b3, fun hb => ⟨HS.out, by rw [hb] at HS3; exact HS3.out⟩, rfl, HB3.out⟩

end Go.Proofs.Ytobnglgnoflbnaa
