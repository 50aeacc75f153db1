/- impl.IsContaining, IsContainingOwn. -/
import Derived.Test.YtikimffifkiinaaDoorContaining
namespace Go.Proofs.YtikimffifkiinaaDoor
open Go.RowKit
set_option linter.unusedVariables false
set_option linter.unusedSimpArgs false

def IsOkPost (Q : Prop) (w : World) (e : Ending) (w' : World) : Prop := ∃ b : Bool, e = .returned (.tuple #[.bool b, .bool true]) ∧ (b = true ↔ Q) ∧ Below w.heap.size w w'

set_option maxRecDepth 100000 in
set_option maxHeartbeats 4000000 in
theorem implContaining_any (W : World) (a : Option Addr) (len cap : Nat) (ts : List NodeD) (hR : RightT ts len) (h : Nodes W a len ts) {x : Nat} (hx : x < len) (h0 : 0 < x) (p : ByteArray) (hp : p.size ≤ 1000)
    (hs : (whole ts x false).size ≤ 4611686018427387904) (hn : NoCap (whole ts x false).data.toList) :
    Calls Tryd.prog 10 #[.slice a len cap, .int .i64 (x : Int), .string p] W (IsOkPost (Has (whole ts x false) p) W) := by
  have hg := grown_any W a len cap ts hR h
  have hl := h.len.1
  have hle := hR.le
  have hcon := fun (w : World) (bl : Nat) (nb : Nat → Nat) (vv : Nat → Value) (hF : Forest W.heap.size w bl len nb vv ts) => isContaining_any w hF hR hl hx h0 p hp false hs hn
  have HG := Lib.hid hg
  have HC := Lib.hid hcon
  have hxI : (x : Int) < (len : Int) := by omega
  have d0 : decide ((x : Int) < 0) = false := by simp
  have d1 : decide ((len : Int) ≤ (x : Int)) = false := by simp; omega
  clear hg hcon hR h hs hn
  go_enter Tryd.func10, Tryd.ntmps10
  go_wp2_with fail
  refine HG.out.mono ?_
  rintro e w1 ⟨bl, nb, vv, rfl, hF, hb1⟩
  have cx := hF.out.cell hx
  have hcall := HC.out w1 bl nb vv hF.out
  have HCL := Lib.hid hcall
  have HB1 := Lib.hid hb1.out
  clear hF hcall hb1
  go_wp2_with fail
  refine HCL.out.mono ?_
  rintro e w2 ⟨b, rfl, hb, hb2⟩
  have HB2 := Lib.hid (And.intro hb (HB1.out.trans (hb2.mono HB1.out.size)))
  clear hb hb2
  go_wp2
  go_ret2
  exact ⟨b, rfl, HB2.out.1, HB2.out.2⟩

set_option maxRecDepth 100000 in
set_option maxHeartbeats 4000000 in
theorem implContainingOwn_any (W : World) (a : Option Addr) (len cap : Nat) (ts : List NodeD) (hR : RightT ts len) (h : Nodes W a len ts) {x : Nat} (hx : x < len) (h0 : 0 < x) (p : ByteArray) (hp : p.size ≤ 1000)
    (hs : (whole ts x true).size ≤ 4611686018427387904) (hn : NoCap (whole ts x true).data.toList) :
    Calls Tryd.prog 12 #[.slice a len cap, .int .i64 (x : Int), .string p] W (IsOkPost (Has (whole ts x true) p) W) := by
  have hg := grown_any W a len cap ts hR h
  have hl := h.len.1
  have hle := hR.le
  have hcon := fun (w : World) (bl : Nat) (nb : Nat → Nat) (vv : Nat → Value) (hF : Forest W.heap.size w bl len nb vv ts) => isContaining_any w hF hR hl hx h0 p hp true hs hn
  have HG := Lib.hid hg
  have HC := Lib.hid hcon
  have hxI : (x : Int) < (len : Int) := by omega
  have d0 : decide ((x : Int) < 0) = false := by simp
  have d1 : decide ((len : Int) ≤ (x : Int)) = false := by simp; omega
  clear hg hcon hR h hs hn
  go_enter Tryd.func12, Tryd.ntmps12
  go_wp2_with fail
  refine HG.out.mono ?_
  rintro e w1 ⟨bl, nb, vv, rfl, hF, hb1⟩
  have cx := hF.out.cell hx
  have hcall := HC.out w1 bl nb vv hF.out
  have HCL := Lib.hid hcall
  have HB1 := Lib.hid hb1.out
  clear hF hcall hb1
  go_wp2_with fail
  refine HCL.out.mono ?_
  rintro e w2 ⟨b, rfl, hb, hb2⟩
  have HB2 := Lib.hid (And.intro hb (HB1.out.trans (hb2.mono HB1.out.size)))
  clear hb hb2
  go_wp2
  go_ret2
  exact ⟨b, rfl, HB2.out.1, HB2.out.2⟩

end Go.Proofs.YtikimffifkiinaaDoor
