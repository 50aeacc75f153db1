/- impl.chosen: a selection of some places. -/
import Derived.Test.YtphppdbhofeagaaDoorSelBase
import Derived.Test.YtphppdbhofeagaaDoorGrowAll
namespace Go.Proofs.YtphppdbhofeagaaDoor
open Go.RowKit
set_option linter.unusedVariables false
set_option linter.unusedSimpArgs false

/-- A document with its selection. -/
def ChosenPost (ts : List NodeD) (len : Nat) (l : List Nat) (W : World) (e : Ending) (w : World) : Prop :=
  ∃ bl nb vv s v, e = .returned (.tuple #[.pointer (some ⟨s, 0, none⟩), .slice (some ⟨bl, 0, none⟩) len len, .bool true]) ∧ Hid (Forest W.heap.size w bl len nb vv ts) ∧ Hid (SelAt w s v (l.map nb) W.heap.size) ∧ Hid (Below W.heap.size W w)

def AmongPost (bl len lcap : Nat) (l : List Nat) (w : World) (e : Ending) (w' : World) : Prop :=
  ∃ s v, e = .returned (.tuple #[.pointer (some ⟨s, 0, none⟩), .slice (some ⟨bl, 0, none⟩) len lcap, .bool true]) ∧ Hid (SelAt w' s v l w.heap.size) ∧ Hid (Below w.heap.size w w')

set_option maxRecDepth 100000 in
set_option maxHeartbeats 1000000 in
theorem among_any {B : Nat} (w : World) (bl len lcap : Nat) (nb : Nat → Nat) (vv : Nat → Value) (ts : List NodeD) (hF : Forest B w bl len nb vv ts) (h0 : 0 < len) (hlen : len ≤ 200) (v : Value) (l : List Nat) (h : ReadsAs w v (l.map intV)) (hin : ∀ i ∈ l, i < len) (hon : Once l) (hn : l.length ≤ 200) :
    Calls Tryd.prog 25 #[.slice (some ⟨bl, 0, none⟩) len lcap, v, .bool true] w (AmongPost bl len lcap (l.map nb) w) := by
  have hth := these_any bl len lcap nb v l w (fun i hi => hF.cell hi) hlen h hin hn
  have HTH := Lib.hid hth
  have HF := Lib.hid hF
  have HIN := Lib.hid hin
  have HON := Lib.hid hon
  clear hth hF h hin hon
  go_enter Tryd.func25, Tryd.ntmps25
  go_wp2_with fail
  refine HTH.out.mono ?_
  rintro e w1 ⟨some_, rfl, ho, hb⟩
  have hF1 := HF.out.below hb.out
  have c0 := hF1.cell h0
  have HF1 := Lib.hid hF1
  clear hF1 HTH
  go_wp2_with fail
  refine (newDoc_any _ _).mono ?_
  rintro e w2 ⟨d, s, a, rfl, k0, k1, k2, hb2⟩
  have HB2 := Lib.hid hb2
  clear hb2 c0
  go_wp2_with fail
  refine (eq1_any s d a w2 k1 k2).mono ?_
  rintro e w3 ⟨s3, rfl, m0, m1, hb3⟩
  have HB3 := Lib.hid hb3
  have hb13 : Below w1.heap.size w1 w3 := HB2.out.trans (HB3.out.mono HB2.out.size)
  have hF3 := HF1.out.below hb13
  have hown3 : OwnPtrs w3 w.heap.size some_ (l.map nb) := ownsRow_kept ho.out (fun k hk => hb13.block k (World.ownsRow.lt ho.out k hk).2)
  have hadd := addNodes_any s3 d some_ (l.map nb) w3 m0 m1 hown3.ptrs (hF3.alive HIN.out) (hF3.once HIN.out HON.out) (by simpa using hn)
  have HB13 := Lib.hid hb13
  have HADD := Lib.hid hadd
  clear hb3 hb13 hF3 hown3 hadd k0 k1 k2 m0 m1
  go_wp2_with fail
  refine HADD.out.mono ?_
  rintro e w4 ⟨s4, v4, rfl, hs4, hb4⟩
  have hb03 : Below w.heap.size w w3 := hb.out.trans (HB13.out.mono hb.out.size)
  have hb04 : Hid (Below w.heap.size w w4) := Lib.hid (hb03.trans (hb4.out.mono hb03.size))
  have hs := Lib.hid (hs4.out.weaken hb03.size)
  clear hs4 hb03 HADD
  go_wp2
  go_ret3
  exact ⟨s4, v4, rfl, hs, hb04⟩

set_option maxRecDepth 100000 in
set_option maxHeartbeats 1000000 in
theorem chosen_any (W : World) (a : Option Addr) (len cap : Nat) (ts : List NodeD) (hR : RightT ts len) (hN : Nodes W a len ts) (v : Value) (l : List Nat) (h : ReadsAs W v (l.map intV)) (hin : ∀ i ∈ l, i < len) (hon : Once l) (hn : l.length ≤ 200) :
    Calls Tryd.prog 14 #[.slice a len cap, v] W (ChosenPost ts len l W) := by
  have hlen := hR.le
  have hpos := hR.pos
  have hg := grown_any W a len cap ts hR hN
  have HG := Lib.hid hg
  have HR := Lib.hid hR
  have HV := Lib.hid h
  have HIN := Lib.hid hin
  have HON := Lib.hid hon
  clear hg hR hN h hin hon
  go_enter Tryd.func14, Tryd.ntmps14
  go_wp2_with fail
  refine HG.out.mono ?_
  rintro e w1 ⟨bl, nb, vv, rfl, hF, hb⟩
  have ham := among_any w1 bl len len nb vv ts hF.out hpos hlen v l (HV.out.below hb.out) HIN.out HON.out hn
  have HAM := Lib.hid ham
  clear ham HG
  go_wp2_with fail
  refine HAM.out.mono ?_
  rintro e w2 ⟨s, v2, rfl, hs, hb2⟩
  have hF2 := Lib.hid (hF.out.below hb2.out)
  have hB2 := Lib.hid (hb.out.trans (hb2.out.mono hb.out.size))
  have hs2 := Lib.hid (hs.out.weaken hb.out.size)
  clear HAM
  go_wp2
  go_ret3
  exact ⟨bl, nb, vv, s, v2, rfl, hF2, hs2, hB2⟩

end Go.Proofs.YtphppdbhofeagaaDoor
