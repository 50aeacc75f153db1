/- impl.chosen: the selection's row lies behind the nodes. (Printed by gen_wkchosen.py.) -/
import Derived.Test.YtphppdbhofeagaaGreatWkOffAll
import Derived.Test.YtphppdbhofeagaaGreatChosen
namespace Go.Proofs.YtphppdbhofeagaaGreat
open Go.RowKit
set_option linter.unusedVariables false
set_option linter.unusedSimpArgs false

def SelPostN (l : List Nat) (w : World) (e : Ending) (w' : World) : Prop :=
  ∃ s v, e = .returned (.pointer (some ⟨s, 0, none⟩)) ∧ Hid (SelAt w' s v l w.heap.size) ∧ Hid (v.ownBlock ≠ some s) ∧ Hid (Below w.heap.size w w')

theorem SelAt.next0 {w : World} {s B : Nat} {v : Value} {l : List Nat} (h : SelAt w s v l B) (hne : v.ownBlock ≠ some s) : SelO w s v l B := ⟨h.nodes, h.doc, OwnPtrs.off h.own, h.base, hne⟩

/-- The document, and the selection behind it. -/
def ChosenPostN (ts : List NodeD) (len : Nat) (l : List Nat) (W : World) (e : Ending) (w : World) : Prop :=
  ∃ bl nb vv s v wg, e = .returned (.tuple #[.pointer (some ⟨s, 0, none⟩), .slice (some ⟨bl, 0, none⟩) len len, .bool true]) ∧ Hid (Forest W.heap.size wg bl len nb vv ts) ∧ Hid (Below W.heap.size W wg) ∧ Hid (SelO w s v (l.map nb) wg.heap.size) ∧ Hid (Below wg.heap.size wg w)

set_option maxRecDepth 100000 in
set_option maxHeartbeats 1000000 in
theorem addNodesN_any (s d : Nat) (v : Value) (l : List Nat) (w : World) (c0 : w.cell? ⟨s, 0, none⟩ = some (.slice none 0 0)) (c1 : w.cell? ⟨s, 1, none⟩ = some (.pointer (some ⟨d, 0, none⟩))) (h : PtrsOf w v l) (hal : ∀ i, i < l.length → Alive w (l.getD i 0)) (hon : Once l) (hn : l.length ≤ 200) :
    Calls Tryz.prog 51 #[.pointer (some ⟨s, 0, none⟩), v] w (SelPostN l w) := by
  have hno := noDup_any v l w h hal hon hn
  have HNO := Lib.hid hno
  clear h hal hon hno
  go_enter Tryz.func51, Tryz.ntmps51
  go_wp2_with fail
  refine HNO.out.mono ?_
  rintro e w1 ⟨v', rfl, ho, hb⟩
  have c1' := cell_below hb.out c1
  obtain ⟨a', cap', hv, _⟩ := ho.out.ptrs.nil
  rw [List.length_map] at hv
  subst hv
  clear c0 c1 HNO
  go_wp2
  go_ret
  refine ⟨w1.heap.size, .slice a' l.length cap', rfl, Lib.hid ⟨?_, ⟨d, ?_⟩, ?_, hb.out.size⟩, Lib.hid (fun e => by have := (World.ownsRow.lt ho.out _ e).2; omega), Lib.hid ?_⟩
  · exact cell_alloc_new' _ _ _ (by simp) rfl
  · exact cell_alloc_new' _ _ _ (by simp) rfl
  · exact ho.out.alloc _
  · exact hb.out.alloc hb.out.size _


def AmongPostN (bl len lcap : Nat) (l : List Nat) (w : World) (e : Ending) (w' : World) : Prop :=
  ∃ s v, e = .returned (.tuple #[.pointer (some ⟨s, 0, none⟩), .slice (some ⟨bl, 0, none⟩) len lcap, .bool true]) ∧ Hid (SelAt w' s v l w.heap.size) ∧ Hid (v.ownBlock ≠ some s) ∧ Hid (Below w.heap.size w w')

set_option maxRecDepth 100000 in
set_option maxHeartbeats 1000000 in
theorem amongN_any {B : Nat} (w : World) (bl len lcap : Nat) (nb : Nat → Nat) (vv : Nat → Value) (ts : List NodeD) (hF : Forest B w bl len nb vv ts) (h0 : 0 < len) (hlen : len ≤ 200) (v : Value) (l : List Nat) (h : ReadsAs w v (l.map intV)) (hin : ∀ i ∈ l, i < len) (hon : Once l) (hn : l.length ≤ 200) :
    Calls Tryz.prog 41 #[.slice (some ⟨bl, 0, none⟩) len lcap, v, .bool true] w (AmongPostN bl len lcap (l.map nb) w) := by
  have hth := these_any bl len lcap nb v l w (fun i hi => hF.cell hi) hlen h hin hn
  have HTH := Lib.hid hth
  have HF := Lib.hid hF
  have HIN := Lib.hid hin
  have HON := Lib.hid hon
  clear hth hF h hin hon
  go_enter Tryz.func41, Tryz.ntmps41
  go_wp2_with fail
  refine HTH.out.mono ?_
  rintro e w1 ⟨some_, rfl, ho, hb⟩
  have hF1 := HF.out.below hb.out
  have c0 := hF1.cell h0
  have HF1 := Lib.hid hF1
  clear hF1 HTH
  go_wp2_with fail
  refine (newDoc_any _ _).mono ?_
  rintro e w2 ⟨d, s, a, rfl, k0, k1, k2, hb2⟩
  have HB2 := Lib.hid hb2
  clear hb2 c0
  go_wp2_with fail
  refine (eq1_any s d a w2 k1 k2).mono ?_
  rintro e w3 ⟨s3, rfl, m0, m1, hb3⟩
  have HB3 := Lib.hid hb3
  have hb13 : Below w1.heap.size w1 w3 := HB2.out.trans (HB3.out.mono HB2.out.size)
  have hF3 := HF1.out.below hb13
  have hown3 : OwnPtrs w3 w.heap.size some_ (l.map nb) := ownsRow_kept ho.out (fun k hk => hb13.block k (World.ownsRow.lt ho.out k hk).2)
  have hadd := addNodesN_any s3 d some_ (l.map nb) w3 m0 m1 hown3.ptrs (hF3.alive HIN.out) (hF3.once HIN.out HON.out) (by simpa using hn)
  have HB13 := Lib.hid hb13
  have HADD := Lib.hid hadd
  clear hb3 hb13 hF3 hown3 hadd k0 k1 k2 m0 m1
  go_wp2_with fail
  refine HADD.out.mono ?_
  rintro e w4 ⟨s4, v4, rfl, hs4, hne4, hb4⟩
  have hb03 : Below w.heap.size w w3 := hb.out.trans (HB13.out.mono hb.out.size)
  have hb04 : Hid (Below w.heap.size w w4) := Lib.hid (hb03.trans (hb4.out.mono hb03.size))
  have hs := Lib.hid (hs4.out.weaken hb03.size)
  clear hs4 hb03 HADD
  go_wp2
  go_ret3
  exact ⟨s4, v4, rfl, hs, hne4, hb04⟩

set_option maxRecDepth 100000 in
set_option maxHeartbeats 1000000 in
theorem chosenN_any (W : World) (a : Option Addr) (len cap : Nat) (ts : List NodeD) (hR : RightT ts len) (hN : Nodes W a len ts) (v : Value) (l : List Nat) (h : ReadsAs W v (l.map intV)) (hin : ∀ i ∈ l, i < len) (hon : Once l) (hn : l.length ≤ 200) :
    Calls Tryz.prog 25 #[.slice a len cap, v] W (ChosenPostN ts len l W) := by
  have hlen := hR.le
  have hpos := hR.pos
  have hg := grown_any W a len cap ts hR hN
  have HG := Lib.hid hg
  have HR := Lib.hid hR
  have HV := Lib.hid h
  have HIN := Lib.hid hin
  have HON := Lib.hid hon
  clear hg hR hN h hin hon
  go_enter Tryz.func25, Tryz.ntmps25
  go_wp2_with fail
  refine HG.out.mono ?_
  rintro e w1 ⟨bl, nb, vv, rfl, hF, hb⟩
  have ham := amongN_any w1 bl len len nb vv ts hF.out hpos hlen v l (HV.out.below hb.out) HIN.out HON.out hn
  have HAM := Lib.hid ham
  clear ham HG
  go_wp2_with fail
  refine HAM.out.mono ?_
  rintro e w2 ⟨s, v2, rfl, hs, hne, hb2⟩
  clear HAM
  go_wp2
  go_ret3
  exact ⟨bl, nb, vv, s, v2, w1, rfl, hF, hb, Lib.hid (hs.out.next0 hne.out), hb2⟩

end Go.Proofs.YtphppdbhofeagaaGreat
