/- A document that is changed: impl.begun, impl.selected. -/
import Derived.Test.YtoleejaabiafcaaSelBase
import Derived.Test.YtoleejaabiafcaaCells
import Derived.Test.YtoleejaabiafcaaDomAll
namespace Go.Proofs.Ytoleejaabiafcaa
open Go.RowKit
set_option linter.unusedVariables false
set_option linter.unusedSimpArgs false

/-- A document that is changed, at g. -/
structure BegunAt (W w : World) (g bl len : Nat) (nb : Nat → Nat) (vv : Nat → Value) (ts : List NodeD) (s : Nat) : Prop where
  forest : Forest W.heap.size w bl len nb vv ts
  obj : World.objAt w g #[.slice (some ⟨bl, 0, none⟩) len len, .pointer (some ⟨s, 0, none⟩)] 80
  bel : Below W.heap.size W w
  base : W.heap.size ≤ g

def BegunPost (ts : List NodeD) (len : Nat) (W : World) (e : Ending) (w : World) : Prop :=
  ∃ g bl nb vv s d, e = .returned (.tuple #[.pointer (some ⟨g, 0, none⟩), .bool true]) ∧ Hid (BegunAt W w g bl len nb vv ts s) ∧ w.cell? ⟨s, 0, none⟩ = some (.slice none 0 0) ∧ w.cell? ⟨s, 1, none⟩ = some (.pointer (some ⟨d, 0, none⟩))

set_option maxRecDepth 100000 in
set_option maxHeartbeats 1000000 in
theorem begun_any (W : World) (a : Option Addr) (len cap : Nat) (ts : List NodeD) (hR : RightT ts len) (hN : Nodes W a len ts) :
    Calls Try.prog 75 #[.slice a len cap] W (BegunPost ts len W) := by
  have hlen := hR.le
  have hpos := hR.pos
  have hg := grown_any W a len cap ts hR hN
  have HG := Lib.hid hg
  clear hg hR hN
  go_enter Try.func75, Try.ntmps75
  go_wp2_with fail
  refine HG.out.mono ?_
  rintro e w1 ⟨bl, nb, vv, rfl, hF, hb⟩
  have hbs := hb.out.size
  have c0 := hF.out.cell hpos
  clear HG
  go_wp2_with fail
  refine (newDoc_any _ _).mono ?_
  rintro e w2 ⟨d, s, a, rfl, k0, k1, k2, hb2⟩
  have HB2 := Lib.hid hb2
  clear hb2 c0
  go_wp2_with fail
  refine (eq1_any s d a w2 k1 k2).mono ?_
  rintro e w3 ⟨s3, rfl, m0, m1, hb3⟩
  have hb13 : Below w1.heap.size w1 w3 := HB2.out.trans (hb3.mono HB2.out.size)
  have hF3 := hF.out.below hb13
  have hb03 : Below W.heap.size W w3 := hb.out.trans (hb13.mono hbs)
  have hbs3 := hb03.size
  have H3 := Lib.hid (And.intro hF3 hb03)
  clear hb3 hb13 hF3 hb03 k0 k1 k2
  go_wp2
  go_ret2
  refine ⟨w3.heap.size, bl, nb, vv, s3, d, rfl, Lib.hid ⟨H3.out.1.below ((Below.refl _ _).alloc (Nat.le_refl _) _), objAt_alloc_new w3 _ _, H3.out.2.alloc hbs3 _, hbs3⟩, cell_alloc_old m0 _, cell_alloc_old m1 _⟩

def SelectedPost (ts : List NodeD) (len : Nat) (l : List Nat) (W : World) (e : Ending) (w : World) : Prop :=
  ∃ g bl nb vv s0 s v S, e = .returned (.tuple #[.pointer (some ⟨g, 0, none⟩), .pointer (some ⟨s, 0, none⟩), .bool true]) ∧ Hid (BegunAt W w g bl len nb vv ts s0) ∧ Hid (SelAt w s v (l.map nb) S) ∧ (∀ i, i < len → nb i < S) ∧ W.heap.size ≤ S

set_option maxRecDepth 100000 in
set_option maxHeartbeats 1000000 in
theorem selected_any (W : World) (a : Option Addr) (len cap : Nat) (ts : List NodeD) (hR : RightT ts len) (hN : Nodes W a len ts) (v : Value) (l : List Nat) (h : ReadsAs W v (l.map intV)) (hin : ∀ i ∈ l, i < len) (hon : Once l) (hn : l.length ≤ 200) :
    Calls Try.prog 49 #[.slice a len cap, v] W (SelectedPost ts len l W) := by
  have hlen := hR.le
  have hpos := hR.pos
  have hg := begun_any W a len cap ts hR hN
  have HG := Lib.hid hg
  have HV := Lib.hid h
  have HIN := Lib.hid hin
  have HON := Lib.hid hon
  clear hg hR hN h hin hon
  go_enter Try.func49, Try.ntmps49
  go_wp2_with fail
  refine HG.out.mono ?_
  rintro e w1 ⟨g, bl, nb, vv, s0, d, rfl, hB, m0, m1⟩
  have o0 := hB.out.obj.cell (i := 0) (v := .slice (some ⟨bl, 0, none⟩) len len) rfl
  have o1 := hB.out.obj.cell (i := 1) (v := .pointer (some ⟨s0, 0, none⟩)) rfl
  have hth := these_any bl len len nb v l w1 (fun i hi => hB.out.forest.cell hi) hlen (HV.out.below hB.out.bel) HIN.out hn
  have HTH := Lib.hid hth
  clear hth HG
  go_wp2_with fail
  refine HTH.out.mono ?_
  rintro e w2 ⟨some_, rfl, ho, hb⟩
  have hF2 := hB.out.forest.below hb.out
  have hadd := addNodes_any s0 d some_ (l.map nb) w2 (cell_below hb.out m0) (cell_below hb.out m1) ho.out.ptrs (hF2.alive HIN.out) (hF2.once HIN.out HON.out) (by simpa using hn)
  have o1' := cell_below hb.out o1
  have HADD := Lib.hid hadd
  have HF2 := Lib.hid hF2
  clear hF2 hadd o0 o1 m0 m1 HTH
  go_wp2_with fail
  refine HADD.out.mono ?_
  rintro e w3 ⟨s3, v3, rfl, hs3, hb3⟩
  have hb2 : Below W.heap.size W w2 := hB.out.bel.trans (hb.out.mono hB.out.bel.size)
  have hb13 : Below w1.heap.size w1 w3 := hb.out.trans (hb3.out.mono hb.out.size)
  have hF3 := hB.out.forest.below hb13
  have ho3 := hB.out.obj.below hb13 hB.out.obj.lt
  have hB3 := Lib.hid (BegunAt.mk hF3 ho3 (hB.out.bel.trans (hb13.mono hB.out.bel.size)) hB.out.base)
  have hS : ∀ i, i < len → nb i < w2.heap.size := fun i hi => (HF2.out.node hi).lt
  have hW2 := hb2.size
  clear hb2 hb13 hF3 ho3 HADD
  go_wp2
  go_ret3
  exact ⟨g, bl, nb, vv, s0, s3, v3, w2.heap.size, rfl, hB3, hs3, hS, hW2⟩

end Go.Proofs.Ytoleejaabiafcaa
