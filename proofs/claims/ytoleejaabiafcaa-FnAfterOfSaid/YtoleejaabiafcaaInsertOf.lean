/- impl: AppendOf, BeforeOf, at one node. (Printed by gen_insertof.py.) -/
import Derived.Test.YtoleejaabiafcaaRemoveOf
import Derived.Test.YtoleejaabiafcaaDomIns
namespace Go.Proofs.Ytoleejaabiafcaa
open Go.RowKit
set_option linter.unusedVariables false
set_option linter.unusedSimpArgs false

set_option maxRecDepth 100000 in
set_option maxHeartbeats 1000000 in
theorem appendOf_any (W : World) (a : Option Addr) (len cap : Nat) (ts : List NodeD) (hR : RightT ts len) (hN : Nodes W a len ts) (v : Value) (x : Nat) (h : ReadsAs W v ([x].map intV)) (hx : x < len) (v2 : Value) (ws : List Nat) (h2 : ReadsAs W v2 (ws.map intV)) (hws : ∀ y ∈ ws, y < len) (hnd : ws.Nodup) (hwl : ws.length ≤ 200) {p : Nat} {A0 B0 : List Nat} (hp : p < len) (hl : (wd0 (sz ts) len).kids p = A0 ++ B0) (hpx : p = x) (hB0 : B0 = []) (hanc : ∀ y ∈ ws, ¬ Anc (wd0 (sz ts) len) y p) (C : List (Nat × Nat)) (hC : Fs (mv (wd0 (sz ts) len) p A0 B0 ws).kids [0] C) :
    Calls Try.prog 20 #[.slice a len cap, v, v2] W (DoneOfPost (fun i => ts.getD i default) len C W) := by
  have hlen := hR.le
  have hpos := hR.pos
  have hsel := selected_any W a len cap ts hR hN v [x] h (fun i hi => by simp at hi; omega) (fun i j hi hj _ => by simp at hi hj; omega) (by simp)
  have HSEL := Lib.hid hsel
  have HR := Lib.hid hR
  have HW := Lib.hid (And.intro hws (And.intro hnd (And.intro hanc hl)))
  have HC := Lib.hid hC
  have HV2 := Lib.hid h2
  have HPX := Lib.hid (And.intro hpx hB0)
  clear hsel hR hN h hC h2 hws hnd hanc hl hpx hB0
  go_enter Try.func20, Try.ntmps20
  go_wp2_with fail
  refine HSEL.out.mono ?_
  rintro e w1 ⟨g, bl, nb, vv, s0, s, v1, S, rfl, hB, hs, hS, hWS⟩
  have o0 := hB.out.obj.cell (i := 0) (v := .slice (some ⟨bl, 0, none⟩) len len) rfl
  have hth := these_any bl len len nb v2 ws w1 (fun i hi => hB.out.forest.cell hi) hlen (HV2.out.below hB.out.bel) HW.out.1 hwl
  have HTH := Lib.hid hth
  have HS := Lib.hid hS
  clear hth HSEL hS
  go_wp2_with fail
  refine HTH.out.mono ?_
  rintro e w2 ⟨some_, rfl, ho, hb2⟩
  have hB2 := BegunAt.mk (hB.out.forest.below hb2.out) (hB.out.obj.below hb2.out hB.out.obj.lt) (hB.out.bel.trans (hb2.out.mono hB.out.bel.size)) hB.out.base
  have hs2 := hs.out.below hb2.out
  have hSw : S ≤ w1.heap.size := Nat.le_trans hs.out.base (Nat.le_of_lt (World.block_lt_of_cell? _ _ hs.out.nodes))
  have hns : w2.ownsRow S 84 1 some_ ws.length (ws.map fun y => ptrV (nb y)) := by
    have h1 := ho.out
    unfold OwnPtrs at h1
    rw [List.length_map, List.map_map] at h1
    exact ownsRow_base h1 hSw
  have hD := hB2.forest.dom HR.out
  have hF := wd0_ok HR.out.nest
  have hmn := manip_append hD hF s v1 (x := x) (p := p) (A0 := A0) (B0 := B0) (ws := ws) S hs2 HS.out hx hp HW.out.2.2.2 HPX.out.1 HPX.out.2 some_ hns HW.out.1 HW.out.2.1 hwl HW.out.2.2.1
  have hnd2 := nodes_append (X := fun e w' => Hid (DomAt W.heap.size w' len nb vv (fun i => ts.getD i default) (mv (wd0 (sz ts) len) p A0 B0 ws)) ∧ Hid (WOk len (mv (wd0 (sz ts) len) p A0 B0 ws)) ∧ Hid (OnlyN len nb w2 w')) s some_ w2 (hmn.mono fun e w' hh => ⟨hh.1, hh.2.1, hh.2.2.1, hh.2.2.2⟩)
  have HM := Lib.hid hnd2
  have HB2 := Lib.hid hB2
  clear hnd2 hmn hD hF hns hs2 hB2 ho hb2 HTH hB hs o0
  go_wp2_with fail
  refine HM.out.mono ?_
  rintro e w3 ⟨rfl, hd3, hw3, ho3⟩
  obtain ⟨hg, hrow, hb3⟩ := HB2.out.kept ho3.out
  obtain ⟨o1, o2, o3⟩ := hw3.out.order hpos HC.out
  have hends := ends_any hd3.out hw3.out (fun i hi => ⟨_, _, HR.out.node i hi⟩) hpos hlen g bl hg hrow C HC.out o1 o2 (by omega)
  have HE := Lib.hid hends
  have HB3 := Lib.hid hb3
  clear hends hb3 hg hrow HM o1 o2 o3
  go_wp2_with fail
  refine HE.out.mono ?_
  rintro e w4 ⟨tv, pv, rfl, hot, hz, hb4⟩
  have hbs := HB3.out.size
  have HB4 := Lib.hid (HB3.out.trans (hb4.out.mono hbs))
  have HOT := Lib.hid (hot.out.base hbs)
  have HZ : Hid (OwnZ w4 W.heap.size pv (placesW len C)) := Lib.hid (ownsRow_base hz.out hbs)
  clear hot hz hb4 HE
  go_wp2
  go_ret3
  exact ⟨_, _, rfl, HOT, HZ, HB4⟩

set_option maxRecDepth 100000 in
set_option maxHeartbeats 1000000 in
theorem beforeOf_any (W : World) (a : Option Addr) (len cap : Nat) (ts : List NodeD) (hR : RightT ts len) (hN : Nodes W a len ts) (v : Value) (x : Nat) (h : ReadsAs W v ([x].map intV)) (hx : x < len) (v2 : Value) (ws : List Nat) (h2 : ReadsAs W v2 (ws.map intV)) (hws : ∀ y ∈ ws, y < len) (hnd : ws.Nodup) (hwl : ws.length ≤ 200) {p : Nat} {A0 B0 : List Nat} (hp : p < len) (hl : (wd0 (sz ts) len).kids p = A0 ++ B0) (hpx : (wd0 (sz ts) len).up x = some p) (hB0 : ∃ b, B0 = x :: b) (hxw : x ∉ ws) (hanc : ∀ y ∈ ws, ¬ Anc (wd0 (sz ts) len) y p) (C : List (Nat × Nat)) (hC : Fs (mv (wd0 (sz ts) len) p A0 B0 ws).kids [0] C) :
    Calls Try.prog 25 #[.slice a len cap, v, v2] W (DoneOfPost (fun i => ts.getD i default) len C W) := by
  have hlen := hR.le
  have hpos := hR.pos
  have hsel := selected_any W a len cap ts hR hN v [x] h (fun i hi => by simp at hi; omega) (fun i j hi hj _ => by simp at hi hj; omega) (by simp)
  have HSEL := Lib.hid hsel
  have HR := Lib.hid hR
  have HW := Lib.hid (And.intro hws (And.intro hnd (And.intro hanc hl)))
  have HC := Lib.hid hC
  have HV2 := Lib.hid h2
  have HPX := Lib.hid (And.intro hpx (And.intro hB0 hxw))
  clear hsel hR hN h hC h2 hws hnd hanc hl hpx hB0 hxw
  go_enter Try.func25, Try.ntmps25
  go_wp2_with fail
  refine HSEL.out.mono ?_
  rintro e w1 ⟨g, bl, nb, vv, s0, s, v1, S, rfl, hB, hs, hS, hWS⟩
  have o0 := hB.out.obj.cell (i := 0) (v := .slice (some ⟨bl, 0, none⟩) len len) rfl
  have hth := these_any bl len len nb v2 ws w1 (fun i hi => hB.out.forest.cell hi) hlen (HV2.out.below hB.out.bel) HW.out.1 hwl
  have HTH := Lib.hid hth
  have HS := Lib.hid hS
  clear hth HSEL hS
  go_wp2_with fail
  refine HTH.out.mono ?_
  rintro e w2 ⟨some_, rfl, ho, hb2⟩
  have hB2 := BegunAt.mk (hB.out.forest.below hb2.out) (hB.out.obj.below hb2.out hB.out.obj.lt) (hB.out.bel.trans (hb2.out.mono hB.out.bel.size)) hB.out.base
  have hs2 := hs.out.below hb2.out
  have hSw : S ≤ w1.heap.size := Nat.le_trans hs.out.base (Nat.le_of_lt (World.block_lt_of_cell? _ _ hs.out.nodes))
  have hns : w2.ownsRow S 84 1 some_ ws.length (ws.map fun y => ptrV (nb y)) := by
    have h1 := ho.out
    unfold OwnPtrs at h1
    rw [List.length_map, List.map_map] at h1
    exact ownsRow_base h1 hSw
  have hD := hB2.forest.dom HR.out
  have hF := wd0_ok HR.out.nest
  have hmn := manip_before hD hF s v1 (x := x) (p := p) (A0 := A0) (B0 := B0) (ws := ws) S hs2 HS.out hx hp HW.out.2.2.2 HPX.out.1 HPX.out.2.1 HPX.out.2.2 some_ hns HW.out.1 HW.out.2.1 hwl HW.out.2.2.1
  have hnd2 := nodes_before (X := fun e w' => Hid (DomAt W.heap.size w' len nb vv (fun i => ts.getD i default) (mv (wd0 (sz ts) len) p A0 B0 ws)) ∧ Hid (WOk len (mv (wd0 (sz ts) len) p A0 B0 ws)) ∧ Hid (OnlyN len nb w2 w')) s some_ w2 (hmn.mono fun e w' hh => ⟨hh.1, hh.2.1, hh.2.2.1, hh.2.2.2⟩)
  have HM := Lib.hid hnd2
  have HB2 := Lib.hid hB2
  clear hnd2 hmn hD hF hns hs2 hB2 ho hb2 HTH hB hs o0
  go_wp2_with fail
  refine HM.out.mono ?_
  rintro e w3 ⟨rfl, hd3, hw3, ho3⟩
  obtain ⟨hg, hrow, hb3⟩ := HB2.out.kept ho3.out
  obtain ⟨o1, o2, o3⟩ := hw3.out.order hpos HC.out
  have hends := ends_any hd3.out hw3.out (fun i hi => ⟨_, _, HR.out.node i hi⟩) hpos hlen g bl hg hrow C HC.out o1 o2 (by omega)
  have HE := Lib.hid hends
  have HB3 := Lib.hid hb3
  clear hends hb3 hg hrow HM o1 o2 o3
  go_wp2_with fail
  refine HE.out.mono ?_
  rintro e w4 ⟨tv, pv, rfl, hot, hz, hb4⟩
  have hbs := HB3.out.size
  have HB4 := Lib.hid (HB3.out.trans (hb4.out.mono hbs))
  have HOT := Lib.hid (hot.out.base hbs)
  have HZ : Hid (OwnZ w4 W.heap.size pv (placesW len C)) := Lib.hid (ownsRow_base hz.out hbs)
  clear hot hz hb4 HE
  go_wp2
  go_ret3
  exact ⟨_, _, rfl, HOT, HZ, HB4⟩

end Go.Proofs.Ytoleejaabiafcaa
