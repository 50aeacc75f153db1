/- impl.RemoveOf. -/
import Derived.Test.YtoleejaabiafcaaTakenAll
import Derived.Test.YtoleejaabiafcaaRemoveSel
namespace Go.Proofs.Ytoleejaabiafcaa
open Go.RowKit
set_option linter.unusedVariables false
set_option linter.unusedSimpArgs false

def DoneOfPost (lab : Nat → NodeD) (n : Nat) (C : List (Nat × Nat)) (W : World) (e : Ending) (w' : World) : Prop :=
  ∃ tv pv, e = .returned (.tuple #[tv, pv, .bool true]) ∧ Hid (OutAt w' W.heap.size tv lab C) ∧ Hid (OwnZ w' W.heap.size pv (placesW n C)) ∧ Hid (Below W.heap.size W w')

theorem WOk.order {n : Nat} {F : Wd} (hF : WOk n F) {C : List (Nat × Nat)} (h0 : 0 < n) (hC : Fs F.kids [0] C) : (C.map (·.1)).Nodup ∧ (∀ y ∈ C, y.1 < n) ∧ C.length ≤ n := by
  obtain ⟨C', h1, h2, h3, h4⟩ := hF.sized h0
  rw [hC.det h1]
  exact ⟨h2, h3, h4⟩

set_option maxRecDepth 100000 in
set_option maxHeartbeats 1000000 in
theorem removeOf_any (W : World) (a : Option Addr) (len cap : Nat) (ts : List NodeD) (hR : RightT ts len) (hN : Nodes W a len ts) (v : Value) (l : List Nat) (h : ReadsAs W v (l.map intV)) (hin : ∀ i ∈ l, i < len) (hon : Once l) (hn : l.length ≤ 200) (C : List (Nat × Nat)) (hC : Fs (cutsW (wd0 (sz ts) len) l).kids [0] C) :
    Calls Try.prog 15 #[.slice a len cap, v] W (DoneOfPost (fun i => ts.getD i default) len C W) := by
  have hlen := hR.le
  have hpos := hR.pos
  have hsel := selected_any W a len cap ts hR hN v l h hin hon hn
  have HSEL := Lib.hid hsel
  have HR := Lib.hid hR
  have HIN := Lib.hid hin
  have HC := Lib.hid hC
  clear hsel hR hN h hin hon hC
  go_enter Try.func15, Try.ntmps15
  go_wp2_with fail
  refine HSEL.out.mono ?_
  rintro e w1 ⟨g, bl, nb, vv, s0, s, v1, S, rfl, hB, hs, hS, hWS⟩
  have hD := hB.out.forest.dom HR.out
  have hF := wd0_ok HR.out.nest
  have hrm := remove_any hD hF s v1 l S hs.out hS HIN.out hn
  have HRM := Lib.hid hrm
  have HS := Lib.hid hS
  clear hrm hD HSEL hS
  go_wp2_with fail
  refine HRM.out.mono ?_
  rintro e w2 ⟨rfl, hd2, ho2⟩
  obtain ⟨hg, hrow, hb2⟩ := hB.out.kept ho2.out
  have hF2 := hF.cuts l
  obtain ⟨o1, o2, o3⟩ := hF2.order hpos HC.out
  have hends := ends_any hd2.out hF2 (fun i hi => ⟨_, _, HR.out.node i hi⟩) hpos hlen g bl hg hrow C HC.out o1 o2 (by omega)
  have HE := Lib.hid hends
  have HB2 := Lib.hid hb2
  clear hends hb2 hg hrow HRM hF hF2 o1 o2 o3
  go_wp2_with fail
  refine HE.out.mono ?_
  rintro e w3 ⟨tv, pv, rfl, hot, hz, hb3⟩
  have hbs := HB2.out.size
  have HB3 := Lib.hid (HB2.out.trans (hb3.out.mono hbs))
  have HOT := Lib.hid (hot.out.base hbs)
  have HZ : Hid (OwnZ w3 W.heap.size pv (placesW len C)) := Lib.hid (ownsRow_base hz.out hbs)
  clear hot hz hb3 HE
  go_wp2
  go_ret3
  exact ⟨_, _, rfl, HOT, HZ, HB3⟩

end Go.Proofs.Ytoleejaabiafcaa
