/- impl.chosen: a selection of some places. -/
import Derived.Test.YtikimffifkiinaaDoorPtrAll
import Derived.Test.YtikimffifkiinaaDoorGrowAll
namespace Go.Proofs.YtikimffifkiinaaDoor
open Go.RowKit
set_option linter.unusedVariables false
set_option linter.unusedSimpArgs false

/-- A document with its selection. -/
def DocPost (w : World) (e : Ending) (w' : World) : Prop :=
  ∃ d s a, e = .returned (.pointer (some ⟨d, 0, none⟩)) ∧ w'.cell? ⟨d, 0, none⟩ = some (.pointer (some ⟨s, 0, none⟩)) ∧ w'.cell? ⟨s, 0, none⟩ = some (.slice a 1 1) ∧ w'.cell? ⟨s, 1, none⟩ = some (.pointer (some ⟨d, 0, none⟩)) ∧ Below w.heap.size w w'

set_option maxRecDepth 100000 in
set_option maxHeartbeats 1000000 in
theorem newDoc_any (p : Nat) (w : World) : Calls Tryd.prog 43 #[.pointer (some ⟨p, 0, none⟩)] w (DocPost w) := by
  go_enter Tryd.func43, Tryd.ntmps43
  go_wp2
  go_ret
  refine ⟨w.heap.size, w.heap.size + 2, some ⟨w.heap.size + 1, 0, none⟩, rfl, ?_, ?_, ?_, ?_⟩
  · exact cell_alloc_old (cell_alloc_old (cell_alloc_new' _ _ _ rfl rfl) _) _
  · exact cell_alloc_new' _ _ _ (by simp) rfl
  · exact cell_alloc_new' _ _ _ (by simp) rfl
  · exact (((Below.refl _ w).alloc (Nat.le_refl _) _).alloc (by simp) _).alloc (by simp; omega) _

def EmptyPost (d : Nat) (w : World) (e : Ending) (w' : World) : Prop :=
  ∃ s, e = .returned (.pointer (some ⟨s, 0, none⟩)) ∧ w'.cell? ⟨s, 0, none⟩ = some (.slice none 0 0) ∧ w'.cell? ⟨s, 1, none⟩ = some (.pointer (some ⟨d, 0, none⟩)) ∧ Below w.heap.size w w'

set_option maxRecDepth 100000 in
set_option maxHeartbeats 1000000 in
theorem eq1_any (s d : Nat) (a : Option Addr) (w : World) (c0 : w.cell? ⟨s, 0, none⟩ = some (.slice a 1 1)) (c1 : w.cell? ⟨s, 1, none⟩ = some (.pointer (some ⟨d, 0, none⟩))) :
    Calls Tryd.prog 44 #[.pointer (some ⟨s, 0, none⟩), .int .i64 1] w (EmptyPost d w) := by
  go_enter Tryd.func44, Tryd.ntmps44
  go_wp2
  go_ret
  refine ⟨w.heap.size, rfl, ?_, ?_, ?_⟩
  · exact cell_alloc_new' _ _ _ (by simp) rfl
  · exact cell_alloc_new' _ _ _ (by simp) rfl
  · exact (Below.refl _ w).alloc (Nat.le_refl _) _

/-- A selection in memory: its nodes. -/
structure SelAt (w : World) (s : Nat) (v : Value) (l : List Nat) (B : Nat) : Prop where
  nodes : w.cell? ⟨s, 0, none⟩ = some v
  doc : ∃ d, w.cell? ⟨s, 1, none⟩ = some (.pointer (some ⟨d, 0, none⟩))
  own : OwnPtrs w B v l
  base : B ≤ s

def SelPost (l : List Nat) (w : World) (e : Ending) (w' : World) : Prop :=
  ∃ s v, e = .returned (.pointer (some ⟨s, 0, none⟩)) ∧ Hid (SelAt w' s v l w.heap.size) ∧ Hid (Below w.heap.size w w')

set_option maxRecDepth 100000 in
set_option maxHeartbeats 1000000 in
theorem addNodes_any (s d : Nat) (v : Value) (l : List Nat) (w : World) (c0 : w.cell? ⟨s, 0, none⟩ = some (.slice none 0 0)) (c1 : w.cell? ⟨s, 1, none⟩ = some (.pointer (some ⟨d, 0, none⟩))) (h : PtrsOf w v l) (hal : ∀ i, i < l.length → Alive w (l.getD i 0)) (hon : Once l) (hn : l.length ≤ 200) :
    Calls Tryd.prog 45 #[.pointer (some ⟨s, 0, none⟩), v] w (SelPost l w) := by
  have hno := noDup_any v l w h hal hon hn
  have HNO := Lib.hid hno
  clear h hal hon hno
  go_enter Tryd.func45, Tryd.ntmps45
  go_wp2_with fail
  refine HNO.out.mono ?_
  rintro e w1 ⟨v', rfl, ho, hb⟩
  have c1' := cell_below hb.out c1
  obtain ⟨a', cap', hv, _⟩ := ho.out.ptrs.nil
  rw [List.length_map] at hv
  subst hv
  clear c0 c1 HNO
  go_wp2
  go_ret
  refine ⟨w1.heap.size, .slice a' l.length cap', rfl, Lib.hid ⟨?_, ⟨d, ?_⟩, ?_, hb.out.size⟩, Lib.hid ?_⟩
  · exact cell_alloc_new' _ _ _ (by simp) rfl
  · exact cell_alloc_new' _ _ _ (by simp) rfl
  · exact ho.out.alloc _
  · exact hb.out.alloc hb.out.size _


theorem SelAt.below {w w' : World} {s : Nat} {v : Value} {l : List Nat} {B : Nat} (h : SelAt w s v l B) (hb : Below w.heap.size w w') : SelAt w' s v l B := by
  obtain ⟨d, hd⟩ := h.doc
  exact ⟨cell_below hb h.nodes, ⟨d, cell_below hb hd⟩, ownsRow_kept h.own (fun k hk => hb.block k (World.ownsRow.lt h.own k hk).2), h.base⟩

theorem SelAt.weaken {w : World} {s : Nat} {v : Value} {l : List Nat} {B B' : Nat} (h : SelAt w s v l B) (hB : B' ≤ B) : SelAt w s v l B' := ⟨h.nodes, h.doc, ownsRow_base h.own hB, Nat.le_trans hB h.base⟩

def ChosenPost (ts : List NodeD) (len : Nat) (l : List Nat) (W : World) (e : Ending) (w : World) : Prop :=
  ∃ bl nb vv s v, e = .returned (.tuple #[.pointer (some ⟨s, 0, none⟩), .slice (some ⟨bl, 0, none⟩) len len, .bool true]) ∧ Hid (Forest W.heap.size w bl len nb vv ts) ∧ Hid (SelAt w s v (l.map nb) W.heap.size) ∧ Hid (Below W.heap.size W w)

theorem Forest.alive {B : Nat} {w : World} {bl len : Nat} {nb : Nat → Nat} {v : Nat → Value} {ts : List NodeD} (h : Forest B w bl len nb v ts) {l : List Nat} (hl : ∀ i ∈ l, i < len) : ∀ i, i < (l.map nb).length → Alive w ((l.map nb).getD i 0) := fun i hi => by
  have hi' : i < l.length := by simpa using hi
  have : (l.map nb).getD i 0 = nb (l.getD i 0) := by simp [List.getD, hi']
  rw [this]
  exact (h.node (hl _ (getD_mem' hi'))).alive

theorem Forest.once {B : Nat} {w : World} {bl len : Nat} {nb : Nat → Nat} {v : Nat → Value} {ts : List NodeD} (h : Forest B w bl len nb v ts) {l : List Nat} (hl : ∀ i ∈ l, i < len) (ho : Once l) : Once (l.map nb) := fun i j hi hj he => by
  have hi' : i < l.length := by simpa using hi
  have hj' : j < l.length := by simpa using hj
  have e1 : (l.map nb).getD i 0 = nb (l.getD i 0) := by simp [List.getD, hi']
  have e2 : (l.map nb).getD j 0 = nb (l.getD j 0) := by simp [List.getD, hj']
  rw [e1, e2] at he
  exact ho i j hi' hj' (h.seg.inj _ _ (Nat.zero_le _) (hl _ (getD_mem' hi')) (Nat.zero_le _) (hl _ (getD_mem' hj')) he)

def AmongPost (bl len lcap : Nat) (l : List Nat) (w : World) (e : Ending) (w' : World) : Prop :=
  ∃ s v, e = .returned (.tuple #[.pointer (some ⟨s, 0, none⟩), .slice (some ⟨bl, 0, none⟩) len lcap, .bool true]) ∧ Hid (SelAt w' s v l w.heap.size) ∧ Hid (Below w.heap.size w w')

set_option maxRecDepth 100000 in
set_option maxHeartbeats 1000000 in
theorem among_any {B : Nat} (w : World) (bl len lcap : Nat) (nb : Nat → Nat) (vv : Nat → Value) (ts : List NodeD) (hF : Forest B w bl len nb vv ts) (h0 : 0 < len) (hlen : len ≤ 200) (v : Value) (l : List Nat) (h : ReadsAs w v (l.map intV)) (hin : ∀ i ∈ l, i < len) (hon : Once l) (hn : l.length ≤ 200) :
    Calls Tryd.prog 29 #[.slice (some ⟨bl, 0, none⟩) len lcap, v, .bool true] w (AmongPost bl len lcap (l.map nb) w) := by
  have hth := these_any bl len lcap nb v l w (fun i hi => hF.cell hi) hlen h hin hn
  have HTH := Lib.hid hth
  have HF := Lib.hid hF
  have HIN := Lib.hid hin
  have HON := Lib.hid hon
  clear hth hF h hin hon
  go_enter Tryd.func29, Tryd.ntmps29
  go_wp2_with fail
  refine HTH.out.mono ?_
  rintro e w1 ⟨some_, rfl, ho, hb⟩
  have hF1 := HF.out.below hb.out
  have c0 := hF1.cell h0
  have HF1 := Lib.hid hF1
  clear hF1 HTH
  go_wp2_with fail
  refine (newDoc_any _ _).mono ?_
  rintro e w2 ⟨d, s, a, rfl, k0, k1, k2, hb2⟩
  have HB2 := Lib.hid hb2
  clear hb2 c0
  go_wp2_with fail
  refine (eq1_any s d a w2 k1 k2).mono ?_
  rintro e w3 ⟨s3, rfl, m0, m1, hb3⟩
  have HB3 := Lib.hid hb3
  have hb13 : Below w1.heap.size w1 w3 := HB2.out.trans (HB3.out.mono HB2.out.size)
  have hF3 := HF1.out.below hb13
  have hown3 : OwnPtrs w3 w.heap.size some_ (l.map nb) := ownsRow_kept ho.out (fun k hk => hb13.block k (World.ownsRow.lt ho.out k hk).2)
  have hadd := addNodes_any s3 d some_ (l.map nb) w3 m0 m1 hown3.ptrs (hF3.alive HIN.out) (hF3.once HIN.out HON.out) (by simpa using hn)
  have HB13 := Lib.hid hb13
  have HADD := Lib.hid hadd
  clear hb3 hb13 hF3 hown3 hadd k0 k1 k2 m0 m1
  go_wp2_with fail
  refine HADD.out.mono ?_
  rintro e w4 ⟨s4, v4, rfl, hs4, hb4⟩
  have hb03 : Below w.heap.size w w3 := hb.out.trans (HB13.out.mono hb.out.size)
  have hb04 : Hid (Below w.heap.size w w4) := Lib.hid (hb03.trans (hb4.out.mono hb03.size))
  have hs := Lib.hid (hs4.out.weaken hb03.size)
  clear hs4 hb03 HADD
  go_wp2
  go_ret3
  exact ⟨s4, v4, rfl, hs, hb04⟩

set_option maxRecDepth 100000 in
set_option maxHeartbeats 1000000 in
theorem chosen_any (W : World) (a : Option Addr) (len cap : Nat) (ts : List NodeD) (hR : RightT ts len) (hN : Nodes W a len ts) (v : Value) (l : List Nat) (h : ReadsAs W v (l.map intV)) (hin : ∀ i ∈ l, i < len) (hon : Once l) (hn : l.length ≤ 200) :
    Calls Tryd.prog 17 #[.slice a len cap, v] W (ChosenPost ts len l W) := by
  have hlen := hR.le
  have hpos := hR.pos
  have hg := grown_any W a len cap ts hR hN
  have HG := Lib.hid hg
  have HR := Lib.hid hR
  have HV := Lib.hid h
  have HIN := Lib.hid hin
  have HON := Lib.hid hon
  clear hg hR hN h hin hon
  go_enter Tryd.func17, Tryd.ntmps17
  go_wp2_with fail
  refine HG.out.mono ?_
  rintro e w1 ⟨bl, nb, vv, rfl, hF, hb⟩
  have ham := among_any w1 bl len len nb vv ts hF.out hpos hlen v l (HV.out.below hb.out) HIN.out HON.out hn
  have HAM := Lib.hid ham
  clear ham HG
  go_wp2_with fail
  refine HAM.out.mono ?_
  rintro e w2 ⟨s, v2, rfl, hs, hb2⟩
  have hF2 := Lib.hid (hF.out.below hb2.out)
  have hB2 := Lib.hid (hb.out.trans (hb2.out.mono hb.out.size))
  have hs2 := Lib.hid (hs.out.weaken hb.out.size)
  clear HAM
  go_wp2
  go_ret3
  exact ⟨bl, nb, vv, s, v2, rfl, hF2, hs2, hB2⟩

end Go.Proofs.YtikimffifkiinaaDoor
