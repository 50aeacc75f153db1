/- The reference's put of a node that still stands somewhere. (Printed by gen_putmore.py.) -/
import Derived.Test.YtoleejaabiafcaaGreatInsAll
import Derived.Test.YtoleejaabiafcaaGreatKnotTurn
namespace Go.Proofs.YtoleejaabiafcaaGreat
open Go.RowKit
set_option linter.unusedVariables false
set_option linter.unusedSimpArgs false

/-- A node's kids cut at a place, as a walk wants them. -/
structure PartsK (w : World) (kn : Nat → Nat) (p : Nat) (a b : List Nat) (s0 sA sB : Option Addr) (m L cap capA capB : Nat) : Prop where
  c7 : w.cell? ⟨kn p, 7, none⟩ = some (.slice s0 L cap)
  hm : a.length = m
  hr : b.length = L - m
  hmL : m ≤ L
  hs1 : ∀ w, (Instr.sliceAt 63 (.slice s0 L cap) none (some (.int .i64 (m : Int))) none).run Tryz.prog w = .ok (.slice sA m capA) w ∧ (Instr.slice 63 (.slice s0 L cap) none (some (.int .i64 (m : Int))) none).run Tryz.prog w = .ok (.slice sA m capA) w
  hs2 : ∀ w, (Instr.sliceAt 63 (.slice s0 L cap) (some (.int .i64 (m : Int))) none none).run Tryz.prog w = .ok (.slice sB (L - m) capB) w ∧ (Instr.slice 63 (.slice s0 L cap) (some (.int .i64 (m : Int))) none none).run Tryz.prog w = .ok (.slice sB (L - m) capB) w
  hra : Row w sA m (a.map fun y => ptrV (kn y))
  hrb : Row w sB (L - m) (b.map fun y => ptrV (kn y))

theorem partsK {B : Nat} {w : World} {n : Nat} {kn : Nat → Nat} {kv av : Nat → Value} {pl : Nat → Int} {lab : Nat → NodeD} {F : Wd} (h : Knots B w n kn kv av pl lab F) {p : Nat} (hp : p < n) (a b : List Nat) (hl : F.kids p = a ++ b) : ∃ s0 sA sB cap capA capB, PartsK w kn p a b s0 sA sB a.length (F.kids p).length cap capA capB := by
  have hrow := h.row p hp
  obtain ⟨s, cap, g, hv, hcap, hcm, hs, hc, hsg, hs0⟩ := own_open hrow
  have c7 := (h.cells hp).2.2
  rw [hv] at c7
  have hL : (F.kids p).length = a.length + b.length := by rw [hl]; simp
  have hr1 : ∀ A, (0 < a.length → A = some ⟨g, 0, none⟩) → Row w A a.length (a.map fun y => ptrV (kn y)) := fun A hA => by
    refine ⟨by simp, by unfold maxLen; omega, fun h0 => ⟨g, 0, hA h0, fun i hi => ?_⟩⟩
    rw [Nat.zero_add, hc i (by omega), hl]
    simp [List.getD, hi, List.getElem?_append_left hi, ptrV]
  have hr2 : ∀ A, (0 < b.length → A = some ⟨g, a.length, none⟩) → Row w A ((F.kids p).length - a.length) (b.map fun y => ptrV (kn y)) := fun A hA => by
    have e : (F.kids p).length - a.length = b.length := by omega
    rw [e]
    refine ⟨by simp, by unfold maxLen; omega, fun h0 => ⟨g, a.length, hA h0, fun i hi => ?_⟩⟩
    rw [hc (a.length + i) (by omega), hl]
    have : (a ++ b).getD (a.length + i) 0 = b.getD i 0 := by
      rw [List.getD_eq_getElem?_getD, List.getElem?_append_right (by omega), show a.length + i - a.length = i by omega, List.getD_eq_getElem?_getD]
    rw [this]
    simp [List.getD, hi, ptrV]
  rcases hsg with rfl | rfl
  · have h0 := hs0 rfl
    have ha : a.length = 0 := by omega
    have hb : b.length = 0 := by omega
    obtain rfl : a = [] := List.eq_nil_of_length_eq_zero ha
    obtain rfl : b = [] := List.eq_nil_of_length_eq_zero hb
    have e0 : (F.kids p).length = 0 := by omega
    subst h0
    rw [e0] at c7 ⊢
    exact ⟨none, none, none, 0, 0, 0, c7, rfl, rfl, Nat.le_refl _, fun w => (slice_nilK w).1, fun w => (slice_nilK w).2, ⟨rfl, Nat.zero_le _, fun h => by omega⟩, ⟨rfl, Nat.zero_le _, fun h => by omega⟩⟩
  · obtain ⟨A, hA1, hA2⟩ := slice_lo (g := g) (L := (F.kids p).length) (cap := cap) (m := a.length) (by omega) (a.length : Int) rfl
    exact ⟨some ⟨g, 0, none⟩, some ⟨g, 0, none⟩, A, cap, cap, cap - a.length, c7, rfl, by omega, by omega, fun w => slice_hi (by omega) w, hA1, hr1 _ (fun _ => rfl), hr2 _ (fun h0 => by
      rcases hA2 with h | ⟨h, _⟩
      · exact h
      · omega)⟩

set_option maxRecDepth 100000 in
set_option maxHeartbeats 4000000 in
theorem putK_more {B : Nat} {w0 : World} {n : Nat} {kn : Nat → Nat} {kv0 av : Nat → Value} {pl : Nat → Int} {lab : Nat → NodeD} {F0 : Wd} (h0 : Knots B w0 n kn kv0 av pl lab F0) (hF0 : WOk n F0) (hn : n ≤ 900000) {x p q : Nat} (hp : p < n) (hx : x < n) (hxp : x ≠ p) (hu : F0.up x = some q) (a b : List Nat) (hl : (F0.cut x).kids p = a ++ b) {m : Nat} (hm : a.length = m) :
    Calls Tryz.prog 71 #[.pointer (some ⟨kn p, 0, none⟩), .int .i64 (m : Int), .pointer (some ⟨kn x, 0, none⟩)] w0 (TurnKPost B n kn av pl lab ((F0.cut x).put p m x) w0) := by
  obtain ⟨i0, hi, hz0, hz1, hz2⟩ := info_parts Tryz.infoKnotP
  obtain ⟨a1, b1, hab⟩ := List.append_of_mem ((hF0.iff q x).2 hu)
  have hcn := cutK_fresh h0 hF0 (by omega) hab
  have hfew := hF0.cut x |>.few p
  have HCN := Lib.hid hcn
  have HX := Lib.hid (And.intro hp (And.intro hx hxp))
  have HLL := Lib.hid (And.intro hl (And.intro hm hfew))
  clear hcn h0 hp hx hxp hl hu hF0 hab hm hfew
  go_enter Tryz.func71, Tryz.ntmps71
  go_wp2_with fail
  refine HCN.out.mono ?_
  rintro e w ⟨kv, rfl, hk1, ho1, _⟩
  obtain ⟨F, hF⟩ : ∃ F, F0.cut x = F := ⟨_, rfl⟩
  have hll := HLL.out
  have hkk := hk1.out
  rw [hF] at hll hkk
  have HFE := Lib.hid hF
  have HO1 := ho1
  have H := Lib.hid hkk
  obtain ⟨s0, sA, sB, cap, capA, capB, hpt⟩ := partsK hkk HX.out.1 a b hll.1
  rw [hll.2.1] at hpt
  obtain ⟨L, hLe⟩ : ∃ L, (F.kids p).length = L := ⟨_, rfl⟩
  have hL9 := hll.2.2
  rw [hLe] at hpt hL9
  have hL : L ≤ 1000000 := by omega
  have HL := Lib.hid (And.intro hll.1 (And.intro hpt.hm hpt.hr))
  have HRA := Lib.hid hpt.hra
  have HRB := Lib.hid hpt.hrb
  have t1 := fun w => (hpt.hs1 w).1
  have t1' := fun w => (hpt.hs1 w).2
  have t2 := fun w => (hpt.hs2 w).1
  have t2' := fun w => (hpt.hs2 w).2
  have c7 := hpt.c7
  have hmL := hpt.hmL
  have lp := World.block_lt_of_cell? w _ c7
  clear hpt hll hkk hLe hL9 HLL HCN hF ho1 hk1
  have c7a : (w.alloc (.cells #[] 66)).cell? ⟨kn p, 7, none⟩ = some (.slice s0 L cap) := cell_alloc_old c7 _
  go_wp2_with (at_builtin; refine wpList_append_reads rfl _ _ 63 rfl w.heap.size 66 i0 (.pointer none) 8 Tryz.underlying63 hi hz0 hz1 hz2 rfl (some ⟨w.heap.size, 0, none⟩) 0 0 [] rfl (owns_empty w w.heap.size (Nat.le_refl _) _) sA m capA (a.map fun y => ptrV (kn y)) rfl (HRA.out.below ((Below.refl _ _).alloc (Nat.le_refl _) _)) ptrK_one (by unfold maxLen; omega) (by omega) (by simp) ?_)
  intro b2 c2 w2 hown2 hgrow2
  (try rw [Nat.zero_add, List.nil_append] at hown2)
  (try rw [Nat.zero_add])
  have hbel2 : Below w.heap.size w w2 := ((Below.refl _ _).alloc (Nat.le_refl _) _).grown hgrow2 (by simp) (fun q hq => by simp [Value.ownBlock] at hq; omega)
  have hs2z := hbel2.size
  have hownA := World.ownsRow.alloc hown2 (.cells #[.pointer (some ⟨kn x, 0, none⟩)] 66)
  have hnews : ∀ j u, [Value.pointer (some ⟨kn x, 0, none⟩)][j]? = some u → (w2.alloc (.cells #[.pointer (some ⟨kn x, 0, none⟩)] 66)).cell? ((⟨w2.heap.size, 0, none⟩ : Addr).add j) = some u :=
    World.news_of_block (cs := #[.pointer (some ⟨kn x, 0, none⟩)]) (t := 66) (fr := (0, 0)) (heap_alloc_new w2 _)
  have HOA := Lib.hid hownA
  have HNEWS := Lib.hid hnews
  have HB2 := Lib.hid (And.intro hbel2 hown2)
  clear hownA hnews hbel2 hown2 hgrow2 c7a
  go_wp2_with (at_builtin; refine wpList_append_lies _ rfl _ _ 63 rfl w.heap.size 66 i0 (.pointer none) 1 8 Tryz.underlying63 hi hz0 hz1 hz2 rfl (by decide) (.slice b2 m c2) m (a.map fun y => ptrV (kn y)) rfl HOA.out ⟨w2.heap.size, 0, none⟩ 1 1 [.pointer (some ⟨kn x, 0, none⟩)] rfl rfl HNEWS.out (by simp [Value.oneCell']) (by omega) (by unfold maxLen; omega) (by omega) (by simp; omega) _ rfl ?_)
  intro g3 c3 w3 hown3 hgrow3 hat3 hlt3
  have hbel3 : Below w.heap.size w w3 := (HB2.out.1.alloc hs2z _).grown hgrow3 (by simp; omega) (fun q hq => (World.ownsRow.lt HOA.out q hq).1)
  have hs3z := hbel3.size
  have c7b := cell_below hbel3 c7
  have hrb3 := HRB.out.below hbel3
  have HO3 := Lib.hid (And.intro hown3 (And.intro hbel3 hrb3))
  clear hown3 hgrow3 hat3 hlt3 hbel3 hrb3 HOA HNEWS HB2 HRA HRB
  go_wp2_with (at_builtin; refine wpList_append_reads rfl _ _ 63 rfl w.heap.size 66 i0 (.pointer none) 8 Tryz.underlying63 hi hz0 hz1 hz2 rfl (some ⟨g3, 0, none⟩) (m + 1) c3 _ rfl HO3.out.1 sB (L - m) capB (b.map fun y => ptrV (kn y)) rfl HO3.out.2.2 ptrK_one (by unfold maxLen; omega) (by omega) hs3z ?_)
  intro b4 c4 w4 hown4 hgrow4
  have hbel4 : Below w.heap.size w w4 := HO3.out.2.1.grown hgrow4 hs3z (fun q hq => (World.ownsRow.lt HO3.out.1 q hq).1)
  have hl := HL.out
  have hE := putK_end H.out HX.out.1 HX.out.2.1 hl.1 hbel4 hown4 (by rw [List.length_append, List.length_cons, hl.2.1, hl.2.2]; omega) (by simp [ptrV])
  rw [hl.2.1] at hE
  have h4 := H.out.below hbel4
  have k7 := (h4.node p HX.out.1).free 7
  have k7c := (h4.cells HX.out.1).2.2
  have hop := h4.node p HX.out.1
  have hne := H.out.ne HX.out.2.1 HX.out.1 HX.out.2.2
  have k6c : ∀ u, (w4.setCell ⟨kn p, 7, none⟩ u).cell? ⟨kn x, 6, none⟩ = w4.cell? ⟨kn x, 6, none⟩ := fun u => cell_setCell_far hop 7 u hne
  have k6c' := fun u => (k6c u).trans (h4.cells HX.out.2.1).2.1
  have k6 : ∀ u, (w4.setCell ⟨kn p, 7, none⟩ u).frozen? ⟨kn x, 6, none⟩ = false := fun u => by
    have h5 := h4.node x HX.out.2.1
    have h6 : World.objAt (w4.setCell ⟨kn p, 7, none⟩ u) (kn x) (knotCells (pl x) (lab x) (av x) ((F.up x).map kn) (kv x)) 93 := by
      unfold World.objAt at h5 ⊢
      rw [setCell_block hop 7 u hne]
      exact h5
    exact h6.free 6
  have HE := Lib.hid hE
  clear hE hbel4 hown4 hgrow4 hl h4 hop hne k6c
  go_wp2
  go_end0
  have he := HE.out.1
  rw [← HFE.out] at he
  exact ⟨_, rfl, Lib.hid he, Lib.hid (HO1.out.trans HE.out.2)⟩

end Go.Proofs.YtoleejaabiafcaaGreat
