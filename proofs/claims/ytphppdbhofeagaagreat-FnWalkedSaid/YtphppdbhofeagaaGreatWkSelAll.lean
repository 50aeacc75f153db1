/- The methods of Selection that go to relatives, from any selection that can be read. (Printed by gen_wksel.py.) impl.bySet, impl.kin at the steps to relatives, any pick. (Printed by gen_wksel.py.) -/
import Derived.Test.YtphppdbhofeagaaGreatStepAll
import Derived.Test.YtphppdbhofeagaaGreatWkOffAll
import Derived.Test.YtphppdbhofeagaaGreatWkGetAll
namespace Go.Proofs.YtphppdbhofeagaaGreat
open Go.RowKit
set_option linter.unusedVariables false
set_option linter.unusedSimpArgs false

/-- A selection that can be read. -/
structure SelR (w : World) (s : Nat) (v : Value) (l : List Nat) : Prop where
  nodes : w.cell? ⟨s, 0, none⟩ = some v
  doc : ∃ d, w.cell? ⟨s, 1, none⟩ = some (.pointer (some ⟨d, 0, none⟩))
  ptrs : PtrsOf w v l

theorem SelR.below {w w' : World} {s : Nat} {v : Value} {l : List Nat} (h : SelR w s v l) (hb : Below w.heap.size w w') : SelR w' s v l := by
  obtain ⟨d, hd⟩ := h.doc
  exact ⟨cell_below hb h.nodes, ⟨d, cell_below hb hd⟩, h.ptrs.below hb⟩

theorem SelO.r {w : World} {s B : Nat} {v : Value} {l : List Nat} (h : SelO w s v l B) : SelR w s v l := ⟨h.nodes, h.doc, h.off.1⟩

/-- The next selection. -/
def NextPost (B : Nat) (o : Option Nat) (M : List Nat) (w : World) (e : Ending) (w' : World) : Prop :=
  ∃ s' v', e = .returned (.pointer (some ⟨s', 0, none⟩)) ∧ Hid (SelO w' s' v' M B) ∧ Hid (Below B w w') ∧ Hid (KeepBut o w w') ∧ Hid ((∀ j, v'.ownBlock = some j → o = some j ∨ w.heap.size ≤ j) ∧ w.heap.size ≤ s')

theorem StepPost.next {s B : Nat} {o : Option Nat} {M : List Nat} {w w' : World} {e : Ending} (h : StepPost s M w e w') (hB : B ≤ w.heap.size) : NextPost B o M w e w' := by
  obtain ⟨s', v', he, hs, _, hne, hb⟩ := h
  have hoff := OwnPtrs.off hs.out.own
  refine ⟨s', v', he, Lib.hid ⟨hs.out.nodes, hs.out.doc, ⟨hoff.1, ?_⟩, Nat.le_trans hB hs.out.base, hne.out⟩, Lib.hid (hb.out.mono hB), Lib.hid (Below.keepBut hb.out o), Lib.hid ⟨fun j hj => .inr (World.ownsRow.lt hs.out.own j hj).1, hs.out.base⟩⟩
  rcases hoff.2 with h | ⟨g, off, n, c, e, h3, h4⟩
  · exact .inl h
  · exact .inr ⟨g, off, n, c, e, by omega, h4⟩

set_option maxRecDepth 100000 in
set_option maxHeartbeats 1000000 in
theorem wstepChildren {B' : Nat} (s : Nat) (v : Value) (l : List Nat) (w : World) (bl len : Nat) (nb : Nat → Nat) (vv : Nat → Value) (ts : List NodeD) (hs : SelR w s v (l.map nb)) (hF : Forest B' w bl len nb vv ts) (hR : RightT ts len)
    (hin : ∀ i ∈ l, i < len) (hpos : ∀ i ∈ l, 0 < i) (hn : l.length ≤ 200) :
    Calls Tryz.prog 56 #[.pointer (some ⟨s, 0, none⟩)] w (StepPost s ((onceF (l.flatMap (kidL ts len))).map nb) w) := by
  have hp := getKids v l w bl len nb vv ts hF hR hs.ptrs hin hn
  obtain ⟨L, hL⟩ : ∃ L, (onceF (l.flatMap (kidL ts len))).map nb = L := ⟨_, rfl⟩
  rw [hL] at hp ⊢
  obtain ⟨d, hd⟩ := hs.doc
  have c0 := hs.nodes
  have HP := Lib.hid hp
  have HD := Lib.hid hd
  clear hp hs hF hR hd hL hin hpos
  go_enter Tryz.func56, Tryz.ntmps56
  go_wp2_with fail
  refine HP.out.mono ?_
  rintro e w1 ⟨v', rfl, ho, hb⟩
  have c1' := cell_below hb.out HD.out
  have c0' := cell_below hb.out c0
  obtain ⟨a', cap', hv, _⟩ := ho.out.ptrs.nil
  rw [List.length_map] at hv
  subst hv
  clear HP HD
  go_wp2
  go_ret
  refine ⟨w1.heap.size, .slice a' L.length cap', rfl, Lib.hid ⟨?_, ⟨d, ?_⟩, ?_, hb.out.size⟩, ?_, Lib.hid (fun e => by have := (World.ownsRow.lt ho.out _ e).2; omega), Lib.hid ?_⟩
  · exact cell_alloc_new' _ _ _ (by simp) rfl
  · exact cell_alloc_new' _ _ _ (by simp) rfl
  · exact ho.out.alloc _
  · exact cell_alloc_new' _ _ _ (by simp) rfl
  · exact hb.out.alloc hb.out.size _

set_option maxRecDepth 100000 in
set_option maxHeartbeats 1000000 in
theorem wstepContents {B' : Nat} (s : Nat) (v : Value) (l : List Nat) (w : World) (bl len : Nat) (nb : Nat → Nat) (vv : Nat → Value) (ts : List NodeD) (hs : SelR w s v (l.map nb)) (hF : Forest B' w bl len nb vv ts) (hR : RightT ts len)
    (hin : ∀ i ∈ l, i < len) (hpos : ∀ i ∈ l, 0 < i) (hn : l.length ≤ 200) :
    Calls Tryz.prog 57 #[.pointer (some ⟨s, 0, none⟩)] w (StepPost s ((onceF (l.flatMap (conL ts len))).map nb) w) := by
  have hp := getCon v l w bl len nb vv ts hF hR hs.ptrs hin hn
  obtain ⟨L, hL⟩ : ∃ L, (onceF (l.flatMap (conL ts len))).map nb = L := ⟨_, rfl⟩
  rw [hL] at hp ⊢
  obtain ⟨d, hd⟩ := hs.doc
  have c0 := hs.nodes
  have HP := Lib.hid hp
  have HD := Lib.hid hd
  clear hp hs hF hR hd hL hin hpos
  go_enter Tryz.func57, Tryz.ntmps57
  go_wp2_with fail
  refine HP.out.mono ?_
  rintro e w1 ⟨v', rfl, ho, hb⟩
  have c1' := cell_below hb.out HD.out
  have c0' := cell_below hb.out c0
  obtain ⟨a', cap', hv, _⟩ := ho.out.ptrs.nil
  rw [List.length_map] at hv
  subst hv
  clear HP HD
  go_wp2
  go_ret
  refine ⟨w1.heap.size, .slice a' L.length cap', rfl, Lib.hid ⟨?_, ⟨d, ?_⟩, ?_, hb.out.size⟩, ?_, Lib.hid (fun e => by have := (World.ownsRow.lt ho.out _ e).2; omega), Lib.hid ?_⟩
  · exact cell_alloc_new' _ _ _ (by simp) rfl
  · exact cell_alloc_new' _ _ _ (by simp) rfl
  · exact ho.out.alloc _
  · exact cell_alloc_new' _ _ _ (by simp) rfl
  · exact hb.out.alloc hb.out.size _

set_option maxRecDepth 100000 in
set_option maxHeartbeats 1000000 in
theorem wstepParent {B' : Nat} (s : Nat) (v : Value) (l : List Nat) (w : World) (bl len : Nat) (nb : Nat → Nat) (vv : Nat → Value) (ts : List NodeD) (hs : SelR w s v (l.map nb)) (hF : Forest B' w bl len nb vv ts) (hR : RightT ts len)
    (hin : ∀ i ∈ l, i < len) (hpos : ∀ i ∈ l, 0 < i) (hn : l.length ≤ 200) :
    Calls Tryz.prog 58 #[.pointer (some ⟨s, 0, none⟩)] w (StepPost s ((onceF (l.flatMap (fun x => (parEl ts x).toList))).map nb) w) := by
  have hp := parNodes_any v l w bl len nb vv ts hF hR hs.ptrs hin hn
  rw [← par_flat] at hp
  obtain ⟨L, hL⟩ : ∃ L, (onceF (l.flatMap (fun x => (parEl ts x).toList))).map nb = L := ⟨_, rfl⟩
  rw [hL] at hp ⊢
  obtain ⟨d, hd⟩ := hs.doc
  have c0 := hs.nodes
  have HP := Lib.hid hp
  have HD := Lib.hid hd
  clear hp hs hF hR hd hL hin hpos
  go_enter Tryz.func58, Tryz.ntmps58
  go_wp2_with fail
  refine HP.out.mono ?_
  rintro e w1 ⟨v', rfl, ho, hb⟩
  have c1' := cell_below hb.out HD.out
  have c0' := cell_below hb.out c0
  obtain ⟨a', cap', hv, _⟩ := ho.out.ptrs.nil
  rw [List.length_map] at hv
  subst hv
  clear HP HD
  go_wp2
  go_ret
  refine ⟨w1.heap.size, .slice a' L.length cap', rfl, Lib.hid ⟨?_, ⟨d, ?_⟩, ?_, hb.out.size⟩, ?_, Lib.hid (fun e => by have := (World.ownsRow.lt ho.out _ e).2; omega), Lib.hid ?_⟩
  · exact cell_alloc_new' _ _ _ (by simp) rfl
  · exact cell_alloc_new' _ _ _ (by simp) rfl
  · exact ho.out.alloc _
  · exact cell_alloc_new' _ _ _ (by simp) rfl
  · exact hb.out.alloc hb.out.size _

set_option maxRecDepth 100000 in
set_option maxHeartbeats 1000000 in
theorem wstepParents {B' : Nat} (s : Nat) (v : Value) (l : List Nat) (w : World) (bl len : Nat) (nb : Nat → Nat) (vv : Nat → Value) (ts : List NodeD) (hs : SelR w s v (l.map nb)) (hF : Forest B' w bl len nb vv ts) (hR : RightT ts len)
    (hin : ∀ i ∈ l, i < len) (hpos : ∀ i ∈ l, 0 < i) (hn : l.length ≤ 200) :
    Calls Tryz.prog 59 #[.pointer (some ⟨s, 0, none⟩)] w (StepPost s ((onceF (l.flatMap (ancL ts))).map nb) w) := by
  have hp := getParents_any v l w bl len nb vv ts hF hR hs.ptrs hin hn
  obtain ⟨L, hL⟩ : ∃ L, (onceF (l.flatMap (ancL ts))).map nb = L := ⟨_, rfl⟩
  rw [hL] at hp ⊢
  obtain ⟨d, hd⟩ := hs.doc
  have c0 := hs.nodes
  have HP := Lib.hid hp
  have HD := Lib.hid hd
  clear hp hs hF hR hd hL hin hpos
  go_enter Tryz.func59, Tryz.ntmps59
  go_wp2_with fail
  refine HP.out.mono ?_
  rintro e w1 ⟨v', rfl, ho, hb⟩
  have c1' := cell_below hb.out HD.out
  have c0' := cell_below hb.out c0
  obtain ⟨a', cap', hv, _⟩ := ho.out.ptrs.nil
  rw [List.length_map] at hv
  subst hv
  clear HP HD
  go_wp2
  go_ret
  refine ⟨w1.heap.size, .slice a' L.length cap', rfl, Lib.hid ⟨?_, ⟨d, ?_⟩, ?_, hb.out.size⟩, ?_, Lib.hid (fun e => by have := (World.ownsRow.lt ho.out _ e).2; omega), Lib.hid ?_⟩
  · exact cell_alloc_new' _ _ _ (by simp) rfl
  · exact cell_alloc_new' _ _ _ (by simp) rfl
  · exact ho.out.alloc _
  · exact cell_alloc_new' _ _ _ (by simp) rfl
  · exact hb.out.alloc hb.out.size _

set_option maxRecDepth 100000 in
set_option maxHeartbeats 1000000 in
theorem wstepNext {B' : Nat} (s : Nat) (v : Value) (l : List Nat) (w : World) (bl len : Nat) (nb : Nat → Nat) (vv : Nat → Value) (ts : List NodeD) (hs : SelR w s v (l.map nb)) (hF : Forest B' w bl len nb vv ts) (hR : RightT ts len)
    (hin : ∀ i ∈ l, i < len) (hpos : ∀ i ∈ l, 0 < i) (hn : l.length ≤ 200) :
    Calls Tryz.prog 60 #[.pointer (some ⟨s, 0, none⟩)] w (StepPost s ((onceF (l.flatMap (fn_1 ts len))).map nb) w) := by
  have hp := getSib_1 v l w bl len nb vv ts hF hR hs.ptrs hin hpos hn
  obtain ⟨L, hL⟩ : ∃ L, (onceF (l.flatMap (fn_1 ts len))).map nb = L := ⟨_, rfl⟩
  rw [hL] at hp ⊢
  obtain ⟨d, hd⟩ := hs.doc
  have c0 := hs.nodes
  have HP := Lib.hid hp
  have HD := Lib.hid hd
  clear hp hs hF hR hd hL hin hpos
  go_enter Tryz.func60, Tryz.ntmps60
  go_wp2_with fail
  refine HP.out.mono ?_
  rintro e w1 ⟨v', rfl, ho, hb⟩
  have c1' := cell_below hb.out HD.out
  have c0' := cell_below hb.out c0
  obtain ⟨a', cap', hv, _⟩ := ho.out.ptrs.nil
  rw [List.length_map] at hv
  subst hv
  clear HP HD
  go_wp2
  go_ret
  refine ⟨w1.heap.size, .slice a' L.length cap', rfl, Lib.hid ⟨?_, ⟨d, ?_⟩, ?_, hb.out.size⟩, ?_, Lib.hid (fun e => by have := (World.ownsRow.lt ho.out _ e).2; omega), Lib.hid ?_⟩
  · exact cell_alloc_new' _ _ _ (by simp) rfl
  · exact cell_alloc_new' _ _ _ (by simp) rfl
  · exact ho.out.alloc _
  · exact cell_alloc_new' _ _ _ (by simp) rfl
  · exact hb.out.alloc hb.out.size _

set_option maxRecDepth 100000 in
set_option maxHeartbeats 1000000 in
theorem wstepNextAll {B' : Nat} (s : Nat) (v : Value) (l : List Nat) (w : World) (bl len : Nat) (nb : Nat → Nat) (vv : Nat → Value) (ts : List NodeD) (hs : SelR w s v (l.map nb)) (hF : Forest B' w bl len nb vv ts) (hR : RightT ts len)
    (hin : ∀ i ∈ l, i < len) (hpos : ∀ i ∈ l, 0 < i) (hn : l.length ≤ 200) :
    Calls Tryz.prog 61 #[.pointer (some ⟨s, 0, none⟩)] w (StepPost s ((onceF (l.flatMap (fn_2 ts len))).map nb) w) := by
  have hp := getSib_2 v l w bl len nb vv ts hF hR hs.ptrs hin hpos hn
  obtain ⟨L, hL⟩ : ∃ L, (onceF (l.flatMap (fn_2 ts len))).map nb = L := ⟨_, rfl⟩
  rw [hL] at hp ⊢
  obtain ⟨d, hd⟩ := hs.doc
  have c0 := hs.nodes
  have HP := Lib.hid hp
  have HD := Lib.hid hd
  clear hp hs hF hR hd hL hin hpos
  go_enter Tryz.func61, Tryz.ntmps61
  go_wp2_with fail
  refine HP.out.mono ?_
  rintro e w1 ⟨v', rfl, ho, hb⟩
  have c1' := cell_below hb.out HD.out
  have c0' := cell_below hb.out c0
  obtain ⟨a', cap', hv, _⟩ := ho.out.ptrs.nil
  rw [List.length_map] at hv
  subst hv
  clear HP HD
  go_wp2
  go_ret
  refine ⟨w1.heap.size, .slice a' L.length cap', rfl, Lib.hid ⟨?_, ⟨d, ?_⟩, ?_, hb.out.size⟩, ?_, Lib.hid (fun e => by have := (World.ownsRow.lt ho.out _ e).2; omega), Lib.hid ?_⟩
  · exact cell_alloc_new' _ _ _ (by simp) rfl
  · exact cell_alloc_new' _ _ _ (by simp) rfl
  · exact ho.out.alloc _
  · exact cell_alloc_new' _ _ _ (by simp) rfl
  · exact hb.out.alloc hb.out.size _

set_option maxRecDepth 100000 in
set_option maxHeartbeats 1000000 in
theorem wstepPrev {B' : Nat} (s : Nat) (v : Value) (l : List Nat) (w : World) (bl len : Nat) (nb : Nat → Nat) (vv : Nat → Value) (ts : List NodeD) (hs : SelR w s v (l.map nb)) (hF : Forest B' w bl len nb vv ts) (hR : RightT ts len)
    (hin : ∀ i ∈ l, i < len) (hpos : ∀ i ∈ l, 0 < i) (hn : l.length ≤ 200) :
    Calls Tryz.prog 62 #[.pointer (some ⟨s, 0, none⟩)] w (StepPost s ((onceF (l.flatMap (fn_m1 ts len))).map nb) w) := by
  have hp := getSib_m1 v l w bl len nb vv ts hF hR hs.ptrs hin hpos hn
  obtain ⟨L, hL⟩ : ∃ L, (onceF (l.flatMap (fn_m1 ts len))).map nb = L := ⟨_, rfl⟩
  rw [hL] at hp ⊢
  obtain ⟨d, hd⟩ := hs.doc
  have c0 := hs.nodes
  have HP := Lib.hid hp
  have HD := Lib.hid hd
  clear hp hs hF hR hd hL hin hpos
  go_enter Tryz.func62, Tryz.ntmps62
  go_wp2_with fail
  refine HP.out.mono ?_
  rintro e w1 ⟨v', rfl, ho, hb⟩
  have c1' := cell_below hb.out HD.out
  have c0' := cell_below hb.out c0
  obtain ⟨a', cap', hv, _⟩ := ho.out.ptrs.nil
  rw [List.length_map] at hv
  subst hv
  clear HP HD
  go_wp2
  go_ret
  refine ⟨w1.heap.size, .slice a' L.length cap', rfl, Lib.hid ⟨?_, ⟨d, ?_⟩, ?_, hb.out.size⟩, ?_, Lib.hid (fun e => by have := (World.ownsRow.lt ho.out _ e).2; omega), Lib.hid ?_⟩
  · exact cell_alloc_new' _ _ _ (by simp) rfl
  · exact cell_alloc_new' _ _ _ (by simp) rfl
  · exact ho.out.alloc _
  · exact cell_alloc_new' _ _ _ (by simp) rfl
  · exact hb.out.alloc hb.out.size _

set_option maxRecDepth 100000 in
set_option maxHeartbeats 1000000 in
theorem wstepPrevAll {B' : Nat} (s : Nat) (v : Value) (l : List Nat) (w : World) (bl len : Nat) (nb : Nat → Nat) (vv : Nat → Value) (ts : List NodeD) (hs : SelR w s v (l.map nb)) (hF : Forest B' w bl len nb vv ts) (hR : RightT ts len)
    (hin : ∀ i ∈ l, i < len) (hpos : ∀ i ∈ l, 0 < i) (hn : l.length ≤ 200) :
    Calls Tryz.prog 63 #[.pointer (some ⟨s, 0, none⟩)] w (StepPost s ((onceF (l.flatMap (fn_m2 ts len))).map nb) w) := by
  have hp := getSib_m2 v l w bl len nb vv ts hF hR hs.ptrs hin hpos hn
  obtain ⟨L, hL⟩ : ∃ L, (onceF (l.flatMap (fn_m2 ts len))).map nb = L := ⟨_, rfl⟩
  rw [hL] at hp ⊢
  obtain ⟨d, hd⟩ := hs.doc
  have c0 := hs.nodes
  have HP := Lib.hid hp
  have HD := Lib.hid hd
  clear hp hs hF hR hd hL hin hpos
  go_enter Tryz.func63, Tryz.ntmps63
  go_wp2_with fail
  refine HP.out.mono ?_
  rintro e w1 ⟨v', rfl, ho, hb⟩
  have c1' := cell_below hb.out HD.out
  have c0' := cell_below hb.out c0
  obtain ⟨a', cap', hv, _⟩ := ho.out.ptrs.nil
  rw [List.length_map] at hv
  subst hv
  clear HP HD
  go_wp2
  go_ret
  refine ⟨w1.heap.size, .slice a' L.length cap', rfl, Lib.hid ⟨?_, ⟨d, ?_⟩, ?_, hb.out.size⟩, ?_, Lib.hid (fun e => by have := (World.ownsRow.lt ho.out _ e).2; omega), Lib.hid ?_⟩
  · exact cell_alloc_new' _ _ _ (by simp) rfl
  · exact cell_alloc_new' _ _ _ (by simp) rfl
  · exact ho.out.alloc _
  · exact cell_alloc_new' _ _ _ (by simp) rfl
  · exact hb.out.alloc hb.out.size _

set_option maxRecDepth 100000 in
set_option maxHeartbeats 1000000 in
theorem wstepSiblings {B' : Nat} (s : Nat) (v : Value) (l : List Nat) (w : World) (bl len : Nat) (nb : Nat → Nat) (vv : Nat → Value) (ts : List NodeD) (hs : SelR w s v (l.map nb)) (hF : Forest B' w bl len nb vv ts) (hR : RightT ts len)
    (hin : ∀ i ∈ l, i < len) (hpos : ∀ i ∈ l, 0 < i) (hn : l.length ≤ 200) :
    Calls Tryz.prog 91 #[.pointer (some ⟨s, 0, none⟩)] w (StepPost s ((onceF (l.flatMap (fn_0 ts len))).map nb) w) := by
  have hp := getSib_0 v l w bl len nb vv ts hF hR hs.ptrs hin hpos hn
  obtain ⟨L, hL⟩ : ∃ L, (onceF (l.flatMap (fn_0 ts len))).map nb = L := ⟨_, rfl⟩
  rw [hL] at hp ⊢
  obtain ⟨d, hd⟩ := hs.doc
  have c0 := hs.nodes
  have HP := Lib.hid hp
  have HD := Lib.hid hd
  clear hp hs hF hR hd hL hin hpos
  go_enter Tryz.func91, Tryz.ntmps91
  go_wp2_with fail
  refine HP.out.mono ?_
  rintro e w1 ⟨v', rfl, ho, hb⟩
  have c1' := cell_below hb.out HD.out
  have c0' := cell_below hb.out c0
  obtain ⟨a', cap', hv, _⟩ := ho.out.ptrs.nil
  rw [List.length_map] at hv
  subst hv
  clear HP HD
  go_wp2
  go_ret
  refine ⟨w1.heap.size, .slice a' L.length cap', rfl, Lib.hid ⟨?_, ⟨d, ?_⟩, ?_, hb.out.size⟩, ?_, Lib.hid (fun e => by have := (World.ownsRow.lt ho.out _ e).2; omega), Lib.hid ?_⟩
  · exact cell_alloc_new' _ _ _ (by simp) rfl
  · exact cell_alloc_new' _ _ _ (by simp) rfl
  · exact ho.out.alloc _
  · exact cell_alloc_new' _ _ _ (by simp) rfl
  · exact hb.out.alloc hb.out.size _

set_option maxRecDepth 100000 in
set_option maxHeartbeats 1000000 in
theorem wstepParentsUntilNodes {B' : Nat} (s : Nat) (v : Value) (l : List Nat) (w : World) (bl len : Nat) (nb : Nat → Nat) (vv : Nat → Value) (ts : List NodeD) (hs : SelR w s v (l.map nb)) (hF : Forest B' w bl len nb vv ts) (hR : RightT ts len)
    (hin : ∀ i ∈ l, i < len) (hpos : ∀ i ∈ l, 0 < i) (hn : l.length ≤ 200) (wa : Option Addr) (wc : Nat) (wl : List Nat) (hwl : ∀ y ∈ wl, y < len ∧ kd ts y = 3) (hws : wl.length ≤ 200) (h2 : PtrsOf w (.slice wa wl.length wc) (wl.map nb)) :
    Calls Tryz.prog 48 #[.pointer (some ⟨s, 0, none⟩), .slice wa wl.length wc] w (StepPost s ((onceF (l.flatMap (fun x => upToL (fun y => decide (y ∈ wl)) (ancL ts x)))).map nb) w) := by
  have hp := getParentsW v l w bl len nb vv ts hF hR hs.ptrs hin hn wa wc wl hwl hws h2
  obtain ⟨L, hL⟩ : ∃ L, (onceF (l.flatMap (fun x => upToL (fun y => decide (y ∈ wl)) (ancL ts x)))).map nb = L := ⟨_, rfl⟩
  rw [hL] at hp ⊢
  obtain ⟨d, hd⟩ := hs.doc
  have c0 := hs.nodes
  have HP := Lib.hid hp
  have HD := Lib.hid hd
  clear hp hs hF hR hd hL hin hpos hwl h2
  go_enter Tryz.func48, Tryz.ntmps48
  go_wp2_with fail
  refine HP.out.mono ?_
  rintro e w1 ⟨v', rfl, ho, hb⟩
  have c1' := cell_below hb.out HD.out
  have c0' := cell_below hb.out c0
  obtain ⟨a', cap', hv, _⟩ := ho.out.ptrs.nil
  rw [List.length_map] at hv
  subst hv
  clear HP HD
  go_wp2
  go_ret
  refine ⟨w1.heap.size, .slice a' L.length cap', rfl, Lib.hid ⟨?_, ⟨d, ?_⟩, ?_, hb.out.size⟩, ?_, Lib.hid (fun e => by have := (World.ownsRow.lt ho.out _ e).2; omega), Lib.hid ?_⟩
  · exact cell_alloc_new' _ _ _ (by simp) rfl
  · exact cell_alloc_new' _ _ _ (by simp) rfl
  · exact ho.out.alloc _
  · exact cell_alloc_new' _ _ _ (by simp) rfl
  · exact hb.out.alloc hb.out.size _

set_option maxRecDepth 100000 in
set_option maxHeartbeats 1000000 in
theorem wstepNextUntilNodes {B' : Nat} (s : Nat) (v : Value) (l : List Nat) (w : World) (bl len : Nat) (nb : Nat → Nat) (vv : Nat → Value) (ts : List NodeD) (hs : SelR w s v (l.map nb)) (hF : Forest B' w bl len nb vv ts) (hR : RightT ts len)
    (hin : ∀ i ∈ l, i < len) (hpos : ∀ i ∈ l, 0 < i) (hn : l.length ≤ 200) (wa : Option Addr) (wc : Nat) (wl : List Nat) (hwl : ∀ y ∈ wl, y < len ∧ kd ts y = 3) (hws : wl.length ≤ 200) (h2 : PtrsOf w (.slice wa wl.length wc) (wl.map nb)) :
    Calls Tryz.prog 49 #[.pointer (some ⟨s, 0, none⟩), .slice wa wl.length wc] w (StepPost s ((onceF (l.flatMap (fn_3 ts len wl))).map nb) w) := by
  have hp := getSib_3 v l w bl len nb vv ts hF hR hs.ptrs hin hpos hn (.slice wa wl.length wc) wl h2 (fun i hi => (hwl i hi).1)
  obtain ⟨L, hL⟩ : ∃ L, (onceF (l.flatMap (fn_3 ts len wl))).map nb = L := ⟨_, rfl⟩
  rw [hL] at hp ⊢
  obtain ⟨d, hd⟩ := hs.doc
  have c0 := hs.nodes
  have HP := Lib.hid hp
  have HD := Lib.hid hd
  clear hp hs hF hR hd hL hin hpos hwl h2
  go_enter Tryz.func49, Tryz.ntmps49
  go_wp2_with fail
  refine HP.out.mono ?_
  rintro e w1 ⟨v', rfl, ho, hb⟩
  have c1' := cell_below hb.out HD.out
  have c0' := cell_below hb.out c0
  obtain ⟨a', cap', hv, _⟩ := ho.out.ptrs.nil
  rw [List.length_map] at hv
  subst hv
  clear HP HD
  go_wp2
  go_ret
  refine ⟨w1.heap.size, .slice a' L.length cap', rfl, Lib.hid ⟨?_, ⟨d, ?_⟩, ?_, hb.out.size⟩, ?_, Lib.hid (fun e => by have := (World.ownsRow.lt ho.out _ e).2; omega), Lib.hid ?_⟩
  · exact cell_alloc_new' _ _ _ (by simp) rfl
  · exact cell_alloc_new' _ _ _ (by simp) rfl
  · exact ho.out.alloc _
  · exact cell_alloc_new' _ _ _ (by simp) rfl
  · exact hb.out.alloc hb.out.size _

set_option maxRecDepth 100000 in
set_option maxHeartbeats 1000000 in
theorem wstepPrevUntilNodes {B' : Nat} (s : Nat) (v : Value) (l : List Nat) (w : World) (bl len : Nat) (nb : Nat → Nat) (vv : Nat → Value) (ts : List NodeD) (hs : SelR w s v (l.map nb)) (hF : Forest B' w bl len nb vv ts) (hR : RightT ts len)
    (hin : ∀ i ∈ l, i < len) (hpos : ∀ i ∈ l, 0 < i) (hn : l.length ≤ 200) (wa : Option Addr) (wc : Nat) (wl : List Nat) (hwl : ∀ y ∈ wl, y < len ∧ kd ts y = 3) (hws : wl.length ≤ 200) (h2 : PtrsOf w (.slice wa wl.length wc) (wl.map nb)) :
    Calls Tryz.prog 50 #[.pointer (some ⟨s, 0, none⟩), .slice wa wl.length wc] w (StepPost s ((onceF (l.flatMap (fn_m3 ts len wl))).map nb) w) := by
  have hp := getSib_m3 v l w bl len nb vv ts hF hR hs.ptrs hin hpos hn (.slice wa wl.length wc) wl h2 (fun i hi => (hwl i hi).1)
  obtain ⟨L, hL⟩ : ∃ L, (onceF (l.flatMap (fn_m3 ts len wl))).map nb = L := ⟨_, rfl⟩
  rw [hL] at hp ⊢
  obtain ⟨d, hd⟩ := hs.doc
  have c0 := hs.nodes
  have HP := Lib.hid hp
  have HD := Lib.hid hd
  clear hp hs hF hR hd hL hin hpos hwl h2
  go_enter Tryz.func50, Tryz.ntmps50
  go_wp2_with fail
  refine HP.out.mono ?_
  rintro e w1 ⟨v', rfl, ho, hb⟩
  have c1' := cell_below hb.out HD.out
  have c0' := cell_below hb.out c0
  obtain ⟨a', cap', hv, _⟩ := ho.out.ptrs.nil
  rw [List.length_map] at hv
  subst hv
  clear HP HD
  go_wp2
  go_ret
  refine ⟨w1.heap.size, .slice a' L.length cap', rfl, Lib.hid ⟨?_, ⟨d, ?_⟩, ?_, hb.out.size⟩, ?_, Lib.hid (fun e => by have := (World.ownsRow.lt ho.out _ e).2; omega), Lib.hid ?_⟩
  · exact cell_alloc_new' _ _ _ (by simp) rfl
  · exact cell_alloc_new' _ _ _ (by simp) rfl
  · exact ho.out.alloc _
  · exact cell_alloc_new' _ _ _ (by simp) rfl
  · exact hb.out.alloc hb.out.size _

end Go.Proofs.YtphppdbhofeagaaGreat

namespace Go.Proofs.YtphppdbhofeagaaGreat
open Go.RowKit
set_option linter.unusedVariables false
set_option linter.unusedSimpArgs false

set_option maxRecDepth 100000 in
set_option maxHeartbeats 2000000 in
theorem wbySet_no (tx : ByteArray) (xa : Option Addr) (xn xc : Nat) (pa pb : Int) (op : Int) (hop : op ≠ 2 ∧ op ≠ 4 ∧ op ≠ 6 ∧ op ≠ 8 ∧ op ≠ 10 ∧ op ≠ 11 ∧ op ≠ 24 ∧ op ≠ 27 ∧ op ≠ 30 ∧ op ≠ 37 ∧ op ≠ 38 ∧ op ≠ 39 ∧ op ≠ 40) (s : Nat) (a : Option Addr) (n c : Nat) (w : World) :
    Calls Tryz.prog 27 #[.pointer (some ⟨s, 0, none⟩), .agg #[.int .i64 op, .string tx, .slice xa xn xc, .int .i64 pa, .int .i64 pb], .slice a n c] w (fun e w' => e = .returned (.pointer none) ∧ Below w.heap.size w w') := by
  have o2 : (op == 2) = false := by simp; omega
  have o4 : (op == 4) = false := by simp; omega
  have o6 : (op == 6) = false := by simp; omega
  have o8 : (op == 8) = false := by simp; omega
  have o10 : (op == 10) = false := by simp; omega
  have o11 : (op == 11) = false := by simp; omega
  have o24 : (op == 24) = false := by simp; omega
  have o27 : (op == 27) = false := by simp; omega
  have o30 : (op == 30) = false := by simp; omega
  have o37 : (op == 37) = false := by simp; omega
  have o38 : (op == 38) = false := by simp; omega
  have o39 : (op == 39) = false := by simp; omega
  have o40 : (op == 40) = false := by simp; omega
  have hb0 : Below w.heap.size w (w.alloc (.cells #[.int .i64 op, .string tx, .slice xa xn xc, .int .i64 pa, .int .i64 pb] 27)) := (Below.refl _ _).alloc (Nat.le_refl _) _
  have k0 : (w.alloc (.cells #[.int .i64 op, .string tx, .slice xa xn xc, .int .i64 pa, .int .i64 pb] 27)).cell? ⟨w.heap.size, 0, none⟩ = some (.int .i64 op) := cell_alloc_new' _ _ _ rfl rfl
  clear hop
  go_enter Tryz.func27, Tryz.ntmps27
  go_wp2
  go_ret
  exact ⟨rfl, hb0⟩

set_option maxRecDepth 100000 in
set_option maxHeartbeats 1000000 in
theorem wkin_20 (tx : ByteArray) (xa : Option Addr) (xn xc : Nat) (pa pb : Int) {B' : Nat} (s : Nat) (v : Value) (l : List Nat) (w : World) (bl len : Nat) (nb : Nat → Nat) (vv : Nat → Value) (ts : List NodeD) (hs : SelR w s v (l.map nb)) (hF : Forest B' w bl len nb vv ts) (hR : RightT ts len)
    (hin : ∀ i ∈ l, i < len) (hpos : ∀ i ∈ l, 0 < i) (hn : l.length ≤ 200) :
    Calls Tryz.prog 28 #[.pointer (some ⟨s, 0, none⟩), .agg #[.int .i64 20, .string tx, .slice xa xn xc, .int .i64 pa, .int .i64 pb]] w (StepPost s ((onceF (l.flatMap (kidL ts len))).map nb) w) := by
  have hb0 : Below w.heap.size w (w.alloc (.cells #[.int .i64 20, .string tx, .slice xa xn xc, .int .i64 pa, .int .i64 pb] 27)) := (Below.refl _ _).alloc (Nat.le_refl _) _
  have k0 : (w.alloc (.cells #[.int .i64 20, .string tx, .slice xa xn xc, .int .i64 pa, .int .i64 pb] 27)).cell? ⟨w.heap.size, 0, none⟩ = some (.int .i64 20) := cell_alloc_new' _ _ _ rfl rfl
  obtain ⟨w0, hw0⟩ : ∃ w0, w.alloc (.cells #[.int .i64 20, .string tx, .slice xa xn xc, .int .i64 pa, .int .i64 pb] 27) = w0 := ⟨_, rfl⟩
  rw [hw0] at hb0 k0
  have hst := wstepChildren s v l w0 bl len nb vv ts (hs.below hb0) (hF.below hb0) hR hin hpos hn
  obtain ⟨L, hL⟩ : ∃ L, (onceF (l.flatMap (kidL ts len))).map nb = L := ⟨_, rfl⟩
  rw [hL] at hst ⊢
  have HST := Lib.hid hst
  have HB := Lib.hid hb0
  clear hst hL hs hF hR hin hpos hb0
  go_enter Tryz.func28, Tryz.ntmps28
  go_wp2_with fail
  refine HST.out.mono ?_
  rintro e w1 ⟨s', v', rfl, h1, h2, h4, h3⟩
  have H1 := Lib.hid (h1.out.weaken HB.out.size)
  have H3 := Lib.hid (HB.out.trans (h3.out.mono HB.out.size))
  clear h1 h3 HST
  go_wp2
  go_ret
  exact ⟨s', v', rfl, H1, h2, h4, H3⟩

set_option maxRecDepth 100000 in
set_option maxHeartbeats 1000000 in
theorem wkin_21 (tx : ByteArray) (xa : Option Addr) (xn xc : Nat) (pa pb : Int) {B' : Nat} (s : Nat) (v : Value) (l : List Nat) (w : World) (bl len : Nat) (nb : Nat → Nat) (vv : Nat → Value) (ts : List NodeD) (hs : SelR w s v (l.map nb)) (hF : Forest B' w bl len nb vv ts) (hR : RightT ts len)
    (hin : ∀ i ∈ l, i < len) (hpos : ∀ i ∈ l, 0 < i) (hn : l.length ≤ 200) :
    Calls Tryz.prog 28 #[.pointer (some ⟨s, 0, none⟩), .agg #[.int .i64 21, .string tx, .slice xa xn xc, .int .i64 pa, .int .i64 pb]] w (StepPost s ((onceF (l.flatMap (conL ts len))).map nb) w) := by
  have hb0 : Below w.heap.size w (w.alloc (.cells #[.int .i64 21, .string tx, .slice xa xn xc, .int .i64 pa, .int .i64 pb] 27)) := (Below.refl _ _).alloc (Nat.le_refl _) _
  have k0 : (w.alloc (.cells #[.int .i64 21, .string tx, .slice xa xn xc, .int .i64 pa, .int .i64 pb] 27)).cell? ⟨w.heap.size, 0, none⟩ = some (.int .i64 21) := cell_alloc_new' _ _ _ rfl rfl
  obtain ⟨w0, hw0⟩ : ∃ w0, w.alloc (.cells #[.int .i64 21, .string tx, .slice xa xn xc, .int .i64 pa, .int .i64 pb] 27) = w0 := ⟨_, rfl⟩
  rw [hw0] at hb0 k0
  have hst := wstepContents s v l w0 bl len nb vv ts (hs.below hb0) (hF.below hb0) hR hin hpos hn
  obtain ⟨L, hL⟩ : ∃ L, (onceF (l.flatMap (conL ts len))).map nb = L := ⟨_, rfl⟩
  rw [hL] at hst ⊢
  have HST := Lib.hid hst
  have HB := Lib.hid hb0
  clear hst hL hs hF hR hin hpos hb0
  go_enter Tryz.func28, Tryz.ntmps28
  go_wp2_with fail
  refine HST.out.mono ?_
  rintro e w1 ⟨s', v', rfl, h1, h2, h4, h3⟩
  have H1 := Lib.hid (h1.out.weaken HB.out.size)
  have H3 := Lib.hid (HB.out.trans (h3.out.mono HB.out.size))
  clear h1 h3 HST
  go_wp2
  go_ret
  exact ⟨s', v', rfl, H1, h2, h4, H3⟩

set_option maxRecDepth 100000 in
set_option maxHeartbeats 1000000 in
theorem wkin_22 (tx : ByteArray) (xa : Option Addr) (xn xc : Nat) (pa pb : Int) {B' : Nat} (s : Nat) (v : Value) (l : List Nat) (w : World) (bl len : Nat) (nb : Nat → Nat) (vv : Nat → Value) (ts : List NodeD) (hs : SelR w s v (l.map nb)) (hF : Forest B' w bl len nb vv ts) (hR : RightT ts len)
    (hin : ∀ i ∈ l, i < len) (hpos : ∀ i ∈ l, 0 < i) (hn : l.length ≤ 200) :
    Calls Tryz.prog 28 #[.pointer (some ⟨s, 0, none⟩), .agg #[.int .i64 22, .string tx, .slice xa xn xc, .int .i64 pa, .int .i64 pb]] w (StepPost s ((onceF (l.flatMap (fun x => (parEl ts x).toList))).map nb) w) := by
  have hb0 : Below w.heap.size w (w.alloc (.cells #[.int .i64 22, .string tx, .slice xa xn xc, .int .i64 pa, .int .i64 pb] 27)) := (Below.refl _ _).alloc (Nat.le_refl _) _
  have k0 : (w.alloc (.cells #[.int .i64 22, .string tx, .slice xa xn xc, .int .i64 pa, .int .i64 pb] 27)).cell? ⟨w.heap.size, 0, none⟩ = some (.int .i64 22) := cell_alloc_new' _ _ _ rfl rfl
  obtain ⟨w0, hw0⟩ : ∃ w0, w.alloc (.cells #[.int .i64 22, .string tx, .slice xa xn xc, .int .i64 pa, .int .i64 pb] 27) = w0 := ⟨_, rfl⟩
  rw [hw0] at hb0 k0
  have hst := wstepParent s v l w0 bl len nb vv ts (hs.below hb0) (hF.below hb0) hR hin hpos hn
  obtain ⟨L, hL⟩ : ∃ L, (onceF (l.flatMap (fun x => (parEl ts x).toList))).map nb = L := ⟨_, rfl⟩
  rw [hL] at hst ⊢
  have HST := Lib.hid hst
  have HB := Lib.hid hb0
  clear hst hL hs hF hR hin hpos hb0
  go_enter Tryz.func28, Tryz.ntmps28
  go_wp2_with fail
  refine HST.out.mono ?_
  rintro e w1 ⟨s', v', rfl, h1, h2, h4, h3⟩
  have H1 := Lib.hid (h1.out.weaken HB.out.size)
  have H3 := Lib.hid (HB.out.trans (h3.out.mono HB.out.size))
  clear h1 h3 HST
  go_wp2
  go_ret
  exact ⟨s', v', rfl, H1, h2, h4, H3⟩

set_option maxRecDepth 100000 in
set_option maxHeartbeats 1000000 in
theorem wkin_23 (tx : ByteArray) (xa : Option Addr) (xn xc : Nat) (pa pb : Int) {B' : Nat} (s : Nat) (v : Value) (l : List Nat) (w : World) (bl len : Nat) (nb : Nat → Nat) (vv : Nat → Value) (ts : List NodeD) (hs : SelR w s v (l.map nb)) (hF : Forest B' w bl len nb vv ts) (hR : RightT ts len)
    (hin : ∀ i ∈ l, i < len) (hpos : ∀ i ∈ l, 0 < i) (hn : l.length ≤ 200) :
    Calls Tryz.prog 28 #[.pointer (some ⟨s, 0, none⟩), .agg #[.int .i64 23, .string tx, .slice xa xn xc, .int .i64 pa, .int .i64 pb]] w (StepPost s ((onceF (l.flatMap (ancL ts))).map nb) w) := by
  have hb0 : Below w.heap.size w (w.alloc (.cells #[.int .i64 23, .string tx, .slice xa xn xc, .int .i64 pa, .int .i64 pb] 27)) := (Below.refl _ _).alloc (Nat.le_refl _) _
  have k0 : (w.alloc (.cells #[.int .i64 23, .string tx, .slice xa xn xc, .int .i64 pa, .int .i64 pb] 27)).cell? ⟨w.heap.size, 0, none⟩ = some (.int .i64 23) := cell_alloc_new' _ _ _ rfl rfl
  obtain ⟨w0, hw0⟩ : ∃ w0, w.alloc (.cells #[.int .i64 23, .string tx, .slice xa xn xc, .int .i64 pa, .int .i64 pb] 27) = w0 := ⟨_, rfl⟩
  rw [hw0] at hb0 k0
  have hst := wstepParents s v l w0 bl len nb vv ts (hs.below hb0) (hF.below hb0) hR hin hpos hn
  obtain ⟨L, hL⟩ : ∃ L, (onceF (l.flatMap (ancL ts))).map nb = L := ⟨_, rfl⟩
  rw [hL] at hst ⊢
  have HST := Lib.hid hst
  have HB := Lib.hid hb0
  clear hst hL hs hF hR hin hpos hb0
  go_enter Tryz.func28, Tryz.ntmps28
  go_wp2_with fail
  refine HST.out.mono ?_
  rintro e w1 ⟨s', v', rfl, h1, h2, h4, h3⟩
  have H1 := Lib.hid (h1.out.weaken HB.out.size)
  have H3 := Lib.hid (HB.out.trans (h3.out.mono HB.out.size))
  clear h1 h3 HST
  go_wp2
  go_ret
  exact ⟨s', v', rfl, H1, h2, h4, H3⟩

set_option maxRecDepth 100000 in
set_option maxHeartbeats 1000000 in
theorem wkin_25 (tx : ByteArray) (xa : Option Addr) (xn xc : Nat) (pa pb : Int) {B' : Nat} (s : Nat) (v : Value) (l : List Nat) (w : World) (bl len : Nat) (nb : Nat → Nat) (vv : Nat → Value) (ts : List NodeD) (hs : SelR w s v (l.map nb)) (hF : Forest B' w bl len nb vv ts) (hR : RightT ts len)
    (hin : ∀ i ∈ l, i < len) (hpos : ∀ i ∈ l, 0 < i) (hn : l.length ≤ 200) :
    Calls Tryz.prog 28 #[.pointer (some ⟨s, 0, none⟩), .agg #[.int .i64 25, .string tx, .slice xa xn xc, .int .i64 pa, .int .i64 pb]] w (StepPost s ((onceF (l.flatMap (fn_1 ts len))).map nb) w) := by
  have hb0 : Below w.heap.size w (w.alloc (.cells #[.int .i64 25, .string tx, .slice xa xn xc, .int .i64 pa, .int .i64 pb] 27)) := (Below.refl _ _).alloc (Nat.le_refl _) _
  have k0 : (w.alloc (.cells #[.int .i64 25, .string tx, .slice xa xn xc, .int .i64 pa, .int .i64 pb] 27)).cell? ⟨w.heap.size, 0, none⟩ = some (.int .i64 25) := cell_alloc_new' _ _ _ rfl rfl
  obtain ⟨w0, hw0⟩ : ∃ w0, w.alloc (.cells #[.int .i64 25, .string tx, .slice xa xn xc, .int .i64 pa, .int .i64 pb] 27) = w0 := ⟨_, rfl⟩
  rw [hw0] at hb0 k0
  have hst := wstepNext s v l w0 bl len nb vv ts (hs.below hb0) (hF.below hb0) hR hin hpos hn
  obtain ⟨L, hL⟩ : ∃ L, (onceF (l.flatMap (fn_1 ts len))).map nb = L := ⟨_, rfl⟩
  rw [hL] at hst ⊢
  have HST := Lib.hid hst
  have HB := Lib.hid hb0
  clear hst hL hs hF hR hin hpos hb0
  go_enter Tryz.func28, Tryz.ntmps28
  go_wp2_with fail
  refine HST.out.mono ?_
  rintro e w1 ⟨s', v', rfl, h1, h2, h4, h3⟩
  have H1 := Lib.hid (h1.out.weaken HB.out.size)
  have H3 := Lib.hid (HB.out.trans (h3.out.mono HB.out.size))
  clear h1 h3 HST
  go_wp2
  go_ret
  exact ⟨s', v', rfl, H1, h2, h4, H3⟩

set_option maxRecDepth 100000 in
set_option maxHeartbeats 1000000 in
theorem wkin_26 (tx : ByteArray) (xa : Option Addr) (xn xc : Nat) (pa pb : Int) {B' : Nat} (s : Nat) (v : Value) (l : List Nat) (w : World) (bl len : Nat) (nb : Nat → Nat) (vv : Nat → Value) (ts : List NodeD) (hs : SelR w s v (l.map nb)) (hF : Forest B' w bl len nb vv ts) (hR : RightT ts len)
    (hin : ∀ i ∈ l, i < len) (hpos : ∀ i ∈ l, 0 < i) (hn : l.length ≤ 200) :
    Calls Tryz.prog 28 #[.pointer (some ⟨s, 0, none⟩), .agg #[.int .i64 26, .string tx, .slice xa xn xc, .int .i64 pa, .int .i64 pb]] w (StepPost s ((onceF (l.flatMap (fn_2 ts len))).map nb) w) := by
  have hb0 : Below w.heap.size w (w.alloc (.cells #[.int .i64 26, .string tx, .slice xa xn xc, .int .i64 pa, .int .i64 pb] 27)) := (Below.refl _ _).alloc (Nat.le_refl _) _
  have k0 : (w.alloc (.cells #[.int .i64 26, .string tx, .slice xa xn xc, .int .i64 pa, .int .i64 pb] 27)).cell? ⟨w.heap.size, 0, none⟩ = some (.int .i64 26) := cell_alloc_new' _ _ _ rfl rfl
  obtain ⟨w0, hw0⟩ : ∃ w0, w.alloc (.cells #[.int .i64 26, .string tx, .slice xa xn xc, .int .i64 pa, .int .i64 pb] 27) = w0 := ⟨_, rfl⟩
  rw [hw0] at hb0 k0
  have hst := wstepNextAll s v l w0 bl len nb vv ts (hs.below hb0) (hF.below hb0) hR hin hpos hn
  obtain ⟨L, hL⟩ : ∃ L, (onceF (l.flatMap (fn_2 ts len))).map nb = L := ⟨_, rfl⟩
  rw [hL] at hst ⊢
  have HST := Lib.hid hst
  have HB := Lib.hid hb0
  clear hst hL hs hF hR hin hpos hb0
  go_enter Tryz.func28, Tryz.ntmps28
  go_wp2_with fail
  refine HST.out.mono ?_
  rintro e w1 ⟨s', v', rfl, h1, h2, h4, h3⟩
  have H1 := Lib.hid (h1.out.weaken HB.out.size)
  have H3 := Lib.hid (HB.out.trans (h3.out.mono HB.out.size))
  clear h1 h3 HST
  go_wp2
  go_ret
  exact ⟨s', v', rfl, H1, h2, h4, H3⟩

set_option maxRecDepth 100000 in
set_option maxHeartbeats 1000000 in
theorem wkin_28 (tx : ByteArray) (xa : Option Addr) (xn xc : Nat) (pa pb : Int) {B' : Nat} (s : Nat) (v : Value) (l : List Nat) (w : World) (bl len : Nat) (nb : Nat → Nat) (vv : Nat → Value) (ts : List NodeD) (hs : SelR w s v (l.map nb)) (hF : Forest B' w bl len nb vv ts) (hR : RightT ts len)
    (hin : ∀ i ∈ l, i < len) (hpos : ∀ i ∈ l, 0 < i) (hn : l.length ≤ 200) :
    Calls Tryz.prog 28 #[.pointer (some ⟨s, 0, none⟩), .agg #[.int .i64 28, .string tx, .slice xa xn xc, .int .i64 pa, .int .i64 pb]] w (StepPost s ((onceF (l.flatMap (fn_m1 ts len))).map nb) w) := by
  have hb0 : Below w.heap.size w (w.alloc (.cells #[.int .i64 28, .string tx, .slice xa xn xc, .int .i64 pa, .int .i64 pb] 27)) := (Below.refl _ _).alloc (Nat.le_refl _) _
  have k0 : (w.alloc (.cells #[.int .i64 28, .string tx, .slice xa xn xc, .int .i64 pa, .int .i64 pb] 27)).cell? ⟨w.heap.size, 0, none⟩ = some (.int .i64 28) := cell_alloc_new' _ _ _ rfl rfl
  obtain ⟨w0, hw0⟩ : ∃ w0, w.alloc (.cells #[.int .i64 28, .string tx, .slice xa xn xc, .int .i64 pa, .int .i64 pb] 27) = w0 := ⟨_, rfl⟩
  rw [hw0] at hb0 k0
  have hst := wstepPrev s v l w0 bl len nb vv ts (hs.below hb0) (hF.below hb0) hR hin hpos hn
  obtain ⟨L, hL⟩ : ∃ L, (onceF (l.flatMap (fn_m1 ts len))).map nb = L := ⟨_, rfl⟩
  rw [hL] at hst ⊢
  have HST := Lib.hid hst
  have HB := Lib.hid hb0
  clear hst hL hs hF hR hin hpos hb0
  go_enter Tryz.func28, Tryz.ntmps28
  go_wp2_with fail
  refine HST.out.mono ?_
  rintro e w1 ⟨s', v', rfl, h1, h2, h4, h3⟩
  have H1 := Lib.hid (h1.out.weaken HB.out.size)
  have H3 := Lib.hid (HB.out.trans (h3.out.mono HB.out.size))
  clear h1 h3 HST
  go_wp2
  go_ret
  exact ⟨s', v', rfl, H1, h2, h4, H3⟩

set_option maxRecDepth 100000 in
set_option maxHeartbeats 1000000 in
theorem wkin_29 (tx : ByteArray) (xa : Option Addr) (xn xc : Nat) (pa pb : Int) {B' : Nat} (s : Nat) (v : Value) (l : List Nat) (w : World) (bl len : Nat) (nb : Nat → Nat) (vv : Nat → Value) (ts : List NodeD) (hs : SelR w s v (l.map nb)) (hF : Forest B' w bl len nb vv ts) (hR : RightT ts len)
    (hin : ∀ i ∈ l, i < len) (hpos : ∀ i ∈ l, 0 < i) (hn : l.length ≤ 200) :
    Calls Tryz.prog 28 #[.pointer (some ⟨s, 0, none⟩), .agg #[.int .i64 29, .string tx, .slice xa xn xc, .int .i64 pa, .int .i64 pb]] w (StepPost s ((onceF (l.flatMap (fn_m2 ts len))).map nb) w) := by
  have hb0 : Below w.heap.size w (w.alloc (.cells #[.int .i64 29, .string tx, .slice xa xn xc, .int .i64 pa, .int .i64 pb] 27)) := (Below.refl _ _).alloc (Nat.le_refl _) _
  have k0 : (w.alloc (.cells #[.int .i64 29, .string tx, .slice xa xn xc, .int .i64 pa, .int .i64 pb] 27)).cell? ⟨w.heap.size, 0, none⟩ = some (.int .i64 29) := cell_alloc_new' _ _ _ rfl rfl
  obtain ⟨w0, hw0⟩ : ∃ w0, w.alloc (.cells #[.int .i64 29, .string tx, .slice xa xn xc, .int .i64 pa, .int .i64 pb] 27) = w0 := ⟨_, rfl⟩
  rw [hw0] at hb0 k0
  have hst := wstepPrevAll s v l w0 bl len nb vv ts (hs.below hb0) (hF.below hb0) hR hin hpos hn
  obtain ⟨L, hL⟩ : ∃ L, (onceF (l.flatMap (fn_m2 ts len))).map nb = L := ⟨_, rfl⟩
  rw [hL] at hst ⊢
  have HST := Lib.hid hst
  have HB := Lib.hid hb0
  clear hst hL hs hF hR hin hpos hb0
  go_enter Tryz.func28, Tryz.ntmps28
  go_wp2_with fail
  refine HST.out.mono ?_
  rintro e w1 ⟨s', v', rfl, h1, h2, h4, h3⟩
  have H1 := Lib.hid (h1.out.weaken HB.out.size)
  have H3 := Lib.hid (HB.out.trans (h3.out.mono HB.out.size))
  clear h1 h3 HST
  go_wp2
  go_ret
  exact ⟨s', v', rfl, H1, h2, h4, H3⟩

set_option maxRecDepth 100000 in
set_option maxHeartbeats 2000000 in
theorem wstepSibs {B' : Nat} (s : Nat) (v : Value) (l : List Nat) (w : World) (bl len : Nat) (nb : Nat → Nat) (vv : Nat → Value) (ts : List NodeD) (hs : SelR w s v (l.map nb)) (hF : Forest B' w bl len nb vv ts) (hR : RightT ts len)
    (hin : ∀ i ∈ l, i < len) (hpos : ∀ i ∈ l, 0 < i) (hn : l.length ≤ 200) :
    Calls Tryz.prog 64 #[.pointer (some ⟨s, 0, none⟩)] w (StepPost s ((onceF (l.flatMap (fn_0 ts len))).map nb) w) := by
  have hp := wstepSiblings s v l w bl len nb vv ts hs hF hR hin hpos hn
  obtain ⟨L, hL⟩ : ∃ L, (onceF (l.flatMap (fn_0 ts len))).map nb = L := ⟨_, rfl⟩
  rw [hL] at hp ⊢
  have c0 := hs.nodes
  obtain ⟨a, cap, b, off, rfl, hm, ha, hc⟩ := ptrs_open hs.ptrs
  rw [List.length_map] at ha hc hm c0
  have HA := Lib.hid ha
  have HC := Lib.hid hc
  have HP := Lib.hid hp
  have HF := Lib.hid hF
  have HR := Lib.hid hR
  have HI := Lib.hid (And.intro hin hpos)
  clear hp hs hF hR hL hin hpos ha hc
  go_enter Tryz.func64, Tryz.ntmps64
  go_wp2
  go_loop [10] (fun i => ∃ k : Nat, k ≤ l.length ∧ i = .int .i64 (k : Int)) (fun i => l.length - (intOf i).toNat)
  case atStart => exact ⟨0, by omega, by go_num⟩
  case round =>
    obtain ⟨k, hk, rfl⟩ := hrel
    by_cases hlt : k < l.length
    · obtain rfl := HA.out (by omega)
      have ck := HC.out k hlt
      rw [show (l.map nb).getD k 0 = nb (l.getD k 0) by simp [List.getD, hlt]] at ck
      have hmem := getD_mem' (d := 0) hlt
      have hxl := HI.out.1 _ hmem
      obtain ⟨p, hp⟩ := par_is HR.out.root hxl (HI.out.2 _ hmem)
      obtain ⟨x, hx⟩ : ∃ x, l.getD k 0 = x := ⟨_, rfl⟩
      rw [hx] at ck hxl hp
      have kx := (HF.out.node hxl).par
      rw [show (nodeR (fun i => i + sz ts i) 0 nb (ts.getD x default) (vv x) x).par = (up (fun i => i + sz ts i) 0 x).map nb from rfl, up_par, hp, Option.map_some, lk_some] at kx
      have hkI : (k : Int) < (l.length : Int) := by omega
      clear hmem hxl hp hx
      go_wp2
      go_round
      case rel => exact ⟨k + 1, by omega, by go_num⟩
      case measure => simp [intOf]; omega
    · obtain rfl : k = l.length := by omega
      clear hlt
      go_wp2_with fail
      refine HP.out.mono ?_
      rintro e w1 ⟨s1, v1, rfl, hs1, hp1, hq1, hb1⟩
      go_wp2
      go_ret
      exact ⟨s1, v1, rfl, hs1, hp1, hq1, hb1⟩

set_option maxRecDepth 100000 in
set_option maxHeartbeats 1000000 in
theorem wkin_31 (tx : ByteArray) (xa : Option Addr) (xn xc : Nat) (pa pb : Int) {B' : Nat} (s : Nat) (v : Value) (l : List Nat) (w : World) (bl len : Nat) (nb : Nat → Nat) (vv : Nat → Value) (ts : List NodeD) (hs : SelR w s v (l.map nb)) (hF : Forest B' w bl len nb vv ts) (hR : RightT ts len)
    (hin : ∀ i ∈ l, i < len) (hpos : ∀ i ∈ l, 0 < i) (hn : l.length ≤ 200) :
    Calls Tryz.prog 28 #[.pointer (some ⟨s, 0, none⟩), .agg #[.int .i64 31, .string tx, .slice xa xn xc, .int .i64 pa, .int .i64 pb]] w (StepPost s ((onceF (l.flatMap (fn_0 ts len))).map nb) w) := by
  have hb0 : Below w.heap.size w (w.alloc (.cells #[.int .i64 31, .string tx, .slice xa xn xc, .int .i64 pa, .int .i64 pb] 27)) := (Below.refl _ _).alloc (Nat.le_refl _) _
  have k0 : (w.alloc (.cells #[.int .i64 31, .string tx, .slice xa xn xc, .int .i64 pa, .int .i64 pb] 27)).cell? ⟨w.heap.size, 0, none⟩ = some (.int .i64 31) := cell_alloc_new' _ _ _ rfl rfl
  obtain ⟨w0, hw0⟩ : ∃ w0, w.alloc (.cells #[.int .i64 31, .string tx, .slice xa xn xc, .int .i64 pa, .int .i64 pb] 27) = w0 := ⟨_, rfl⟩
  rw [hw0] at hb0 k0
  have hst := wstepSibs s v l w0 bl len nb vv ts (hs.below hb0) (hF.below hb0) hR hin hpos hn
  obtain ⟨L, hL⟩ : ∃ L, (onceF (l.flatMap (fn_0 ts len))).map nb = L := ⟨_, rfl⟩
  rw [hL] at hst ⊢
  have HST := Lib.hid hst
  have HB := Lib.hid hb0
  clear hst hL hs hF hR hin hpos hb0
  go_enter Tryz.func28, Tryz.ntmps28
  go_wp2_with fail
  refine HST.out.mono ?_
  rintro e w1 ⟨s', v', rfl, h1, h2, h4, h3⟩
  have H1 := Lib.hid (h1.out.weaken HB.out.size)
  have H3 := Lib.hid (HB.out.trans (h3.out.mono HB.out.size))
  clear h1 h3 HST
  go_wp2
  go_ret
  exact ⟨s', v', rfl, H1, h2, h4, H3⟩

set_option maxRecDepth 100000 in
set_option maxHeartbeats 1000000 in
theorem wbySet_24 (tx : ByteArray) (xa : Option Addr) (xn xc : Nat) (pa pb : Int) {B' : Nat} (s : Nat) (v : Value) (l : List Nat) (w : World) (bl len : Nat) (nb : Nat → Nat) (vv : Nat → Value) (ts : List NodeD) (hs : SelR w s v (l.map nb)) (hF : Forest B' w bl len nb vv ts) (hR : RightT ts len)
    (hin : ∀ i ∈ l, i < len) (hpos : ∀ i ∈ l, 0 < i) (hn : l.length ≤ 200) (wa : Option Addr) (wc : Nat) (wl : List Nat) (hwl : ∀ y ∈ wl, y < len ∧ kd ts y = 3) (hws : wl.length ≤ 200) (h2 : PtrsOf w (.slice wa wl.length wc) (wl.map nb)) :
    Calls Tryz.prog 27 #[.pointer (some ⟨s, 0, none⟩), .agg #[.int .i64 24, .string tx, .slice xa xn xc, .int .i64 pa, .int .i64 pb], .slice wa wl.length wc] w (StepPost s ((onceF (l.flatMap (fun x => upToL (fun y => decide (y ∈ wl)) (ancL ts x)))).map nb) w) := by
  have hb0 : Below w.heap.size w (w.alloc (.cells #[.int .i64 24, .string tx, .slice xa xn xc, .int .i64 pa, .int .i64 pb] 27)) := (Below.refl _ _).alloc (Nat.le_refl _) _
  have k0 : (w.alloc (.cells #[.int .i64 24, .string tx, .slice xa xn xc, .int .i64 pa, .int .i64 pb] 27)).cell? ⟨w.heap.size, 0, none⟩ = some (.int .i64 24) := cell_alloc_new' _ _ _ rfl rfl
  obtain ⟨w0, hw0⟩ : ∃ w0, w.alloc (.cells #[.int .i64 24, .string tx, .slice xa xn xc, .int .i64 pa, .int .i64 pb] 27) = w0 := ⟨_, rfl⟩
  rw [hw0] at hb0 k0
  have hst := wstepParentsUntilNodes s v l w0 bl len nb vv ts (hs.below hb0) (hF.below hb0) hR hin hpos hn wa wc wl hwl hws (h2.below hb0)
  obtain ⟨L, hL⟩ : ∃ L, (onceF (l.flatMap (fun x => upToL (fun y => decide (y ∈ wl)) (ancL ts x)))).map nb = L := ⟨_, rfl⟩
  rw [hL] at hst ⊢
  have HST := Lib.hid hst
  have HB := Lib.hid hb0
  clear hst hL hs hF hR hin hpos hb0 hwl h2
  go_enter Tryz.func27, Tryz.ntmps27
  go_wp2_with fail
  refine HST.out.mono ?_
  rintro e w1 ⟨s', v', rfl, h1, h2, h4, h3⟩
  have H1 := Lib.hid (h1.out.weaken HB.out.size)
  have H3 := Lib.hid (HB.out.trans (h3.out.mono HB.out.size))
  clear h1 h3 HST
  go_wp2
  go_ret
  exact ⟨s', v', rfl, H1, h2, h4, H3⟩

set_option maxRecDepth 100000 in
set_option maxHeartbeats 1000000 in
theorem wbySet_27 (tx : ByteArray) (xa : Option Addr) (xn xc : Nat) (pa pb : Int) {B' : Nat} (s : Nat) (v : Value) (l : List Nat) (w : World) (bl len : Nat) (nb : Nat → Nat) (vv : Nat → Value) (ts : List NodeD) (hs : SelR w s v (l.map nb)) (hF : Forest B' w bl len nb vv ts) (hR : RightT ts len)
    (hin : ∀ i ∈ l, i < len) (hpos : ∀ i ∈ l, 0 < i) (hn : l.length ≤ 200) (wa : Option Addr) (wc : Nat) (wl : List Nat) (hwl : ∀ y ∈ wl, y < len ∧ kd ts y = 3) (hws : wl.length ≤ 200) (h2 : PtrsOf w (.slice wa wl.length wc) (wl.map nb)) :
    Calls Tryz.prog 27 #[.pointer (some ⟨s, 0, none⟩), .agg #[.int .i64 27, .string tx, .slice xa xn xc, .int .i64 pa, .int .i64 pb], .slice wa wl.length wc] w (StepPost s ((onceF (l.flatMap (fn_3 ts len wl))).map nb) w) := by
  have hb0 : Below w.heap.size w (w.alloc (.cells #[.int .i64 27, .string tx, .slice xa xn xc, .int .i64 pa, .int .i64 pb] 27)) := (Below.refl _ _).alloc (Nat.le_refl _) _
  have k0 : (w.alloc (.cells #[.int .i64 27, .string tx, .slice xa xn xc, .int .i64 pa, .int .i64 pb] 27)).cell? ⟨w.heap.size, 0, none⟩ = some (.int .i64 27) := cell_alloc_new' _ _ _ rfl rfl
  obtain ⟨w0, hw0⟩ : ∃ w0, w.alloc (.cells #[.int .i64 27, .string tx, .slice xa xn xc, .int .i64 pa, .int .i64 pb] 27) = w0 := ⟨_, rfl⟩
  rw [hw0] at hb0 k0
  have hst := wstepNextUntilNodes s v l w0 bl len nb vv ts (hs.below hb0) (hF.below hb0) hR hin hpos hn wa wc wl hwl hws (h2.below hb0)
  obtain ⟨L, hL⟩ : ∃ L, (onceF (l.flatMap (fn_3 ts len wl))).map nb = L := ⟨_, rfl⟩
  rw [hL] at hst ⊢
  have HST := Lib.hid hst
  have HB := Lib.hid hb0
  clear hst hL hs hF hR hin hpos hb0 hwl h2
  go_enter Tryz.func27, Tryz.ntmps27
  go_wp2_with fail
  refine HST.out.mono ?_
  rintro e w1 ⟨s', v', rfl, h1, h2, h4, h3⟩
  have H1 := Lib.hid (h1.out.weaken HB.out.size)
  have H3 := Lib.hid (HB.out.trans (h3.out.mono HB.out.size))
  clear h1 h3 HST
  go_wp2
  go_ret
  exact ⟨s', v', rfl, H1, h2, h4, H3⟩

set_option maxRecDepth 100000 in
set_option maxHeartbeats 1000000 in
theorem wbySet_30 (tx : ByteArray) (xa : Option Addr) (xn xc : Nat) (pa pb : Int) {B' : Nat} (s : Nat) (v : Value) (l : List Nat) (w : World) (bl len : Nat) (nb : Nat → Nat) (vv : Nat → Value) (ts : List NodeD) (hs : SelR w s v (l.map nb)) (hF : Forest B' w bl len nb vv ts) (hR : RightT ts len)
    (hin : ∀ i ∈ l, i < len) (hpos : ∀ i ∈ l, 0 < i) (hn : l.length ≤ 200) (wa : Option Addr) (wc : Nat) (wl : List Nat) (hwl : ∀ y ∈ wl, y < len ∧ kd ts y = 3) (hws : wl.length ≤ 200) (h2 : PtrsOf w (.slice wa wl.length wc) (wl.map nb)) :
    Calls Tryz.prog 27 #[.pointer (some ⟨s, 0, none⟩), .agg #[.int .i64 30, .string tx, .slice xa xn xc, .int .i64 pa, .int .i64 pb], .slice wa wl.length wc] w (StepPost s ((onceF (l.flatMap (fn_m3 ts len wl))).map nb) w) := by
  have hb0 : Below w.heap.size w (w.alloc (.cells #[.int .i64 30, .string tx, .slice xa xn xc, .int .i64 pa, .int .i64 pb] 27)) := (Below.refl _ _).alloc (Nat.le_refl _) _
  have k0 : (w.alloc (.cells #[.int .i64 30, .string tx, .slice xa xn xc, .int .i64 pa, .int .i64 pb] 27)).cell? ⟨w.heap.size, 0, none⟩ = some (.int .i64 30) := cell_alloc_new' _ _ _ rfl rfl
  obtain ⟨w0, hw0⟩ : ∃ w0, w.alloc (.cells #[.int .i64 30, .string tx, .slice xa xn xc, .int .i64 pa, .int .i64 pb] 27) = w0 := ⟨_, rfl⟩
  rw [hw0] at hb0 k0
  have hst := wstepPrevUntilNodes s v l w0 bl len nb vv ts (hs.below hb0) (hF.below hb0) hR hin hpos hn wa wc wl hwl hws (h2.below hb0)
  obtain ⟨L, hL⟩ : ∃ L, (onceF (l.flatMap (fn_m3 ts len wl))).map nb = L := ⟨_, rfl⟩
  rw [hL] at hst ⊢
  have HST := Lib.hid hst
  have HB := Lib.hid hb0
  clear hst hL hs hF hR hin hpos hb0 hwl h2
  go_enter Tryz.func27, Tryz.ntmps27
  go_wp2_with fail
  refine HST.out.mono ?_
  rintro e w1 ⟨s', v', rfl, h1, h2, h4, h3⟩
  have H1 := Lib.hid (h1.out.weaken HB.out.size)
  have H3 := Lib.hid (HB.out.trans (h3.out.mono HB.out.size))
  clear h1 h3 HST
  go_wp2
  go_ret
  exact ⟨s', v', rfl, H1, h2, h4, H3⟩

end Go.Proofs.YtphppdbhofeagaaGreat

