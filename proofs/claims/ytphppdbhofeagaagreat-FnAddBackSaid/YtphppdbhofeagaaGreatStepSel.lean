/- The methods of Selection that go to relatives, and the selection before the step. (Printed by gen_step.py.) -/
import Derived.Test.YtphppdbhofeagaaGreatSibEnd
import Derived.Test.YtphppdbhofeagaaGreatParAll
import Derived.Test.YtphppdbhofeagaaGreatUpNodes
namespace Go.Proofs.YtphppdbhofeagaaGreat
open Go.RowKit
set_option linter.unusedVariables false
set_option linter.unusedSimpArgs false

/-- A selection behind a step: its nodes, and the selection before. -/
def StepPost (s : Nat) (l : List Nat) (w : World) (e : Ending) (w' : World) : Prop :=
  ∃ s' v, e = .returned (.pointer (some ⟨s', 0, none⟩)) ∧ Hid (SelAt w' s' v l w.heap.size) ∧ w'.cell? ⟨s', 2, none⟩ = some (.pointer (some ⟨s, 0, none⟩)) ∧ Hid (v.ownBlock ≠ some s') ∧ Hid (Below w.heap.size w w')

theorem par_flat (ts : List NodeD) (l : List Nat) : l.flatMap (fun x => (parEl ts x).toList) = parList ts l := by
  unfold parList
  induction l with
  | nil => rfl
  | cons x r ih =>
    rw [List.flatMap_cons, ih]
    cases h : parEl ts x with
    | none => simp [h]
    | some p => simp [h]

set_option maxRecDepth 100000 in
set_option maxHeartbeats 1000000 in
theorem stepChildren {B B' : Nat} (s : Nat) (v : Value) (l : List Nat) (w : World) (bl len : Nat) (nb : Nat → Nat) (vv : Nat → Value) (ts : List NodeD) (hs : SelAt w s v (l.map nb) B) (hF : Forest B' w bl len nb vv ts) (hR : RightT ts len)
    (hin : ∀ i ∈ l, i < len) (hpos : ∀ i ∈ l, 0 < i) (hn : l.length ≤ 200) :
    Calls Tryz.prog 56 #[.pointer (some ⟨s, 0, none⟩)] w (StepPost s ((onceF (l.flatMap (kidL ts len))).map nb) w) := by
  have hp := getKids v l w bl len nb vv ts hF hR hs.own.ptrs hin hn
  obtain ⟨L, hL⟩ : ∃ L, (onceF (l.flatMap (kidL ts len))).map nb = L := ⟨_, rfl⟩
  rw [hL] at hp ⊢
  obtain ⟨d, hd⟩ := hs.doc
  have c0 := hs.nodes
  have HP := Lib.hid hp
  have HD := Lib.hid hd
  clear hp hs hF hR hd hL hin hpos
  go_enter Tryz.func56, Tryz.ntmps56
  go_wp2_with fail
  refine HP.out.mono ?_
  rintro e w1 ⟨v', rfl, ho, hb⟩
  have c1' := cell_below hb.out HD.out
  have c0' := cell_below hb.out c0
  obtain ⟨a', cap', hv, _⟩ := ho.out.ptrs.nil
  rw [List.length_map] at hv
  subst hv
  clear HP HD
  go_wp2
  go_ret
  refine ⟨w1.heap.size, .slice a' L.length cap', rfl, Lib.hid ⟨?_, ⟨d, ?_⟩, ?_, hb.out.size⟩, ?_, Lib.hid (fun e => by have := (World.ownsRow.lt ho.out _ e).2; omega), Lib.hid ?_⟩
  · exact cell_alloc_new' _ _ _ (by simp) rfl
  · exact cell_alloc_new' _ _ _ (by simp) rfl
  · exact ho.out.alloc _
  · exact cell_alloc_new' _ _ _ (by simp) rfl
  · exact hb.out.alloc hb.out.size _

set_option maxRecDepth 100000 in
set_option maxHeartbeats 1000000 in
theorem stepParent {B B' : Nat} (s : Nat) (v : Value) (l : List Nat) (w : World) (bl len : Nat) (nb : Nat → Nat) (vv : Nat → Value) (ts : List NodeD) (hs : SelAt w s v (l.map nb) B) (hF : Forest B' w bl len nb vv ts) (hR : RightT ts len)
    (hin : ∀ i ∈ l, i < len) (hpos : ∀ i ∈ l, 0 < i) (hn : l.length ≤ 200) :
    Calls Tryz.prog 58 #[.pointer (some ⟨s, 0, none⟩)] w (StepPost s ((onceF (l.flatMap (fun x => (parEl ts x).toList))).map nb) w) := by
  have hp := parNodes_any v l w bl len nb vv ts hF hR hs.own.ptrs hin hn
  rw [← par_flat] at hp
  obtain ⟨L, hL⟩ : ∃ L, (onceF (l.flatMap (fun x => (parEl ts x).toList))).map nb = L := ⟨_, rfl⟩
  rw [hL] at hp ⊢
  obtain ⟨d, hd⟩ := hs.doc
  have c0 := hs.nodes
  have HP := Lib.hid hp
  have HD := Lib.hid hd
  clear hp hs hF hR hd hL hin hpos
  go_enter Tryz.func58, Tryz.ntmps58
  go_wp2_with fail
  refine HP.out.mono ?_
  rintro e w1 ⟨v', rfl, ho, hb⟩
  have c1' := cell_below hb.out HD.out
  have c0' := cell_below hb.out c0
  obtain ⟨a', cap', hv, _⟩ := ho.out.ptrs.nil
  rw [List.length_map] at hv
  subst hv
  clear HP HD
  go_wp2
  go_ret
  refine ⟨w1.heap.size, .slice a' L.length cap', rfl, Lib.hid ⟨?_, ⟨d, ?_⟩, ?_, hb.out.size⟩, ?_, Lib.hid (fun e => by have := (World.ownsRow.lt ho.out _ e).2; omega), Lib.hid ?_⟩
  · exact cell_alloc_new' _ _ _ (by simp) rfl
  · exact cell_alloc_new' _ _ _ (by simp) rfl
  · exact ho.out.alloc _
  · exact cell_alloc_new' _ _ _ (by simp) rfl
  · exact hb.out.alloc hb.out.size _

set_option maxRecDepth 100000 in
set_option maxHeartbeats 1000000 in
theorem stepParents {B B' : Nat} (s : Nat) (v : Value) (l : List Nat) (w : World) (bl len : Nat) (nb : Nat → Nat) (vv : Nat → Value) (ts : List NodeD) (hs : SelAt w s v (l.map nb) B) (hF : Forest B' w bl len nb vv ts) (hR : RightT ts len)
    (hin : ∀ i ∈ l, i < len) (hpos : ∀ i ∈ l, 0 < i) (hn : l.length ≤ 200) :
    Calls Tryz.prog 59 #[.pointer (some ⟨s, 0, none⟩)] w (StepPost s ((onceF (l.flatMap (ancL ts))).map nb) w) := by
  have hp := getParents_any v l w bl len nb vv ts hF hR hs.own.ptrs hin hn
  obtain ⟨L, hL⟩ : ∃ L, (onceF (l.flatMap (ancL ts))).map nb = L := ⟨_, rfl⟩
  rw [hL] at hp ⊢
  obtain ⟨d, hd⟩ := hs.doc
  have c0 := hs.nodes
  have HP := Lib.hid hp
  have HD := Lib.hid hd
  clear hp hs hF hR hd hL hin hpos
  go_enter Tryz.func59, Tryz.ntmps59
  go_wp2_with fail
  refine HP.out.mono ?_
  rintro e w1 ⟨v', rfl, ho, hb⟩
  have c1' := cell_below hb.out HD.out
  have c0' := cell_below hb.out c0
  obtain ⟨a', cap', hv, _⟩ := ho.out.ptrs.nil
  rw [List.length_map] at hv
  subst hv
  clear HP HD
  go_wp2
  go_ret
  refine ⟨w1.heap.size, .slice a' L.length cap', rfl, Lib.hid ⟨?_, ⟨d, ?_⟩, ?_, hb.out.size⟩, ?_, Lib.hid (fun e => by have := (World.ownsRow.lt ho.out _ e).2; omega), Lib.hid ?_⟩
  · exact cell_alloc_new' _ _ _ (by simp) rfl
  · exact cell_alloc_new' _ _ _ (by simp) rfl
  · exact ho.out.alloc _
  · exact cell_alloc_new' _ _ _ (by simp) rfl
  · exact hb.out.alloc hb.out.size _

set_option maxRecDepth 100000 in
set_option maxHeartbeats 1000000 in
theorem stepNext {B B' : Nat} (s : Nat) (v : Value) (l : List Nat) (w : World) (bl len : Nat) (nb : Nat → Nat) (vv : Nat → Value) (ts : List NodeD) (hs : SelAt w s v (l.map nb) B) (hF : Forest B' w bl len nb vv ts) (hR : RightT ts len)
    (hin : ∀ i ∈ l, i < len) (hpos : ∀ i ∈ l, 0 < i) (hn : l.length ≤ 200) :
    Calls Tryz.prog 60 #[.pointer (some ⟨s, 0, none⟩)] w (StepPost s ((onceF (l.flatMap (fn_1 ts len))).map nb) w) := by
  have hp := getSib_1 v l w bl len nb vv ts hF hR hs.own.ptrs hin hpos hn
  obtain ⟨L, hL⟩ : ∃ L, (onceF (l.flatMap (fn_1 ts len))).map nb = L := ⟨_, rfl⟩
  rw [hL] at hp ⊢
  obtain ⟨d, hd⟩ := hs.doc
  have c0 := hs.nodes
  have HP := Lib.hid hp
  have HD := Lib.hid hd
  clear hp hs hF hR hd hL hin hpos
  go_enter Tryz.func60, Tryz.ntmps60
  go_wp2_with fail
  refine HP.out.mono ?_
  rintro e w1 ⟨v', rfl, ho, hb⟩
  have c1' := cell_below hb.out HD.out
  have c0' := cell_below hb.out c0
  obtain ⟨a', cap', hv, _⟩ := ho.out.ptrs.nil
  rw [List.length_map] at hv
  subst hv
  clear HP HD
  go_wp2
  go_ret
  refine ⟨w1.heap.size, .slice a' L.length cap', rfl, Lib.hid ⟨?_, ⟨d, ?_⟩, ?_, hb.out.size⟩, ?_, Lib.hid (fun e => by have := (World.ownsRow.lt ho.out _ e).2; omega), Lib.hid ?_⟩
  · exact cell_alloc_new' _ _ _ (by simp) rfl
  · exact cell_alloc_new' _ _ _ (by simp) rfl
  · exact ho.out.alloc _
  · exact cell_alloc_new' _ _ _ (by simp) rfl
  · exact hb.out.alloc hb.out.size _

set_option maxRecDepth 100000 in
set_option maxHeartbeats 1000000 in
theorem stepNextAll {B B' : Nat} (s : Nat) (v : Value) (l : List Nat) (w : World) (bl len : Nat) (nb : Nat → Nat) (vv : Nat → Value) (ts : List NodeD) (hs : SelAt w s v (l.map nb) B) (hF : Forest B' w bl len nb vv ts) (hR : RightT ts len)
    (hin : ∀ i ∈ l, i < len) (hpos : ∀ i ∈ l, 0 < i) (hn : l.length ≤ 200) :
    Calls Tryz.prog 61 #[.pointer (some ⟨s, 0, none⟩)] w (StepPost s ((onceF (l.flatMap (fn_2 ts len))).map nb) w) := by
  have hp := getSib_2 v l w bl len nb vv ts hF hR hs.own.ptrs hin hpos hn
  obtain ⟨L, hL⟩ : ∃ L, (onceF (l.flatMap (fn_2 ts len))).map nb = L := ⟨_, rfl⟩
  rw [hL] at hp ⊢
  obtain ⟨d, hd⟩ := hs.doc
  have c0 := hs.nodes
  have HP := Lib.hid hp
  have HD := Lib.hid hd
  clear hp hs hF hR hd hL hin hpos
  go_enter Tryz.func61, Tryz.ntmps61
  go_wp2_with fail
  refine HP.out.mono ?_
  rintro e w1 ⟨v', rfl, ho, hb⟩
  have c1' := cell_below hb.out HD.out
  have c0' := cell_below hb.out c0
  obtain ⟨a', cap', hv, _⟩ := ho.out.ptrs.nil
  rw [List.length_map] at hv
  subst hv
  clear HP HD
  go_wp2
  go_ret
  refine ⟨w1.heap.size, .slice a' L.length cap', rfl, Lib.hid ⟨?_, ⟨d, ?_⟩, ?_, hb.out.size⟩, ?_, Lib.hid (fun e => by have := (World.ownsRow.lt ho.out _ e).2; omega), Lib.hid ?_⟩
  · exact cell_alloc_new' _ _ _ (by simp) rfl
  · exact cell_alloc_new' _ _ _ (by simp) rfl
  · exact ho.out.alloc _
  · exact cell_alloc_new' _ _ _ (by simp) rfl
  · exact hb.out.alloc hb.out.size _

set_option maxRecDepth 100000 in
set_option maxHeartbeats 1000000 in
theorem stepPrev {B B' : Nat} (s : Nat) (v : Value) (l : List Nat) (w : World) (bl len : Nat) (nb : Nat → Nat) (vv : Nat → Value) (ts : List NodeD) (hs : SelAt w s v (l.map nb) B) (hF : Forest B' w bl len nb vv ts) (hR : RightT ts len)
    (hin : ∀ i ∈ l, i < len) (hpos : ∀ i ∈ l, 0 < i) (hn : l.length ≤ 200) :
    Calls Tryz.prog 62 #[.pointer (some ⟨s, 0, none⟩)] w (StepPost s ((onceF (l.flatMap (fn_m1 ts len))).map nb) w) := by
  have hp := getSib_m1 v l w bl len nb vv ts hF hR hs.own.ptrs hin hpos hn
  obtain ⟨L, hL⟩ : ∃ L, (onceF (l.flatMap (fn_m1 ts len))).map nb = L := ⟨_, rfl⟩
  rw [hL] at hp ⊢
  obtain ⟨d, hd⟩ := hs.doc
  have c0 := hs.nodes
  have HP := Lib.hid hp
  have HD := Lib.hid hd
  clear hp hs hF hR hd hL hin hpos
  go_enter Tryz.func62, Tryz.ntmps62
  go_wp2_with fail
  refine HP.out.mono ?_
  rintro e w1 ⟨v', rfl, ho, hb⟩
  have c1' := cell_below hb.out HD.out
  have c0' := cell_below hb.out c0
  obtain ⟨a', cap', hv, _⟩ := ho.out.ptrs.nil
  rw [List.length_map] at hv
  subst hv
  clear HP HD
  go_wp2
  go_ret
  refine ⟨w1.heap.size, .slice a' L.length cap', rfl, Lib.hid ⟨?_, ⟨d, ?_⟩, ?_, hb.out.size⟩, ?_, Lib.hid (fun e => by have := (World.ownsRow.lt ho.out _ e).2; omega), Lib.hid ?_⟩
  · exact cell_alloc_new' _ _ _ (by simp) rfl
  · exact cell_alloc_new' _ _ _ (by simp) rfl
  · exact ho.out.alloc _
  · exact cell_alloc_new' _ _ _ (by simp) rfl
  · exact hb.out.alloc hb.out.size _

set_option maxRecDepth 100000 in
set_option maxHeartbeats 1000000 in
theorem stepPrevAll {B B' : Nat} (s : Nat) (v : Value) (l : List Nat) (w : World) (bl len : Nat) (nb : Nat → Nat) (vv : Nat → Value) (ts : List NodeD) (hs : SelAt w s v (l.map nb) B) (hF : Forest B' w bl len nb vv ts) (hR : RightT ts len)
    (hin : ∀ i ∈ l, i < len) (hpos : ∀ i ∈ l, 0 < i) (hn : l.length ≤ 200) :
    Calls Tryz.prog 63 #[.pointer (some ⟨s, 0, none⟩)] w (StepPost s ((onceF (l.flatMap (fn_m2 ts len))).map nb) w) := by
  have hp := getSib_m2 v l w bl len nb vv ts hF hR hs.own.ptrs hin hpos hn
  obtain ⟨L, hL⟩ : ∃ L, (onceF (l.flatMap (fn_m2 ts len))).map nb = L := ⟨_, rfl⟩
  rw [hL] at hp ⊢
  obtain ⟨d, hd⟩ := hs.doc
  have c0 := hs.nodes
  have HP := Lib.hid hp
  have HD := Lib.hid hd
  clear hp hs hF hR hd hL hin hpos
  go_enter Tryz.func63, Tryz.ntmps63
  go_wp2_with fail
  refine HP.out.mono ?_
  rintro e w1 ⟨v', rfl, ho, hb⟩
  have c1' := cell_below hb.out HD.out
  have c0' := cell_below hb.out c0
  obtain ⟨a', cap', hv, _⟩ := ho.out.ptrs.nil
  rw [List.length_map] at hv
  subst hv
  clear HP HD
  go_wp2
  go_ret
  refine ⟨w1.heap.size, .slice a' L.length cap', rfl, Lib.hid ⟨?_, ⟨d, ?_⟩, ?_, hb.out.size⟩, ?_, Lib.hid (fun e => by have := (World.ownsRow.lt ho.out _ e).2; omega), Lib.hid ?_⟩
  · exact cell_alloc_new' _ _ _ (by simp) rfl
  · exact cell_alloc_new' _ _ _ (by simp) rfl
  · exact ho.out.alloc _
  · exact cell_alloc_new' _ _ _ (by simp) rfl
  · exact hb.out.alloc hb.out.size _

set_option maxRecDepth 100000 in
set_option maxHeartbeats 1000000 in
theorem stepSiblings {B B' : Nat} (s : Nat) (v : Value) (l : List Nat) (w : World) (bl len : Nat) (nb : Nat → Nat) (vv : Nat → Value) (ts : List NodeD) (hs : SelAt w s v (l.map nb) B) (hF : Forest B' w bl len nb vv ts) (hR : RightT ts len)
    (hin : ∀ i ∈ l, i < len) (hpos : ∀ i ∈ l, 0 < i) (hn : l.length ≤ 200) :
    Calls Tryz.prog 91 #[.pointer (some ⟨s, 0, none⟩)] w (StepPost s ((onceF (l.flatMap (fn_0 ts len))).map nb) w) := by
  have hp := getSib_0 v l w bl len nb vv ts hF hR hs.own.ptrs hin hpos hn
  obtain ⟨L, hL⟩ : ∃ L, (onceF (l.flatMap (fn_0 ts len))).map nb = L := ⟨_, rfl⟩
  rw [hL] at hp ⊢
  obtain ⟨d, hd⟩ := hs.doc
  have c0 := hs.nodes
  have HP := Lib.hid hp
  have HD := Lib.hid hd
  clear hp hs hF hR hd hL hin hpos
  go_enter Tryz.func91, Tryz.ntmps91
  go_wp2_with fail
  refine HP.out.mono ?_
  rintro e w1 ⟨v', rfl, ho, hb⟩
  have c1' := cell_below hb.out HD.out
  have c0' := cell_below hb.out c0
  obtain ⟨a', cap', hv, _⟩ := ho.out.ptrs.nil
  rw [List.length_map] at hv
  subst hv
  clear HP HD
  go_wp2
  go_ret
  refine ⟨w1.heap.size, .slice a' L.length cap', rfl, Lib.hid ⟨?_, ⟨d, ?_⟩, ?_, hb.out.size⟩, ?_, Lib.hid (fun e => by have := (World.ownsRow.lt ho.out _ e).2; omega), Lib.hid ?_⟩
  · exact cell_alloc_new' _ _ _ (by simp) rfl
  · exact cell_alloc_new' _ _ _ (by simp) rfl
  · exact ho.out.alloc _
  · exact cell_alloc_new' _ _ _ (by simp) rfl
  · exact hb.out.alloc hb.out.size _

end Go.Proofs.YtphppdbhofeagaaGreat
