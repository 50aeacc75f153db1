/- The methods of Selection that go to relatives, and the selection before the step. (Printed by gen_step.py.) impl.bySet, impl.kin at the steps to relatives. (Printed by gen_step.py.) goquery: AddSelection, AddNodes, AddBack; impl.bySet at AddBack. -/
import Derived.Test.YtphppdbhofeagaaGreatSibEnd
import Derived.Test.YtphppdbhofeagaaGreatParAll
import Derived.Test.YtphppdbhofeagaaGreatUpAll
namespace Go.Proofs.YtphppdbhofeagaaGreat
open Go.RowKit
set_option linter.unusedVariables false
set_option linter.unusedSimpArgs false

/-- A selection behind a step: its nodes, and the selection before. -/
def StepPost (s : Nat) (l : List Nat) (w : World) (e : Ending) (w' : World) : Prop :=
  ∃ s' v, e = .returned (.pointer (some ⟨s', 0, none⟩)) ∧ Hid (SelAt w' s' v l w.heap.size) ∧ w'.cell? ⟨s', 2, none⟩ = some (.pointer (some ⟨s, 0, none⟩)) ∧ Hid (v.ownBlock ≠ some s') ∧ Hid (Below w.heap.size w w')

theorem par_flat (ts : List NodeD) (l : List Nat) : l.flatMap (fun x => (parEl ts x).toList) = parList ts l := by
  unfold parList
  induction l with
  | nil => rfl
  | cons x r ih =>
    rw [List.flatMap_cons, ih]
    cases h : parEl ts x with
    | none => simp [h]
    | some p => simp [h]

set_option maxRecDepth 100000 in
set_option maxHeartbeats 1000000 in
theorem stepChildren {B B' : Nat} (s : Nat) (v : Value) (l : List Nat) (w : World) (bl len : Nat) (nb : Nat → Nat) (vv : Nat → Value) (ts : List NodeD) (hs : SelAt w s v (l.map nb) B) (hF : Forest B' w bl len nb vv ts) (hR : RightT ts len)
    (hin : ∀ i ∈ l, i < len) (hpos : ∀ i ∈ l, 0 < i) (hn : l.length ≤ 200) :
    Calls Tryz.prog 56 #[.pointer (some ⟨s, 0, none⟩)] w (StepPost s ((onceF (l.flatMap (kidL ts len))).map nb) w) := by
  have hp := getKids v l w bl len nb vv ts hF hR hs.own.ptrs hin hn
  obtain ⟨L, hL⟩ : ∃ L, (onceF (l.flatMap (kidL ts len))).map nb = L := ⟨_, rfl⟩
  rw [hL] at hp ⊢
  obtain ⟨d, hd⟩ := hs.doc
  have c0 := hs.nodes
  have HP := Lib.hid hp
  have HD := Lib.hid hd
  clear hp hs hF hR hd hL hin hpos
  go_enter Tryz.func56, Tryz.ntmps56
  go_wp2_with fail
  refine HP.out.mono ?_
  rintro e w1 ⟨v', rfl, ho, hb⟩
  have c1' := cell_below hb.out HD.out
  have c0' := cell_below hb.out c0
  obtain ⟨a', cap', hv, _⟩ := ho.out.ptrs.nil
  rw [List.length_map] at hv
  subst hv
  clear HP HD
  go_wp2
  go_ret
  refine ⟨w1.heap.size, .slice a' L.length cap', rfl, Lib.hid ⟨?_, ⟨d, ?_⟩, ?_, hb.out.size⟩, ?_, Lib.hid (fun e => by have := (World.ownsRow.lt ho.out _ e).2; omega), Lib.hid ?_⟩
  · exact cell_alloc_new' _ _ _ (by simp) rfl
  · exact cell_alloc_new' _ _ _ (by simp) rfl
  · exact ho.out.alloc _
  · exact cell_alloc_new' _ _ _ (by simp) rfl
  · exact hb.out.alloc hb.out.size _

set_option maxRecDepth 100000 in
set_option maxHeartbeats 1000000 in
theorem stepParent {B B' : Nat} (s : Nat) (v : Value) (l : List Nat) (w : World) (bl len : Nat) (nb : Nat → Nat) (vv : Nat → Value) (ts : List NodeD) (hs : SelAt w s v (l.map nb) B) (hF : Forest B' w bl len nb vv ts) (hR : RightT ts len)
    (hin : ∀ i ∈ l, i < len) (hpos : ∀ i ∈ l, 0 < i) (hn : l.length ≤ 200) :
    Calls Tryz.prog 58 #[.pointer (some ⟨s, 0, none⟩)] w (StepPost s ((onceF (l.flatMap (fun x => (parEl ts x).toList))).map nb) w) := by
  have hp := parNodes_any v l w bl len nb vv ts hF hR hs.own.ptrs hin hn
  rw [← par_flat] at hp
  obtain ⟨L, hL⟩ : ∃ L, (onceF (l.flatMap (fun x => (parEl ts x).toList))).map nb = L := ⟨_, rfl⟩
  rw [hL] at hp ⊢
  obtain ⟨d, hd⟩ := hs.doc
  have c0 := hs.nodes
  have HP := Lib.hid hp
  have HD := Lib.hid hd
  clear hp hs hF hR hd hL hin hpos
  go_enter Tryz.func58, Tryz.ntmps58
  go_wp2_with fail
  refine HP.out.mono ?_
  rintro e w1 ⟨v', rfl, ho, hb⟩
  have c1' := cell_below hb.out HD.out
  have c0' := cell_below hb.out c0
  obtain ⟨a', cap', hv, _⟩ := ho.out.ptrs.nil
  rw [List.length_map] at hv
  subst hv
  clear HP HD
  go_wp2
  go_ret
  refine ⟨w1.heap.size, .slice a' L.length cap', rfl, Lib.hid ⟨?_, ⟨d, ?_⟩, ?_, hb.out.size⟩, ?_, Lib.hid (fun e => by have := (World.ownsRow.lt ho.out _ e).2; omega), Lib.hid ?_⟩
  · exact cell_alloc_new' _ _ _ (by simp) rfl
  · exact cell_alloc_new' _ _ _ (by simp) rfl
  · exact ho.out.alloc _
  · exact cell_alloc_new' _ _ _ (by simp) rfl
  · exact hb.out.alloc hb.out.size _

set_option maxRecDepth 100000 in
set_option maxHeartbeats 1000000 in
theorem stepParents {B B' : Nat} (s : Nat) (v : Value) (l : List Nat) (w : World) (bl len : Nat) (nb : Nat → Nat) (vv : Nat → Value) (ts : List NodeD) (hs : SelAt w s v (l.map nb) B) (hF : Forest B' w bl len nb vv ts) (hR : RightT ts len)
    (hin : ∀ i ∈ l, i < len) (hpos : ∀ i ∈ l, 0 < i) (hn : l.length ≤ 200) :
    Calls Tryz.prog 59 #[.pointer (some ⟨s, 0, none⟩)] w (StepPost s ((onceF (l.flatMap (ancL ts))).map nb) w) := by
  have hp := getParents_any v l w bl len nb vv ts hF hR hs.own.ptrs hin hn
  obtain ⟨L, hL⟩ : ∃ L, (onceF (l.flatMap (ancL ts))).map nb = L := ⟨_, rfl⟩
  rw [hL] at hp ⊢
  obtain ⟨d, hd⟩ := hs.doc
  have c0 := hs.nodes
  have HP := Lib.hid hp
  have HD := Lib.hid hd
  clear hp hs hF hR hd hL hin hpos
  go_enter Tryz.func59, Tryz.ntmps59
  go_wp2_with fail
  refine HP.out.mono ?_
  rintro e w1 ⟨v', rfl, ho, hb⟩
  have c1' := cell_below hb.out HD.out
  have c0' := cell_below hb.out c0
  obtain ⟨a', cap', hv, _⟩ := ho.out.ptrs.nil
  rw [List.length_map] at hv
  subst hv
  clear HP HD
  go_wp2
  go_ret
  refine ⟨w1.heap.size, .slice a' L.length cap', rfl, Lib.hid ⟨?_, ⟨d, ?_⟩, ?_, hb.out.size⟩, ?_, Lib.hid (fun e => by have := (World.ownsRow.lt ho.out _ e).2; omega), Lib.hid ?_⟩
  · exact cell_alloc_new' _ _ _ (by simp) rfl
  · exact cell_alloc_new' _ _ _ (by simp) rfl
  · exact ho.out.alloc _
  · exact cell_alloc_new' _ _ _ (by simp) rfl
  · exact hb.out.alloc hb.out.size _

set_option maxRecDepth 100000 in
set_option maxHeartbeats 1000000 in
theorem stepNext {B B' : Nat} (s : Nat) (v : Value) (l : List Nat) (w : World) (bl len : Nat) (nb : Nat → Nat) (vv : Nat → Value) (ts : List NodeD) (hs : SelAt w s v (l.map nb) B) (hF : Forest B' w bl len nb vv ts) (hR : RightT ts len)
    (hin : ∀ i ∈ l, i < len) (hpos : ∀ i ∈ l, 0 < i) (hn : l.length ≤ 200) :
    Calls Tryz.prog 60 #[.pointer (some ⟨s, 0, none⟩)] w (StepPost s ((onceF (l.flatMap (fn_1 ts len))).map nb) w) := by
  have hp := getSib_1 v l w bl len nb vv ts hF hR hs.own.ptrs hin hpos hn
  obtain ⟨L, hL⟩ : ∃ L, (onceF (l.flatMap (fn_1 ts len))).map nb = L := ⟨_, rfl⟩
  rw [hL] at hp ⊢
  obtain ⟨d, hd⟩ := hs.doc
  have c0 := hs.nodes
  have HP := Lib.hid hp
  have HD := Lib.hid hd
  clear hp hs hF hR hd hL hin hpos
  go_enter Tryz.func60, Tryz.ntmps60
  go_wp2_with fail
  refine HP.out.mono ?_
  rintro e w1 ⟨v', rfl, ho, hb⟩
  have c1' := cell_below hb.out HD.out
  have c0' := cell_below hb.out c0
  obtain ⟨a', cap', hv, _⟩ := ho.out.ptrs.nil
  rw [List.length_map] at hv
  subst hv
  clear HP HD
  go_wp2
  go_ret
  refine ⟨w1.heap.size, .slice a' L.length cap', rfl, Lib.hid ⟨?_, ⟨d, ?_⟩, ?_, hb.out.size⟩, ?_, Lib.hid (fun e => by have := (World.ownsRow.lt ho.out _ e).2; omega), Lib.hid ?_⟩
  · exact cell_alloc_new' _ _ _ (by simp) rfl
  · exact cell_alloc_new' _ _ _ (by simp) rfl
  · exact ho.out.alloc _
  · exact cell_alloc_new' _ _ _ (by simp) rfl
  · exact hb.out.alloc hb.out.size _

set_option maxRecDepth 100000 in
set_option maxHeartbeats 1000000 in
theorem stepNextAll {B B' : Nat} (s : Nat) (v : Value) (l : List Nat) (w : World) (bl len : Nat) (nb : Nat → Nat) (vv : Nat → Value) (ts : List NodeD) (hs : SelAt w s v (l.map nb) B) (hF : Forest B' w bl len nb vv ts) (hR : RightT ts len)
    (hin : ∀ i ∈ l, i < len) (hpos : ∀ i ∈ l, 0 < i) (hn : l.length ≤ 200) :
    Calls Tryz.prog 61 #[.pointer (some ⟨s, 0, none⟩)] w (StepPost s ((onceF (l.flatMap (fn_2 ts len))).map nb) w) := by
  have hp := getSib_2 v l w bl len nb vv ts hF hR hs.own.ptrs hin hpos hn
  obtain ⟨L, hL⟩ : ∃ L, (onceF (l.flatMap (fn_2 ts len))).map nb = L := ⟨_, rfl⟩
  rw [hL] at hp ⊢
  obtain ⟨d, hd⟩ := hs.doc
  have c0 := hs.nodes
  have HP := Lib.hid hp
  have HD := Lib.hid hd
  clear hp hs hF hR hd hL hin hpos
  go_enter Tryz.func61, Tryz.ntmps61
  go_wp2_with fail
  refine HP.out.mono ?_
  rintro e w1 ⟨v', rfl, ho, hb⟩
  have c1' := cell_below hb.out HD.out
  have c0' := cell_below hb.out c0
  obtain ⟨a', cap', hv, _⟩ := ho.out.ptrs.nil
  rw [List.length_map] at hv
  subst hv
  clear HP HD
  go_wp2
  go_ret
  refine ⟨w1.heap.size, .slice a' L.length cap', rfl, Lib.hid ⟨?_, ⟨d, ?_⟩, ?_, hb.out.size⟩, ?_, Lib.hid (fun e => by have := (World.ownsRow.lt ho.out _ e).2; omega), Lib.hid ?_⟩
  · exact cell_alloc_new' _ _ _ (by simp) rfl
  · exact cell_alloc_new' _ _ _ (by simp) rfl
  · exact ho.out.alloc _
  · exact cell_alloc_new' _ _ _ (by simp) rfl
  · exact hb.out.alloc hb.out.size _

set_option maxRecDepth 100000 in
set_option maxHeartbeats 1000000 in
theorem stepPrev {B B' : Nat} (s : Nat) (v : Value) (l : List Nat) (w : World) (bl len : Nat) (nb : Nat → Nat) (vv : Nat → Value) (ts : List NodeD) (hs : SelAt w s v (l.map nb) B) (hF : Forest B' w bl len nb vv ts) (hR : RightT ts len)
    (hin : ∀ i ∈ l, i < len) (hpos : ∀ i ∈ l, 0 < i) (hn : l.length ≤ 200) :
    Calls Tryz.prog 62 #[.pointer (some ⟨s, 0, none⟩)] w (StepPost s ((onceF (l.flatMap (fn_m1 ts len))).map nb) w) := by
  have hp := getSib_m1 v l w bl len nb vv ts hF hR hs.own.ptrs hin hpos hn
  obtain ⟨L, hL⟩ : ∃ L, (onceF (l.flatMap (fn_m1 ts len))).map nb = L := ⟨_, rfl⟩
  rw [hL] at hp ⊢
  obtain ⟨d, hd⟩ := hs.doc
  have c0 := hs.nodes
  have HP := Lib.hid hp
  have HD := Lib.hid hd
  clear hp hs hF hR hd hL hin hpos
  go_enter Tryz.func62, Tryz.ntmps62
  go_wp2_with fail
  refine HP.out.mono ?_
  rintro e w1 ⟨v', rfl, ho, hb⟩
  have c1' := cell_below hb.out HD.out
  have c0' := cell_below hb.out c0
  obtain ⟨a', cap', hv, _⟩ := ho.out.ptrs.nil
  rw [List.length_map] at hv
  subst hv
  clear HP HD
  go_wp2
  go_ret
  refine ⟨w1.heap.size, .slice a' L.length cap', rfl, Lib.hid ⟨?_, ⟨d, ?_⟩, ?_, hb.out.size⟩, ?_, Lib.hid (fun e => by have := (World.ownsRow.lt ho.out _ e).2; omega), Lib.hid ?_⟩
  · exact cell_alloc_new' _ _ _ (by simp) rfl
  · exact cell_alloc_new' _ _ _ (by simp) rfl
  · exact ho.out.alloc _
  · exact cell_alloc_new' _ _ _ (by simp) rfl
  · exact hb.out.alloc hb.out.size _

set_option maxRecDepth 100000 in
set_option maxHeartbeats 1000000 in
theorem stepPrevAll {B B' : Nat} (s : Nat) (v : Value) (l : List Nat) (w : World) (bl len : Nat) (nb : Nat → Nat) (vv : Nat → Value) (ts : List NodeD) (hs : SelAt w s v (l.map nb) B) (hF : Forest B' w bl len nb vv ts) (hR : RightT ts len)
    (hin : ∀ i ∈ l, i < len) (hpos : ∀ i ∈ l, 0 < i) (hn : l.length ≤ 200) :
    Calls Tryz.prog 63 #[.pointer (some ⟨s, 0, none⟩)] w (StepPost s ((onceF (l.flatMap (fn_m2 ts len))).map nb) w) := by
  have hp := getSib_m2 v l w bl len nb vv ts hF hR hs.own.ptrs hin hpos hn
  obtain ⟨L, hL⟩ : ∃ L, (onceF (l.flatMap (fn_m2 ts len))).map nb = L := ⟨_, rfl⟩
  rw [hL] at hp ⊢
  obtain ⟨d, hd⟩ := hs.doc
  have c0 := hs.nodes
  have HP := Lib.hid hp
  have HD := Lib.hid hd
  clear hp hs hF hR hd hL hin hpos
  go_enter Tryz.func63, Tryz.ntmps63
  go_wp2_with fail
  refine HP.out.mono ?_
  rintro e w1 ⟨v', rfl, ho, hb⟩
  have c1' := cell_below hb.out HD.out
  have c0' := cell_below hb.out c0
  obtain ⟨a', cap', hv, _⟩ := ho.out.ptrs.nil
  rw [List.length_map] at hv
  subst hv
  clear HP HD
  go_wp2
  go_ret
  refine ⟨w1.heap.size, .slice a' L.length cap', rfl, Lib.hid ⟨?_, ⟨d, ?_⟩, ?_, hb.out.size⟩, ?_, Lib.hid (fun e => by have := (World.ownsRow.lt ho.out _ e).2; omega), Lib.hid ?_⟩
  · exact cell_alloc_new' _ _ _ (by simp) rfl
  · exact cell_alloc_new' _ _ _ (by simp) rfl
  · exact ho.out.alloc _
  · exact cell_alloc_new' _ _ _ (by simp) rfl
  · exact hb.out.alloc hb.out.size _

set_option maxRecDepth 100000 in
set_option maxHeartbeats 1000000 in
theorem stepSiblings {B B' : Nat} (s : Nat) (v : Value) (l : List Nat) (w : World) (bl len : Nat) (nb : Nat → Nat) (vv : Nat → Value) (ts : List NodeD) (hs : SelAt w s v (l.map nb) B) (hF : Forest B' w bl len nb vv ts) (hR : RightT ts len)
    (hin : ∀ i ∈ l, i < len) (hpos : ∀ i ∈ l, 0 < i) (hn : l.length ≤ 200) :
    Calls Tryz.prog 91 #[.pointer (some ⟨s, 0, none⟩)] w (StepPost s ((onceF (l.flatMap (fn_0 ts len))).map nb) w) := by
  have hp := getSib_0 v l w bl len nb vv ts hF hR hs.own.ptrs hin hpos hn
  obtain ⟨L, hL⟩ : ∃ L, (onceF (l.flatMap (fn_0 ts len))).map nb = L := ⟨_, rfl⟩
  rw [hL] at hp ⊢
  obtain ⟨d, hd⟩ := hs.doc
  have c0 := hs.nodes
  have HP := Lib.hid hp
  have HD := Lib.hid hd
  clear hp hs hF hR hd hL hin hpos
  go_enter Tryz.func91, Tryz.ntmps91
  go_wp2_with fail
  refine HP.out.mono ?_
  rintro e w1 ⟨v', rfl, ho, hb⟩
  have c1' := cell_below hb.out HD.out
  have c0' := cell_below hb.out c0
  obtain ⟨a', cap', hv, _⟩ := ho.out.ptrs.nil
  rw [List.length_map] at hv
  subst hv
  clear HP HD
  go_wp2
  go_ret
  refine ⟨w1.heap.size, .slice a' L.length cap', rfl, Lib.hid ⟨?_, ⟨d, ?_⟩, ?_, hb.out.size⟩, ?_, Lib.hid (fun e => by have := (World.ownsRow.lt ho.out _ e).2; omega), Lib.hid ?_⟩
  · exact cell_alloc_new' _ _ _ (by simp) rfl
  · exact cell_alloc_new' _ _ _ (by simp) rfl
  · exact ho.out.alloc _
  · exact cell_alloc_new' _ _ _ (by simp) rfl
  · exact hb.out.alloc hb.out.size _

end Go.Proofs.YtphppdbhofeagaaGreat

namespace Go.Proofs.YtphppdbhofeagaaGreat
open Go.RowKit
set_option linter.unusedVariables false
set_option linter.unusedSimpArgs false

set_option maxRecDepth 100000 in
set_option maxHeartbeats 1000000 in
theorem bySet_20 (s : Nat) (a : Option Addr) (n c : Nat) (w : World) :
    Calls Tryz.prog 27 #[.pointer (some ⟨s, 0, none⟩), .agg #[.int .i64 20, .string ⟨#[]⟩, .slice none 0 0, .int .i64 0, .int .i64 0], .slice a n c] w (fun e w' => e = .returned (.pointer none) ∧ Below w.heap.size w w') := by
  have hb0 : Below w.heap.size w (w.alloc (.cells #[.int .i64 20, .string ⟨#[]⟩, .slice none 0 0, .int .i64 0, .int .i64 0] 27)) := (Below.refl _ _).alloc (Nat.le_refl _) _
  have k0 : (w.alloc (.cells #[.int .i64 20, .string ⟨#[]⟩, .slice none 0 0, .int .i64 0, .int .i64 0] 27)).cell? ⟨w.heap.size, 0, none⟩ = some (.int .i64 20) := cell_alloc_new' _ _ _ rfl rfl
  go_enter Tryz.func27, Tryz.ntmps27
  go_wp2
  go_ret
  exact ⟨rfl, hb0⟩

set_option maxRecDepth 100000 in
set_option maxHeartbeats 1000000 in
theorem kin_20 {B B' : Nat} (s : Nat) (v : Value) (l : List Nat) (w : World) (bl len : Nat) (nb : Nat → Nat) (vv : Nat → Value) (ts : List NodeD) (hs : SelAt w s v (l.map nb) B) (hF : Forest B' w bl len nb vv ts) (hR : RightT ts len)
    (hin : ∀ i ∈ l, i < len) (hpos : ∀ i ∈ l, 0 < i) (hn : l.length ≤ 200) :
    Calls Tryz.prog 28 #[.pointer (some ⟨s, 0, none⟩), .agg #[.int .i64 20, .string ⟨#[]⟩, .slice none 0 0, .int .i64 0, .int .i64 0]] w (StepPost s ((onceF (l.flatMap (kidL ts len))).map nb) w) := by
  have hb0 : Below w.heap.size w (w.alloc (.cells #[.int .i64 20, .string ⟨#[]⟩, .slice none 0 0, .int .i64 0, .int .i64 0] 27)) := (Below.refl _ _).alloc (Nat.le_refl _) _
  have k0 : (w.alloc (.cells #[.int .i64 20, .string ⟨#[]⟩, .slice none 0 0, .int .i64 0, .int .i64 0] 27)).cell? ⟨w.heap.size, 0, none⟩ = some (.int .i64 20) := cell_alloc_new' _ _ _ rfl rfl
  obtain ⟨w0, hw0⟩ : ∃ w0, w.alloc (.cells #[.int .i64 20, .string ⟨#[]⟩, .slice none 0 0, .int .i64 0, .int .i64 0] 27) = w0 := ⟨_, rfl⟩
  rw [hw0] at hb0 k0
  have hst := stepChildren s v l w0 bl len nb vv ts (hs.below hb0) (hF.below hb0) hR hin hpos hn
  obtain ⟨L, hL⟩ : ∃ L, (onceF (l.flatMap (kidL ts len))).map nb = L := ⟨_, rfl⟩
  rw [hL] at hst ⊢
  have HST := Lib.hid hst
  have HB := Lib.hid hb0
  clear hst hL hs hF hR hin hpos hb0
  go_enter Tryz.func28, Tryz.ntmps28
  go_wp2_with fail
  refine HST.out.mono ?_
  rintro e w1 ⟨s', v', rfl, h1, h2, h4, h3⟩
  have H1 := Lib.hid (h1.out.weaken HB.out.size)
  have H3 := Lib.hid (HB.out.trans (h3.out.mono HB.out.size))
  clear h1 h3 HST
  go_wp2
  go_ret
  exact ⟨s', v', rfl, H1, h2, h4, H3⟩

set_option maxRecDepth 100000 in
set_option maxHeartbeats 1000000 in
theorem bySet_22 (s : Nat) (a : Option Addr) (n c : Nat) (w : World) :
    Calls Tryz.prog 27 #[.pointer (some ⟨s, 0, none⟩), .agg #[.int .i64 22, .string ⟨#[]⟩, .slice none 0 0, .int .i64 0, .int .i64 0], .slice a n c] w (fun e w' => e = .returned (.pointer none) ∧ Below w.heap.size w w') := by
  have hb0 : Below w.heap.size w (w.alloc (.cells #[.int .i64 22, .string ⟨#[]⟩, .slice none 0 0, .int .i64 0, .int .i64 0] 27)) := (Below.refl _ _).alloc (Nat.le_refl _) _
  have k0 : (w.alloc (.cells #[.int .i64 22, .string ⟨#[]⟩, .slice none 0 0, .int .i64 0, .int .i64 0] 27)).cell? ⟨w.heap.size, 0, none⟩ = some (.int .i64 22) := cell_alloc_new' _ _ _ rfl rfl
  go_enter Tryz.func27, Tryz.ntmps27
  go_wp2
  go_ret
  exact ⟨rfl, hb0⟩

set_option maxRecDepth 100000 in
set_option maxHeartbeats 1000000 in
theorem kin_22 {B B' : Nat} (s : Nat) (v : Value) (l : List Nat) (w : World) (bl len : Nat) (nb : Nat → Nat) (vv : Nat → Value) (ts : List NodeD) (hs : SelAt w s v (l.map nb) B) (hF : Forest B' w bl len nb vv ts) (hR : RightT ts len)
    (hin : ∀ i ∈ l, i < len) (hpos : ∀ i ∈ l, 0 < i) (hn : l.length ≤ 200) :
    Calls Tryz.prog 28 #[.pointer (some ⟨s, 0, none⟩), .agg #[.int .i64 22, .string ⟨#[]⟩, .slice none 0 0, .int .i64 0, .int .i64 0]] w (StepPost s ((onceF (l.flatMap (fun x => (parEl ts x).toList))).map nb) w) := by
  have hb0 : Below w.heap.size w (w.alloc (.cells #[.int .i64 22, .string ⟨#[]⟩, .slice none 0 0, .int .i64 0, .int .i64 0] 27)) := (Below.refl _ _).alloc (Nat.le_refl _) _
  have k0 : (w.alloc (.cells #[.int .i64 22, .string ⟨#[]⟩, .slice none 0 0, .int .i64 0, .int .i64 0] 27)).cell? ⟨w.heap.size, 0, none⟩ = some (.int .i64 22) := cell_alloc_new' _ _ _ rfl rfl
  obtain ⟨w0, hw0⟩ : ∃ w0, w.alloc (.cells #[.int .i64 22, .string ⟨#[]⟩, .slice none 0 0, .int .i64 0, .int .i64 0] 27) = w0 := ⟨_, rfl⟩
  rw [hw0] at hb0 k0
  have hst := stepParent s v l w0 bl len nb vv ts (hs.below hb0) (hF.below hb0) hR hin hpos hn
  obtain ⟨L, hL⟩ : ∃ L, (onceF (l.flatMap (fun x => (parEl ts x).toList))).map nb = L := ⟨_, rfl⟩
  rw [hL] at hst ⊢
  have HST := Lib.hid hst
  have HB := Lib.hid hb0
  clear hst hL hs hF hR hin hpos hb0
  go_enter Tryz.func28, Tryz.ntmps28
  go_wp2_with fail
  refine HST.out.mono ?_
  rintro e w1 ⟨s', v', rfl, h1, h2, h4, h3⟩
  have H1 := Lib.hid (h1.out.weaken HB.out.size)
  have H3 := Lib.hid (HB.out.trans (h3.out.mono HB.out.size))
  clear h1 h3 HST
  go_wp2
  go_ret
  exact ⟨s', v', rfl, H1, h2, h4, H3⟩

set_option maxRecDepth 100000 in
set_option maxHeartbeats 1000000 in
theorem bySet_23 (s : Nat) (a : Option Addr) (n c : Nat) (w : World) :
    Calls Tryz.prog 27 #[.pointer (some ⟨s, 0, none⟩), .agg #[.int .i64 23, .string ⟨#[]⟩, .slice none 0 0, .int .i64 0, .int .i64 0], .slice a n c] w (fun e w' => e = .returned (.pointer none) ∧ Below w.heap.size w w') := by
  have hb0 : Below w.heap.size w (w.alloc (.cells #[.int .i64 23, .string ⟨#[]⟩, .slice none 0 0, .int .i64 0, .int .i64 0] 27)) := (Below.refl _ _).alloc (Nat.le_refl _) _
  have k0 : (w.alloc (.cells #[.int .i64 23, .string ⟨#[]⟩, .slice none 0 0, .int .i64 0, .int .i64 0] 27)).cell? ⟨w.heap.size, 0, none⟩ = some (.int .i64 23) := cell_alloc_new' _ _ _ rfl rfl
  go_enter Tryz.func27, Tryz.ntmps27
  go_wp2
  go_ret
  exact ⟨rfl, hb0⟩

set_option maxRecDepth 100000 in
set_option maxHeartbeats 1000000 in
theorem kin_23 {B B' : Nat} (s : Nat) (v : Value) (l : List Nat) (w : World) (bl len : Nat) (nb : Nat → Nat) (vv : Nat → Value) (ts : List NodeD) (hs : SelAt w s v (l.map nb) B) (hF : Forest B' w bl len nb vv ts) (hR : RightT ts len)
    (hin : ∀ i ∈ l, i < len) (hpos : ∀ i ∈ l, 0 < i) (hn : l.length ≤ 200) :
    Calls Tryz.prog 28 #[.pointer (some ⟨s, 0, none⟩), .agg #[.int .i64 23, .string ⟨#[]⟩, .slice none 0 0, .int .i64 0, .int .i64 0]] w (StepPost s ((onceF (l.flatMap (ancL ts))).map nb) w) := by
  have hb0 : Below w.heap.size w (w.alloc (.cells #[.int .i64 23, .string ⟨#[]⟩, .slice none 0 0, .int .i64 0, .int .i64 0] 27)) := (Below.refl _ _).alloc (Nat.le_refl _) _
  have k0 : (w.alloc (.cells #[.int .i64 23, .string ⟨#[]⟩, .slice none 0 0, .int .i64 0, .int .i64 0] 27)).cell? ⟨w.heap.size, 0, none⟩ = some (.int .i64 23) := cell_alloc_new' _ _ _ rfl rfl
  obtain ⟨w0, hw0⟩ : ∃ w0, w.alloc (.cells #[.int .i64 23, .string ⟨#[]⟩, .slice none 0 0, .int .i64 0, .int .i64 0] 27) = w0 := ⟨_, rfl⟩
  rw [hw0] at hb0 k0
  have hst := stepParents s v l w0 bl len nb vv ts (hs.below hb0) (hF.below hb0) hR hin hpos hn
  obtain ⟨L, hL⟩ : ∃ L, (onceF (l.flatMap (ancL ts))).map nb = L := ⟨_, rfl⟩
  rw [hL] at hst ⊢
  have HST := Lib.hid hst
  have HB := Lib.hid hb0
  clear hst hL hs hF hR hin hpos hb0
  go_enter Tryz.func28, Tryz.ntmps28
  go_wp2_with fail
  refine HST.out.mono ?_
  rintro e w1 ⟨s', v', rfl, h1, h2, h4, h3⟩
  have H1 := Lib.hid (h1.out.weaken HB.out.size)
  have H3 := Lib.hid (HB.out.trans (h3.out.mono HB.out.size))
  clear h1 h3 HST
  go_wp2
  go_ret
  exact ⟨s', v', rfl, H1, h2, h4, H3⟩

set_option maxRecDepth 100000 in
set_option maxHeartbeats 1000000 in
theorem bySet_25 (s : Nat) (a : Option Addr) (n c : Nat) (w : World) :
    Calls Tryz.prog 27 #[.pointer (some ⟨s, 0, none⟩), .agg #[.int .i64 25, .string ⟨#[]⟩, .slice none 0 0, .int .i64 0, .int .i64 0], .slice a n c] w (fun e w' => e = .returned (.pointer none) ∧ Below w.heap.size w w') := by
  have hb0 : Below w.heap.size w (w.alloc (.cells #[.int .i64 25, .string ⟨#[]⟩, .slice none 0 0, .int .i64 0, .int .i64 0] 27)) := (Below.refl _ _).alloc (Nat.le_refl _) _
  have k0 : (w.alloc (.cells #[.int .i64 25, .string ⟨#[]⟩, .slice none 0 0, .int .i64 0, .int .i64 0] 27)).cell? ⟨w.heap.size, 0, none⟩ = some (.int .i64 25) := cell_alloc_new' _ _ _ rfl rfl
  go_enter Tryz.func27, Tryz.ntmps27
  go_wp2
  go_ret
  exact ⟨rfl, hb0⟩

set_option maxRecDepth 100000 in
set_option maxHeartbeats 1000000 in
theorem kin_25 {B B' : Nat} (s : Nat) (v : Value) (l : List Nat) (w : World) (bl len : Nat) (nb : Nat → Nat) (vv : Nat → Value) (ts : List NodeD) (hs : SelAt w s v (l.map nb) B) (hF : Forest B' w bl len nb vv ts) (hR : RightT ts len)
    (hin : ∀ i ∈ l, i < len) (hpos : ∀ i ∈ l, 0 < i) (hn : l.length ≤ 200) :
    Calls Tryz.prog 28 #[.pointer (some ⟨s, 0, none⟩), .agg #[.int .i64 25, .string ⟨#[]⟩, .slice none 0 0, .int .i64 0, .int .i64 0]] w (StepPost s ((onceF (l.flatMap (fn_1 ts len))).map nb) w) := by
  have hb0 : Below w.heap.size w (w.alloc (.cells #[.int .i64 25, .string ⟨#[]⟩, .slice none 0 0, .int .i64 0, .int .i64 0] 27)) := (Below.refl _ _).alloc (Nat.le_refl _) _
  have k0 : (w.alloc (.cells #[.int .i64 25, .string ⟨#[]⟩, .slice none 0 0, .int .i64 0, .int .i64 0] 27)).cell? ⟨w.heap.size, 0, none⟩ = some (.int .i64 25) := cell_alloc_new' _ _ _ rfl rfl
  obtain ⟨w0, hw0⟩ : ∃ w0, w.alloc (.cells #[.int .i64 25, .string ⟨#[]⟩, .slice none 0 0, .int .i64 0, .int .i64 0] 27) = w0 := ⟨_, rfl⟩
  rw [hw0] at hb0 k0
  have hst := stepNext s v l w0 bl len nb vv ts (hs.below hb0) (hF.below hb0) hR hin hpos hn
  obtain ⟨L, hL⟩ : ∃ L, (onceF (l.flatMap (fn_1 ts len))).map nb = L := ⟨_, rfl⟩
  rw [hL] at hst ⊢
  have HST := Lib.hid hst
  have HB := Lib.hid hb0
  clear hst hL hs hF hR hin hpos hb0
  go_enter Tryz.func28, Tryz.ntmps28
  go_wp2_with fail
  refine HST.out.mono ?_
  rintro e w1 ⟨s', v', rfl, h1, h2, h4, h3⟩
  have H1 := Lib.hid (h1.out.weaken HB.out.size)
  have H3 := Lib.hid (HB.out.trans (h3.out.mono HB.out.size))
  clear h1 h3 HST
  go_wp2
  go_ret
  exact ⟨s', v', rfl, H1, h2, h4, H3⟩

set_option maxRecDepth 100000 in
set_option maxHeartbeats 1000000 in
theorem bySet_26 (s : Nat) (a : Option Addr) (n c : Nat) (w : World) :
    Calls Tryz.prog 27 #[.pointer (some ⟨s, 0, none⟩), .agg #[.int .i64 26, .string ⟨#[]⟩, .slice none 0 0, .int .i64 0, .int .i64 0], .slice a n c] w (fun e w' => e = .returned (.pointer none) ∧ Below w.heap.size w w') := by
  have hb0 : Below w.heap.size w (w.alloc (.cells #[.int .i64 26, .string ⟨#[]⟩, .slice none 0 0, .int .i64 0, .int .i64 0] 27)) := (Below.refl _ _).alloc (Nat.le_refl _) _
  have k0 : (w.alloc (.cells #[.int .i64 26, .string ⟨#[]⟩, .slice none 0 0, .int .i64 0, .int .i64 0] 27)).cell? ⟨w.heap.size, 0, none⟩ = some (.int .i64 26) := cell_alloc_new' _ _ _ rfl rfl
  go_enter Tryz.func27, Tryz.ntmps27
  go_wp2
  go_ret
  exact ⟨rfl, hb0⟩

set_option maxRecDepth 100000 in
set_option maxHeartbeats 1000000 in
theorem kin_26 {B B' : Nat} (s : Nat) (v : Value) (l : List Nat) (w : World) (bl len : Nat) (nb : Nat → Nat) (vv : Nat → Value) (ts : List NodeD) (hs : SelAt w s v (l.map nb) B) (hF : Forest B' w bl len nb vv ts) (hR : RightT ts len)
    (hin : ∀ i ∈ l, i < len) (hpos : ∀ i ∈ l, 0 < i) (hn : l.length ≤ 200) :
    Calls Tryz.prog 28 #[.pointer (some ⟨s, 0, none⟩), .agg #[.int .i64 26, .string ⟨#[]⟩, .slice none 0 0, .int .i64 0, .int .i64 0]] w (StepPost s ((onceF (l.flatMap (fn_2 ts len))).map nb) w) := by
  have hb0 : Below w.heap.size w (w.alloc (.cells #[.int .i64 26, .string ⟨#[]⟩, .slice none 0 0, .int .i64 0, .int .i64 0] 27)) := (Below.refl _ _).alloc (Nat.le_refl _) _
  have k0 : (w.alloc (.cells #[.int .i64 26, .string ⟨#[]⟩, .slice none 0 0, .int .i64 0, .int .i64 0] 27)).cell? ⟨w.heap.size, 0, none⟩ = some (.int .i64 26) := cell_alloc_new' _ _ _ rfl rfl
  obtain ⟨w0, hw0⟩ : ∃ w0, w.alloc (.cells #[.int .i64 26, .string ⟨#[]⟩, .slice none 0 0, .int .i64 0, .int .i64 0] 27) = w0 := ⟨_, rfl⟩
  rw [hw0] at hb0 k0
  have hst := stepNextAll s v l w0 bl len nb vv ts (hs.below hb0) (hF.below hb0) hR hin hpos hn
  obtain ⟨L, hL⟩ : ∃ L, (onceF (l.flatMap (fn_2 ts len))).map nb = L := ⟨_, rfl⟩
  rw [hL] at hst ⊢
  have HST := Lib.hid hst
  have HB := Lib.hid hb0
  clear hst hL hs hF hR hin hpos hb0
  go_enter Tryz.func28, Tryz.ntmps28
  go_wp2_with fail
  refine HST.out.mono ?_
  rintro e w1 ⟨s', v', rfl, h1, h2, h4, h3⟩
  have H1 := Lib.hid (h1.out.weaken HB.out.size)
  have H3 := Lib.hid (HB.out.trans (h3.out.mono HB.out.size))
  clear h1 h3 HST
  go_wp2
  go_ret
  exact ⟨s', v', rfl, H1, h2, h4, H3⟩

set_option maxRecDepth 100000 in
set_option maxHeartbeats 1000000 in
theorem bySet_28 (s : Nat) (a : Option Addr) (n c : Nat) (w : World) :
    Calls Tryz.prog 27 #[.pointer (some ⟨s, 0, none⟩), .agg #[.int .i64 28, .string ⟨#[]⟩, .slice none 0 0, .int .i64 0, .int .i64 0], .slice a n c] w (fun e w' => e = .returned (.pointer none) ∧ Below w.heap.size w w') := by
  have hb0 : Below w.heap.size w (w.alloc (.cells #[.int .i64 28, .string ⟨#[]⟩, .slice none 0 0, .int .i64 0, .int .i64 0] 27)) := (Below.refl _ _).alloc (Nat.le_refl _) _
  have k0 : (w.alloc (.cells #[.int .i64 28, .string ⟨#[]⟩, .slice none 0 0, .int .i64 0, .int .i64 0] 27)).cell? ⟨w.heap.size, 0, none⟩ = some (.int .i64 28) := cell_alloc_new' _ _ _ rfl rfl
  go_enter Tryz.func27, Tryz.ntmps27
  go_wp2
  go_ret
  exact ⟨rfl, hb0⟩

set_option maxRecDepth 100000 in
set_option maxHeartbeats 1000000 in
theorem kin_28 {B B' : Nat} (s : Nat) (v : Value) (l : List Nat) (w : World) (bl len : Nat) (nb : Nat → Nat) (vv : Nat → Value) (ts : List NodeD) (hs : SelAt w s v (l.map nb) B) (hF : Forest B' w bl len nb vv ts) (hR : RightT ts len)
    (hin : ∀ i ∈ l, i < len) (hpos : ∀ i ∈ l, 0 < i) (hn : l.length ≤ 200) :
    Calls Tryz.prog 28 #[.pointer (some ⟨s, 0, none⟩), .agg #[.int .i64 28, .string ⟨#[]⟩, .slice none 0 0, .int .i64 0, .int .i64 0]] w (StepPost s ((onceF (l.flatMap (fn_m1 ts len))).map nb) w) := by
  have hb0 : Below w.heap.size w (w.alloc (.cells #[.int .i64 28, .string ⟨#[]⟩, .slice none 0 0, .int .i64 0, .int .i64 0] 27)) := (Below.refl _ _).alloc (Nat.le_refl _) _
  have k0 : (w.alloc (.cells #[.int .i64 28, .string ⟨#[]⟩, .slice none 0 0, .int .i64 0, .int .i64 0] 27)).cell? ⟨w.heap.size, 0, none⟩ = some (.int .i64 28) := cell_alloc_new' _ _ _ rfl rfl
  obtain ⟨w0, hw0⟩ : ∃ w0, w.alloc (.cells #[.int .i64 28, .string ⟨#[]⟩, .slice none 0 0, .int .i64 0, .int .i64 0] 27) = w0 := ⟨_, rfl⟩
  rw [hw0] at hb0 k0
  have hst := stepPrev s v l w0 bl len nb vv ts (hs.below hb0) (hF.below hb0) hR hin hpos hn
  obtain ⟨L, hL⟩ : ∃ L, (onceF (l.flatMap (fn_m1 ts len))).map nb = L := ⟨_, rfl⟩
  rw [hL] at hst ⊢
  have HST := Lib.hid hst
  have HB := Lib.hid hb0
  clear hst hL hs hF hR hin hpos hb0
  go_enter Tryz.func28, Tryz.ntmps28
  go_wp2_with fail
  refine HST.out.mono ?_
  rintro e w1 ⟨s', v', rfl, h1, h2, h4, h3⟩
  have H1 := Lib.hid (h1.out.weaken HB.out.size)
  have H3 := Lib.hid (HB.out.trans (h3.out.mono HB.out.size))
  clear h1 h3 HST
  go_wp2
  go_ret
  exact ⟨s', v', rfl, H1, h2, h4, H3⟩

set_option maxRecDepth 100000 in
set_option maxHeartbeats 1000000 in
theorem bySet_29 (s : Nat) (a : Option Addr) (n c : Nat) (w : World) :
    Calls Tryz.prog 27 #[.pointer (some ⟨s, 0, none⟩), .agg #[.int .i64 29, .string ⟨#[]⟩, .slice none 0 0, .int .i64 0, .int .i64 0], .slice a n c] w (fun e w' => e = .returned (.pointer none) ∧ Below w.heap.size w w') := by
  have hb0 : Below w.heap.size w (w.alloc (.cells #[.int .i64 29, .string ⟨#[]⟩, .slice none 0 0, .int .i64 0, .int .i64 0] 27)) := (Below.refl _ _).alloc (Nat.le_refl _) _
  have k0 : (w.alloc (.cells #[.int .i64 29, .string ⟨#[]⟩, .slice none 0 0, .int .i64 0, .int .i64 0] 27)).cell? ⟨w.heap.size, 0, none⟩ = some (.int .i64 29) := cell_alloc_new' _ _ _ rfl rfl
  go_enter Tryz.func27, Tryz.ntmps27
  go_wp2
  go_ret
  exact ⟨rfl, hb0⟩

set_option maxRecDepth 100000 in
set_option maxHeartbeats 1000000 in
theorem kin_29 {B B' : Nat} (s : Nat) (v : Value) (l : List Nat) (w : World) (bl len : Nat) (nb : Nat → Nat) (vv : Nat → Value) (ts : List NodeD) (hs : SelAt w s v (l.map nb) B) (hF : Forest B' w bl len nb vv ts) (hR : RightT ts len)
    (hin : ∀ i ∈ l, i < len) (hpos : ∀ i ∈ l, 0 < i) (hn : l.length ≤ 200) :
    Calls Tryz.prog 28 #[.pointer (some ⟨s, 0, none⟩), .agg #[.int .i64 29, .string ⟨#[]⟩, .slice none 0 0, .int .i64 0, .int .i64 0]] w (StepPost s ((onceF (l.flatMap (fn_m2 ts len))).map nb) w) := by
  have hb0 : Below w.heap.size w (w.alloc (.cells #[.int .i64 29, .string ⟨#[]⟩, .slice none 0 0, .int .i64 0, .int .i64 0] 27)) := (Below.refl _ _).alloc (Nat.le_refl _) _
  have k0 : (w.alloc (.cells #[.int .i64 29, .string ⟨#[]⟩, .slice none 0 0, .int .i64 0, .int .i64 0] 27)).cell? ⟨w.heap.size, 0, none⟩ = some (.int .i64 29) := cell_alloc_new' _ _ _ rfl rfl
  obtain ⟨w0, hw0⟩ : ∃ w0, w.alloc (.cells #[.int .i64 29, .string ⟨#[]⟩, .slice none 0 0, .int .i64 0, .int .i64 0] 27) = w0 := ⟨_, rfl⟩
  rw [hw0] at hb0 k0
  have hst := stepPrevAll s v l w0 bl len nb vv ts (hs.below hb0) (hF.below hb0) hR hin hpos hn
  obtain ⟨L, hL⟩ : ∃ L, (onceF (l.flatMap (fn_m2 ts len))).map nb = L := ⟨_, rfl⟩
  rw [hL] at hst ⊢
  have HST := Lib.hid hst
  have HB := Lib.hid hb0
  clear hst hL hs hF hR hin hpos hb0
  go_enter Tryz.func28, Tryz.ntmps28
  go_wp2_with fail
  refine HST.out.mono ?_
  rintro e w1 ⟨s', v', rfl, h1, h2, h4, h3⟩
  have H1 := Lib.hid (h1.out.weaken HB.out.size)
  have H3 := Lib.hid (HB.out.trans (h3.out.mono HB.out.size))
  clear h1 h3 HST
  go_wp2
  go_ret
  exact ⟨s', v', rfl, H1, h2, h4, H3⟩

set_option maxRecDepth 100000 in
set_option maxHeartbeats 1000000 in
theorem bySet_31 (s : Nat) (a : Option Addr) (n c : Nat) (w : World) :
    Calls Tryz.prog 27 #[.pointer (some ⟨s, 0, none⟩), .agg #[.int .i64 31, .string ⟨#[]⟩, .slice none 0 0, .int .i64 0, .int .i64 0], .slice a n c] w (fun e w' => e = .returned (.pointer none) ∧ Below w.heap.size w w') := by
  have hb0 : Below w.heap.size w (w.alloc (.cells #[.int .i64 31, .string ⟨#[]⟩, .slice none 0 0, .int .i64 0, .int .i64 0] 27)) := (Below.refl _ _).alloc (Nat.le_refl _) _
  have k0 : (w.alloc (.cells #[.int .i64 31, .string ⟨#[]⟩, .slice none 0 0, .int .i64 0, .int .i64 0] 27)).cell? ⟨w.heap.size, 0, none⟩ = some (.int .i64 31) := cell_alloc_new' _ _ _ rfl rfl
  go_enter Tryz.func27, Tryz.ntmps27
  go_wp2
  go_ret
  exact ⟨rfl, hb0⟩

set_option maxRecDepth 100000 in
set_option maxHeartbeats 2000000 in
theorem stepSibs {B B' : Nat} (s : Nat) (v : Value) (l : List Nat) (w : World) (bl len : Nat) (nb : Nat → Nat) (vv : Nat → Value) (ts : List NodeD) (hs : SelAt w s v (l.map nb) B) (hF : Forest B' w bl len nb vv ts) (hR : RightT ts len)
    (hin : ∀ i ∈ l, i < len) (hpos : ∀ i ∈ l, 0 < i) (hn : l.length ≤ 200) :
    Calls Tryz.prog 64 #[.pointer (some ⟨s, 0, none⟩)] w (StepPost s ((onceF (l.flatMap (fn_0 ts len))).map nb) w) := by
  have hp := stepSiblings s v l w bl len nb vv ts hs hF hR hin hpos hn
  obtain ⟨L, hL⟩ : ∃ L, (onceF (l.flatMap (fn_0 ts len))).map nb = L := ⟨_, rfl⟩
  rw [hL] at hp ⊢
  have c0 := hs.nodes
  obtain ⟨a, cap, b, off, rfl, hm, ha, hc⟩ := ptrs_open hs.own.ptrs
  rw [List.length_map] at ha hc hm c0
  have HA := Lib.hid ha
  have HC := Lib.hid hc
  have HP := Lib.hid hp
  have HF := Lib.hid hF
  have HR := Lib.hid hR
  have HI := Lib.hid (And.intro hin hpos)
  clear hp hs hF hR hL hin hpos ha hc
  go_enter Tryz.func64, Tryz.ntmps64
  go_wp2
  go_loop [10] (fun i => ∃ k : Nat, k ≤ l.length ∧ i = .int .i64 (k : Int)) (fun i => l.length - (intOf i).toNat)
  case atStart => exact ⟨0, by omega, by go_num⟩
  case round =>
    obtain ⟨k, hk, rfl⟩ := hrel
    by_cases hlt : k < l.length
    · obtain rfl := HA.out (by omega)
      have ck := HC.out k hlt
      rw [show (l.map nb).getD k 0 = nb (l.getD k 0) by simp [List.getD, hlt]] at ck
      have hmem := getD_mem' (d := 0) hlt
      have hxl := HI.out.1 _ hmem
      obtain ⟨p, hp⟩ := par_is HR.out.root hxl (HI.out.2 _ hmem)
      obtain ⟨x, hx⟩ : ∃ x, l.getD k 0 = x := ⟨_, rfl⟩
      rw [hx] at ck hxl hp
      have kx := (HF.out.node hxl).par
      rw [show (nodeR (fun i => i + sz ts i) 0 nb (ts.getD x default) (vv x) x).par = (up (fun i => i + sz ts i) 0 x).map nb from rfl, up_par, hp, Option.map_some, lk_some] at kx
      have hkI : (k : Int) < (l.length : Int) := by omega
      clear hmem hxl hp hx
      go_wp2
      go_round
      case rel => exact ⟨k + 1, by omega, by go_num⟩
      case measure => simp [intOf]; omega
    · obtain rfl : k = l.length := by omega
      clear hlt
      go_wp2_with fail
      refine HP.out.mono ?_
      rintro e w1 ⟨s1, v1, rfl, hs1, hp1, hq1, hb1⟩
      go_wp2
      go_ret
      exact ⟨s1, v1, rfl, hs1, hp1, hq1, hb1⟩

set_option maxRecDepth 100000 in
set_option maxHeartbeats 1000000 in
theorem kin_31 {B B' : Nat} (s : Nat) (v : Value) (l : List Nat) (w : World) (bl len : Nat) (nb : Nat → Nat) (vv : Nat → Value) (ts : List NodeD) (hs : SelAt w s v (l.map nb) B) (hF : Forest B' w bl len nb vv ts) (hR : RightT ts len)
    (hin : ∀ i ∈ l, i < len) (hpos : ∀ i ∈ l, 0 < i) (hn : l.length ≤ 200) :
    Calls Tryz.prog 28 #[.pointer (some ⟨s, 0, none⟩), .agg #[.int .i64 31, .string ⟨#[]⟩, .slice none 0 0, .int .i64 0, .int .i64 0]] w (StepPost s ((onceF (l.flatMap (fn_0 ts len))).map nb) w) := by
  have hb0 : Below w.heap.size w (w.alloc (.cells #[.int .i64 31, .string ⟨#[]⟩, .slice none 0 0, .int .i64 0, .int .i64 0] 27)) := (Below.refl _ _).alloc (Nat.le_refl _) _
  have k0 : (w.alloc (.cells #[.int .i64 31, .string ⟨#[]⟩, .slice none 0 0, .int .i64 0, .int .i64 0] 27)).cell? ⟨w.heap.size, 0, none⟩ = some (.int .i64 31) := cell_alloc_new' _ _ _ rfl rfl
  obtain ⟨w0, hw0⟩ : ∃ w0, w.alloc (.cells #[.int .i64 31, .string ⟨#[]⟩, .slice none 0 0, .int .i64 0, .int .i64 0] 27) = w0 := ⟨_, rfl⟩
  rw [hw0] at hb0 k0
  have hst := stepSibs s v l w0 bl len nb vv ts (hs.below hb0) (hF.below hb0) hR hin hpos hn
  obtain ⟨L, hL⟩ : ∃ L, (onceF (l.flatMap (fn_0 ts len))).map nb = L := ⟨_, rfl⟩
  rw [hL] at hst ⊢
  have HST := Lib.hid hst
  have HB := Lib.hid hb0
  clear hst hL hs hF hR hin hpos hb0
  go_enter Tryz.func28, Tryz.ntmps28
  go_wp2_with fail
  refine HST.out.mono ?_
  rintro e w1 ⟨s', v', rfl, h1, h2, h4, h3⟩
  have H1 := Lib.hid (h1.out.weaken HB.out.size)
  have H3 := Lib.hid (HB.out.trans (h3.out.mono HB.out.size))
  clear h1 h3 HST
  go_wp2
  go_ret
  exact ⟨s', v', rfl, H1, h2, h4, H3⟩

end Go.Proofs.YtphppdbhofeagaaGreat

namespace Go.Proofs.YtphppdbhofeagaaGreat
open Go.RowKit
set_option linter.unusedVariables false
set_option linter.unusedSimpArgs false

/-- All but one block is as it was. -/
structure KeepBut (o : Option Nat) (w w' : World) : Prop where
  size : w.heap.size ≤ w'.heap.size
  block : ∀ k, k < w.heap.size → o ≠ some k → w'.heap[k]? = w.heap[k]?

theorem KeepBut.below {o : Option Nat} {w w1 w' : World} (h : KeepBut o w w1) (hb : Below w1.heap.size w1 w') : KeepBut o w w' :=
  ⟨Nat.le_trans h.size hb.size, fun k hk ho => (hb.block k (Nat.lt_of_lt_of_le hk h.size)).trans (h.block k hk ho)⟩

/-- appendWithoutDuplicates of nodes that may be there, few. -/
def WithPost (B : Nat) (o : Option Nat) (D V : List Nat) (w : World) (e : Ending) (w' : World) : Prop := ∃ v, e = .returned v ∧ Hid (OwnPtrs w' B v (withAll D V)) ∧ Hid (Below B w w') ∧ Hid (KeepBut o w w')

set_option maxRecDepth 100000 in
set_option maxHeartbeats 2000000 in
theorem withAll_any (B : Nat) (u v : Value) (D V : List Nat) (w : World) (hB : B ≤ w.heap.size) (hD : OwnPtrs w B u D) (hV : PtrsOf w v V) (hVb : ∀ b off c, v = .slice (some ⟨b, off, none⟩) V.length c → b < B) (halD : ∀ q ∈ D, q < B ∧ Alive w q) (halV : ∀ q ∈ V, q < B ∧ Alive w q) (hn : D.length + V.length < 1000) :
    Calls Tryz.prog 86 #[u, v, .map none] w (WithPost B u.ownBlock D V w) := by
  obtain ⟨a, cap, b, off, rfl, hm, ha, hc⟩ := ptrs_open hV
  obtain ⟨ua, uc, hu, _⟩ := hD.ptrs.nil
  rw [List.length_map] at hu
  subst hu
  have HA := Lib.hid ha
  have HC := Lib.hid hc
  have HAL := Lib.hid (And.intro halD halV)
  have HD := Lib.hid hD
  have HVB := Lib.hid hVb
  have g0 : decide ((D.length : Int) + (V.length : Int) < 1000) = true := by simp; omega
  have g1 : decide (D.length + V.length < 1000) = true := by simp; omega
  have g2 : decide (((D.length + V.length : Nat) : Int) < 1000) = true := by simp; omega
  have hmap := map_nil_eql w
  obtain ⟨i0, hi, hz0, hz1, hz2⟩ := info_parts Tryz.infoPtr
  clear hV ha hc hVb halD halV hD
  go_enter Tryz.func86, Tryz.ntmps86
  go_wp2
  go_loopw [0, 25] (fun x i wr => ∃ (k : Nat) (E : List Nat), i = .int .i64 k ∧ k ≤ V.length ∧ E.length ≤ D.length + k ∧ Hid (withAll D (V.take k) = E) ∧ Hid (OwnPtrs wr B x E) ∧ Hid (Below B w wr) ∧ Hid (KeepBut (Value.slice ua D.length uc).ownBlock w wr) ∧ Hid (∀ j, x.ownBlock = some j → w.heap.size ≤ j ∨ (Value.slice ua D.length uc).ownBlock = some j))
    (fun _ i _ => V.length - (intOf i).toNat)
  case atStart => exact ⟨0, D, by go_num, by omega, by omega, Lib.hid rfl, HD, Lib.hid (Below.refl _ _), Lib.hid ⟨Nat.le_refl _, fun _ _ _ => rfl⟩, Lib.hid fun j hj => .inr hj⟩
  case round =>
    obtain ⟨k, E, rfl, hk, hel, hdone, hown, hbel, hkeep, hob⟩ := hrel
    by_cases hlt : k < V.length
    · obtain rfl := HA.out (by omega)
      have hbB := HVB.out b off cap rfl
      have ck : wr.cell? ⟨b, off + k, none⟩ = some (.pointer (some ⟨V.getD k 0, 0, none⟩)) := (World.cell?_of_block (hbel.out.block b hbB)).trans (HC.out k hlt)
      have hmem := getD_mem' (d := 0) hlt
      have hal : ∀ q, q < B → Alive w q → Alive wr q := fun q h1 h2 => h2.low h1 hbel.out
      have hEq : ∀ q ∈ E, q < B ∧ Alive w q := fun q hq => by
        rw [← hdone.out] at hq
        rcases withAll_mem hq with h | h
        · exact HAL.out.1 q h
        · exact HAL.out.2 q (List.mem_of_mem_take h)
      have hin := isIn_any u0 E (V.getD k 0) wr hown.out.ptrs (fun i hi => by
        have h := hEq _ (getD_mem' (d := 0) hi)
        exact hal _ h.1 h.2) (hal _ (HAL.out.2 _ hmem).1 (HAL.out.2 _ hmem).2)
      have htk : withAll D (V.take (k + 1)) = withOne E (V.getD k 0) := by rw [take_snoc hlt, withAll_snoc, hdone.out]
      obtain ⟨x, hxx⟩ : ∃ x, V.getD k 0 = x := ⟨_, rfl⟩
      rw [hxx] at ck htk hin
      have hown' : wr.ownsRow B 75 1 u0 E.length (E.map ptrV) := hown.out
      have hkI : (k : Int) < (V.length : Int) := by omega
      have HIN := Lib.hid hin
      clear hxx hin hmem hal hEq
      by_cases hx : x ∈ E
      · have hnx : withAll D (V.take (k + 1)) = E := by rw [htk, withOne, if_pos hx]
        have HNX := Lib.hid hnx
        rw [decide_eq_true hx] at HIN
        clear htk hnx hown' hx hdone
        go_wp2_with fail
        refine HIN.out.mono ?_
        rintro e w1 ⟨rfl, rfl⟩
        go_wp2
        go_roundw
        case rel => exact ⟨k + 1, E, by go_num, by omega, by omega, HNX, hown, hbel, hkeep, hob⟩
        case measure => simp [intOf]; omega
      · have hnx : withAll D (V.take (k + 1)) = E ++ [x] := by rw [htk, withOne, if_neg hx]
        have HNX := Lib.hid hnx
        rw [decide_eq_false hx] at HIN
        clear htk hnx hx hdone
        go_wp2_with fail
        refine HIN.out.mono ?_
        rintro e w1 ⟨rfl, rfl⟩
        have hsw : w.heap.size ≤ w.heap.size := Nat.le_refl _
        have hBw : B ≤ wr.heap.size := by have := hbel.out.size; omega
        have hnews : ∀ j u, [Value.pointer (some ⟨x, 0, none⟩)][j]? = some u → (wr.alloc (.cells #[.pointer (some ⟨x, 0, none⟩)] 75)).cell? ((⟨wr.heap.size, 0, none⟩ : Addr).add j) = some u := by
          intro j u hj
          match j, hj with
          | 0, hj => simp at hj; subst hj; simp [Addr.add]
        go_wp2_with (at_builtin; refine wpList_append_lies _ rfl _ _ 53 rfl B 75 i0 (.pointer none) 1 8 Tryz.underlying53 hi hz0 hz1 hz2 rfl (by decide) _ _ _ rfl (hown'.alloc _) ⟨wr.heap.size, 0, none⟩ 1 1 [.pointer (some ⟨x, 0, none⟩)] rfl rfl hnews (by intro u hu; simp at hu; subst hu; rfl) (by omega) (by unfold maxLen; omega) (by omega) (by simp; omega) _ rfl ?_)
        intro g2 cap2 w1 hown2 hgrow hat hlt2
        have hsa : wr.heap.size ≤ (wr.alloc (.cells #[.pointer (some ⟨x, 0, none⟩)] 75)).heap.size := by simp
        have hkeep2 : KeepBut (Value.slice ua D.length uc).ownBlock w w1 := by
          refine ⟨Nat.le_trans hkeep.out.size (Nat.le_trans hsa hgrow.size), fun j hj ho => ?_⟩
          have hjr : j < wr.heap.size := Nat.lt_of_lt_of_le hj hkeep.out.size
          rw [hgrow.block j (Nat.lt_of_lt_of_le hjr hsa) (fun e => by
            rcases hob.out j e.symm with h | h
            · omega
            · exact ho h), ((Below.refl wr.heap.size wr).alloc (Nat.le_refl _) _).block j hjr]
          exact hkeep.out.block j hj ho
        have hob2 : ∀ j, (Value.slice (some ⟨g2, 0, none⟩) (E.length + 1) cap2).ownBlock = some j → w.heap.size ≤ j ∨ (Value.slice ua D.length uc).ownBlock = some j := fun j hj => by
          simp [Value.ownBlock] at hj
          subst hj
          rcases hat with h | h
          · exact hob.out _ h
          · have := hkeep.out.size; left; (try simp at h); omega
        have H3 := Lib.hid (And.intro hkeep2 hob2)
        clear hkeep2 hob2
        have hbel2 : Below B w w1 := (hbel.out.alloc hBw _).grown hgrow (by simp; omega) (fun q hq => (World.ownsRow.lt hown' q hq).1)
        have hsn := ownPtrs_snoc (k := x) hown2
        have H1 := Lib.hid hsn
        have H2 := Lib.hid hbel2
        clear hown2 hgrow hbel2 hsn hown' ck HIN
        go_wp2
        go_roundw
        case rel => exact ⟨k + 1, E ++ [x], by go_num, by omega, by simp; omega, HNX, H1, H2, Lib.hid H3.out.1, Lib.hid H3.out.2⟩
        case measure => simp [intOf]; omega
    · obtain rfl : k = V.length := by omega
      have hd := hdone.out
      rw [List.take_length] at hd
      have HO : Hid (OwnPtrs wr B u0 (withAll D V)) := Lib.hid (by rw [hd]; exact hown.out)
      clear hd hlt hdone hown
      go_wp2
      go_ret
      exact ⟨_, rfl, HO, hbel, hkeep⟩

theorem KeepBut.after {o : Option Nat} {w w1 w' : World} (h : KeepBut o w1 w') (hb : Below w.heap.size w w1) : KeepBut o w w' :=
  ⟨Nat.le_trans hb.size h.size, fun k hk ho => (h.block k (Nat.lt_of_lt_of_le hk hb.size) ho).trans (hb.block k hk)⟩

theorem KeepBut.cell {o : Option Nat} {w w' : World} (h : KeepBut o w w') {p : Addr} {u : Value} (hc : w.cell? p = some u) (hne : o ≠ some p.block) : w'.cell? p = some u :=
  (World.cell?_of_block (h.block p.block (World.block_lt_of_cell? _ _ hc) hne)).trans hc

/-- A selection that holds another one's nodes, too. -/
def BackPost (B : Nat) (o : Option Nat) (L : List Nat) (w : World) (e : Ending) (w' : World) : Prop :=
  ∃ s v, e = .returned (.pointer (some ⟨s, 0, none⟩)) ∧ Hid (SelAt w' s v L B) ∧ Hid (Below B w w') ∧ Hid (KeepBut o w w')

set_option maxRecDepth 100000 in
set_option maxHeartbeats 1000000 in
theorem addNodesW (B s1 : Nat) (u v : Value) (D V : List Nat) (w : World) (hs1 : SelAt w s1 u D B) (hne : u.ownBlock ≠ some s1) (hV : PtrsOf w v V) (hVb : ∀ b off c, v = .slice (some ⟨b, off, none⟩) V.length c → b < B) (halD : ∀ q ∈ D, q < B ∧ Alive w q) (halV : ∀ q ∈ V, q < B ∧ Alive w q) (hn : D.length + V.length < 1000) :
    Calls Tryz.prog 51 #[.pointer (some ⟨s1, 0, none⟩), v] w (BackPost B u.ownBlock (withAll D V) w) := by
  have hBs : B ≤ w.heap.size := Nat.le_trans hs1.base (Nat.le_of_lt (World.block_lt_of_cell? _ _ hs1.nodes))
  have hwa := withAll_any B u v D V w hBs hs1.own hV hVb halD halV hn
  obtain ⟨L, hL⟩ : ∃ L, withAll D V = L := ⟨_, rfl⟩
  unfold WithPost at hwa
  rw [hL] at hwa ⊢
  obtain ⟨d, hd⟩ := hs1.doc
  have c0 := hs1.nodes
  have HWA := Lib.hid hwa
  have HD := Lib.hid (And.intro hd hne)
  have HB := Lib.hid hBs
  clear hwa hs1 hV hVb halD halV hL hd hne
  go_enter Tryz.func51, Tryz.ntmps51
  go_wp2_with fail
  refine HWA.out.mono ?_
  rintro e w1 ⟨v', rfl, ho, hb, hk⟩
  have c1' := hk.out.cell HD.out.1 HD.out.2
  have c0' := hk.out.cell c0 HD.out.2
  obtain ⟨a', cap', hv, _⟩ := ho.out.ptrs.nil
  rw [List.length_map] at hv
  subst hv
  have HS := Lib.hid (show B ≤ w1.heap.size by have := hk.out.size; have := HB.out; omega)
  clear HWA hBs
  go_wp2
  go_ret
  refine ⟨w1.heap.size, .slice a' L.length cap', rfl, Lib.hid ⟨?_, ⟨d, ?_⟩, ?_, HS.out⟩, Lib.hid ?_, Lib.hid ?_⟩
  · exact cell_alloc_new' _ _ _ (by simp) rfl
  · exact cell_alloc_new' _ _ _ (by simp) rfl
  · exact ho.out.alloc _
  · exact hb.out.alloc HS.out _
  · exact hk.out.below ((Below.refl _ _).alloc (Nat.le_refl _) _)

set_option maxRecDepth 100000 in
set_option maxHeartbeats 1000000 in
theorem addSel_of (B : Nat) (o : Option Nat) (L : List Nat) (s1 s : Nat) (v : Value) (w : World) (n0 : w.cell? ⟨s, 0, none⟩ = some v) (hadd : Calls Tryz.prog 51 #[.pointer (some ⟨s1, 0, none⟩), v] w (BackPost B o L w)) :
    Calls Tryz.prog 87 #[.pointer (some ⟨s1, 0, none⟩), .pointer (some ⟨s, 0, none⟩)] w (BackPost B o L w) := by
  have HADD := Lib.hid hadd
  clear hadd
  go_enter Tryz.func87, Tryz.ntmps87
  go_wp2_with fail
  refine HADD.out.mono ?_
  rintro e w1 ⟨s', v', rfl, h1, h2, h3⟩
  go_wp2
  go_ret
  exact ⟨s', v', rfl, h1, h2, h3⟩

set_option maxRecDepth 100000 in
set_option maxHeartbeats 1000000 in
theorem addBack_of (B : Nat) (o : Option Nat) (L : List Nat) (s1 s : Nat) (w : World) (p2 : w.cell? ⟨s1, 2, none⟩ = some (.pointer (some ⟨s, 0, none⟩))) (hadd : Calls Tryz.prog 87 #[.pointer (some ⟨s1, 0, none⟩), .pointer (some ⟨s, 0, none⟩)] w (BackPost B o L w)) :
    Calls Tryz.prog 55 #[.pointer (some ⟨s1, 0, none⟩)] w (BackPost B o L w) := by
  have HADD := Lib.hid hadd
  clear hadd
  go_enter Tryz.func55, Tryz.ntmps55
  go_wp2_with fail
  refine HADD.out.mono ?_
  rintro e w1 ⟨s', v', rfl, h1, h2, h3⟩
  go_wp2
  go_ret
  exact ⟨s', v', rfl, h1, h2, h3⟩

set_option maxRecDepth 100000 in
set_option maxHeartbeats 1000000 in
theorem bySet_40 (B s s1 : Nat) (u v : Value) (D V : List Nat) (B' : Nat) (a : Option Addr) (n c : Nat) (w : World) (hs1 : SelAt w s1 u D B) (hne : u.ownBlock ≠ some s1) (hp : w.cell? ⟨s1, 2, none⟩ = some (.pointer (some ⟨s, 0, none⟩))) (hs : SelAt w s v V B') (hsB : s < B) (hVb : ∀ b off c, v = .slice (some ⟨b, off, none⟩) V.length c → b < B) (halD : ∀ q ∈ D, q < B ∧ Alive w q) (halV : ∀ q ∈ V, q < B ∧ Alive w q) (hn : D.length + V.length < 1000) :
    Calls Tryz.prog 27 #[.pointer (some ⟨s1, 0, none⟩), .agg #[.int .i64 40, .string ⟨#[]⟩, .slice none 0 0, .int .i64 0, .int .i64 0], .slice a n c] w (BackPost B u.ownBlock (withAll D V) w) := by
  have hb0 : Below w.heap.size w (w.alloc (.cells #[.int .i64 40, .string ⟨#[]⟩, .slice none 0 0, .int .i64 0, .int .i64 0] 27)) := (Below.refl _ _).alloc (Nat.le_refl _) _
  have k0 : (w.alloc (.cells #[.int .i64 40, .string ⟨#[]⟩, .slice none 0 0, .int .i64 0, .int .i64 0] 27)).cell? ⟨w.heap.size, 0, none⟩ = some (.int .i64 40) := cell_alloc_new' _ _ _ rfl rfl
  obtain ⟨w0, hw0⟩ : ∃ w0, w.alloc (.cells #[.int .i64 40, .string ⟨#[]⟩, .slice none 0 0, .int .i64 0, .int .i64 0] 27) = w0 := ⟨_, rfl⟩
  rw [hw0] at hb0 k0
  have hadd := addNodesW B s1 u v D V w0 (hs1.below hb0) hne ((hs.below hb0).own.ptrs) hVb (fun q hq => ⟨(halD q hq).1, (halD q hq).2.below hb0⟩) (fun q hq => ⟨(halV q hq).1, (halV q hq).2.below hb0⟩) hn
  have p2 := cell_below hb0 hp
  have n0 := cell_below hb0 hs.nodes
  have HADD := Lib.hid (addBack_of B _ _ s1 s w0 p2 (addSel_of B _ _ s1 s v w0 n0 hadd))
  have HB := Lib.hid hb0
  have hBs : B ≤ w.heap.size := Nat.le_trans hs1.base (Nat.le_of_lt (World.block_lt_of_cell? _ _ hs1.nodes))
  obtain ⟨L, hL⟩ : ∃ L, withAll D V = L := ⟨_, rfl⟩
  obtain ⟨o, ho⟩ : ∃ o, u.ownBlock = o := ⟨_, rfl⟩
  rw [hL, ho] at HADD
  rw [hL, ho]
  clear hadd hs1 hne hp hs hVb halD halV hb0 hL ho
  go_enter Tryz.func27, Tryz.ntmps27
  go_wp2_with fail
  refine HADD.out.mono ?_
  rintro e w1 ⟨s', v', rfl, h1, h2, h3⟩
  have H2 := Lib.hid ((HB.out.mono hBs).trans h2.out)
  have H3 := Lib.hid (h3.out.after HB.out)
  clear h2 h3 HADD
  go_wp2
  go_ret
  exact ⟨s', v', rfl, h1, H2, H3⟩

end Go.Proofs.YtphppdbhofeagaaGreat

