/- impl.bySet, impl.kin at the steps to relatives. (Printed by gen_step.py.) -/
import Derived.Test.YtphppdbhofeagaaGreatStepSel
namespace Go.Proofs.YtphppdbhofeagaaGreat
open Go.RowKit
set_option linter.unusedVariables false
set_option linter.unusedSimpArgs false

set_option maxRecDepth 100000 in
set_option maxHeartbeats 1000000 in
theorem bySet_20 (s : Nat) (a : Option Addr) (n c : Nat) (w : World) :
    Calls Tryz.prog 27 #[.pointer (some ⟨s, 0, none⟩), .agg #[.int .i64 20, .string ⟨#[]⟩, .slice none 0 0, .int .i64 0, .int .i64 0], .slice a n c] w (fun e w' => e = .returned (.pointer none) ∧ Below w.heap.size w w') := by
  have hb0 : Below w.heap.size w (w.alloc (.cells #[.int .i64 20, .string ⟨#[]⟩, .slice none 0 0, .int .i64 0, .int .i64 0] 27)) := (Below.refl _ _).alloc (Nat.le_refl _) _
  have k0 : (w.alloc (.cells #[.int .i64 20, .string ⟨#[]⟩, .slice none 0 0, .int .i64 0, .int .i64 0] 27)).cell? ⟨w.heap.size, 0, none⟩ = some (.int .i64 20) := cell_alloc_new' _ _ _ rfl rfl
  go_enter Tryz.func27, Tryz.ntmps27
  go_wp2
  go_ret
  exact ⟨rfl, hb0⟩

set_option maxRecDepth 100000 in
set_option maxHeartbeats 1000000 in
theorem kin_20 {B B' : Nat} (s : Nat) (v : Value) (l : List Nat) (w : World) (bl len : Nat) (nb : Nat → Nat) (vv : Nat → Value) (ts : List NodeD) (hs : SelAt w s v (l.map nb) B) (hF : Forest B' w bl len nb vv ts) (hR : RightT ts len)
    (hin : ∀ i ∈ l, i < len) (hpos : ∀ i ∈ l, 0 < i) (hn : l.length ≤ 200) :
    Calls Tryz.prog 28 #[.pointer (some ⟨s, 0, none⟩), .agg #[.int .i64 20, .string ⟨#[]⟩, .slice none 0 0, .int .i64 0, .int .i64 0]] w (StepPost s ((onceF (l.flatMap (kidL ts len))).map nb) w) := by
  have hb0 : Below w.heap.size w (w.alloc (.cells #[.int .i64 20, .string ⟨#[]⟩, .slice none 0 0, .int .i64 0, .int .i64 0] 27)) := (Below.refl _ _).alloc (Nat.le_refl _) _
  have k0 : (w.alloc (.cells #[.int .i64 20, .string ⟨#[]⟩, .slice none 0 0, .int .i64 0, .int .i64 0] 27)).cell? ⟨w.heap.size, 0, none⟩ = some (.int .i64 20) := cell_alloc_new' _ _ _ rfl rfl
  obtain ⟨w0, hw0⟩ : ∃ w0, w.alloc (.cells #[.int .i64 20, .string ⟨#[]⟩, .slice none 0 0, .int .i64 0, .int .i64 0] 27) = w0 := ⟨_, rfl⟩
  rw [hw0] at hb0 k0
  have hst := stepChildren s v l w0 bl len nb vv ts (hs.below hb0) (hF.below hb0) hR hin hpos hn
  obtain ⟨L, hL⟩ : ∃ L, (onceF (l.flatMap (kidL ts len))).map nb = L := ⟨_, rfl⟩
  rw [hL] at hst ⊢
  have HST := Lib.hid hst
  have HB := Lib.hid hb0
  clear hst hL hs hF hR hin hpos hb0
  go_enter Tryz.func28, Tryz.ntmps28
  go_wp2_with fail
  refine HST.out.mono ?_
  rintro e w1 ⟨s', v', rfl, h1, h2, h4, h3⟩
  have H1 := Lib.hid (h1.out.weaken HB.out.size)
  have H3 := Lib.hid (HB.out.trans (h3.out.mono HB.out.size))
  clear h1 h3 HST
  go_wp2
  go_ret
  exact ⟨s', v', rfl, H1, h2, h4, H3⟩

set_option maxRecDepth 100000 in
set_option maxHeartbeats 1000000 in
theorem bySet_22 (s : Nat) (a : Option Addr) (n c : Nat) (w : World) :
    Calls Tryz.prog 27 #[.pointer (some ⟨s, 0, none⟩), .agg #[.int .i64 22, .string ⟨#[]⟩, .slice none 0 0, .int .i64 0, .int .i64 0], .slice a n c] w (fun e w' => e = .returned (.pointer none) ∧ Below w.heap.size w w') := by
  have hb0 : Below w.heap.size w (w.alloc (.cells #[.int .i64 22, .string ⟨#[]⟩, .slice none 0 0, .int .i64 0, .int .i64 0] 27)) := (Below.refl _ _).alloc (Nat.le_refl _) _
  have k0 : (w.alloc (.cells #[.int .i64 22, .string ⟨#[]⟩, .slice none 0 0, .int .i64 0, .int .i64 0] 27)).cell? ⟨w.heap.size, 0, none⟩ = some (.int .i64 22) := cell_alloc_new' _ _ _ rfl rfl
  go_enter Tryz.func27, Tryz.ntmps27
  go_wp2
  go_ret
  exact ⟨rfl, hb0⟩

set_option maxRecDepth 100000 in
set_option maxHeartbeats 1000000 in
theorem kin_22 {B B' : Nat} (s : Nat) (v : Value) (l : List Nat) (w : World) (bl len : Nat) (nb : Nat → Nat) (vv : Nat → Value) (ts : List NodeD) (hs : SelAt w s v (l.map nb) B) (hF : Forest B' w bl len nb vv ts) (hR : RightT ts len)
    (hin : ∀ i ∈ l, i < len) (hpos : ∀ i ∈ l, 0 < i) (hn : l.length ≤ 200) :
    Calls Tryz.prog 28 #[.pointer (some ⟨s, 0, none⟩), .agg #[.int .i64 22, .string ⟨#[]⟩, .slice none 0 0, .int .i64 0, .int .i64 0]] w (StepPost s ((onceF (l.flatMap (fun x => (parEl ts x).toList))).map nb) w) := by
  have hb0 : Below w.heap.size w (w.alloc (.cells #[.int .i64 22, .string ⟨#[]⟩, .slice none 0 0, .int .i64 0, .int .i64 0] 27)) := (Below.refl _ _).alloc (Nat.le_refl _) _
  have k0 : (w.alloc (.cells #[.int .i64 22, .string ⟨#[]⟩, .slice none 0 0, .int .i64 0, .int .i64 0] 27)).cell? ⟨w.heap.size, 0, none⟩ = some (.int .i64 22) := cell_alloc_new' _ _ _ rfl rfl
  obtain ⟨w0, hw0⟩ : ∃ w0, w.alloc (.cells #[.int .i64 22, .string ⟨#[]⟩, .slice none 0 0, .int .i64 0, .int .i64 0] 27) = w0 := ⟨_, rfl⟩
  rw [hw0] at hb0 k0
  have hst := stepParent s v l w0 bl len nb vv ts (hs.below hb0) (hF.below hb0) hR hin hpos hn
  obtain ⟨L, hL⟩ : ∃ L, (onceF (l.flatMap (fun x => (parEl ts x).toList))).map nb = L := ⟨_, rfl⟩
  rw [hL] at hst ⊢
  have HST := Lib.hid hst
  have HB := Lib.hid hb0
  clear hst hL hs hF hR hin hpos hb0
  go_enter Tryz.func28, Tryz.ntmps28
  go_wp2_with fail
  refine HST.out.mono ?_
  rintro e w1 ⟨s', v', rfl, h1, h2, h4, h3⟩
  have H1 := Lib.hid (h1.out.weaken HB.out.size)
  have H3 := Lib.hid (HB.out.trans (h3.out.mono HB.out.size))
  clear h1 h3 HST
  go_wp2
  go_ret
  exact ⟨s', v', rfl, H1, h2, h4, H3⟩

set_option maxRecDepth 100000 in
set_option maxHeartbeats 1000000 in
theorem bySet_23 (s : Nat) (a : Option Addr) (n c : Nat) (w : World) :
    Calls Tryz.prog 27 #[.pointer (some ⟨s, 0, none⟩), .agg #[.int .i64 23, .string ⟨#[]⟩, .slice none 0 0, .int .i64 0, .int .i64 0], .slice a n c] w (fun e w' => e = .returned (.pointer none) ∧ Below w.heap.size w w') := by
  have hb0 : Below w.heap.size w (w.alloc (.cells #[.int .i64 23, .string ⟨#[]⟩, .slice none 0 0, .int .i64 0, .int .i64 0] 27)) := (Below.refl _ _).alloc (Nat.le_refl _) _
  have k0 : (w.alloc (.cells #[.int .i64 23, .string ⟨#[]⟩, .slice none 0 0, .int .i64 0, .int .i64 0] 27)).cell? ⟨w.heap.size, 0, none⟩ = some (.int .i64 23) := cell_alloc_new' _ _ _ rfl rfl
  go_enter Tryz.func27, Tryz.ntmps27
  go_wp2
  go_ret
  exact ⟨rfl, hb0⟩

set_option maxRecDepth 100000 in
set_option maxHeartbeats 1000000 in
theorem kin_23 {B B' : Nat} (s : Nat) (v : Value) (l : List Nat) (w : World) (bl len : Nat) (nb : Nat → Nat) (vv : Nat → Value) (ts : List NodeD) (hs : SelAt w s v (l.map nb) B) (hF : Forest B' w bl len nb vv ts) (hR : RightT ts len)
    (hin : ∀ i ∈ l, i < len) (hpos : ∀ i ∈ l, 0 < i) (hn : l.length ≤ 200) :
    Calls Tryz.prog 28 #[.pointer (some ⟨s, 0, none⟩), .agg #[.int .i64 23, .string ⟨#[]⟩, .slice none 0 0, .int .i64 0, .int .i64 0]] w (StepPost s ((onceF (l.flatMap (ancL ts))).map nb) w) := by
  have hb0 : Below w.heap.size w (w.alloc (.cells #[.int .i64 23, .string ⟨#[]⟩, .slice none 0 0, .int .i64 0, .int .i64 0] 27)) := (Below.refl _ _).alloc (Nat.le_refl _) _
  have k0 : (w.alloc (.cells #[.int .i64 23, .string ⟨#[]⟩, .slice none 0 0, .int .i64 0, .int .i64 0] 27)).cell? ⟨w.heap.size, 0, none⟩ = some (.int .i64 23) := cell_alloc_new' _ _ _ rfl rfl
  obtain ⟨w0, hw0⟩ : ∃ w0, w.alloc (.cells #[.int .i64 23, .string ⟨#[]⟩, .slice none 0 0, .int .i64 0, .int .i64 0] 27) = w0 := ⟨_, rfl⟩
  rw [hw0] at hb0 k0
  have hst := stepParents s v l w0 bl len nb vv ts (hs.below hb0) (hF.below hb0) hR hin hpos hn
  obtain ⟨L, hL⟩ : ∃ L, (onceF (l.flatMap (ancL ts))).map nb = L := ⟨_, rfl⟩
  rw [hL] at hst ⊢
  have HST := Lib.hid hst
  have HB := Lib.hid hb0
  clear hst hL hs hF hR hin hpos hb0
  go_enter Tryz.func28, Tryz.ntmps28
  go_wp2_with fail
  refine HST.out.mono ?_
  rintro e w1 ⟨s', v', rfl, h1, h2, h4, h3⟩
  have H1 := Lib.hid (h1.out.weaken HB.out.size)
  have H3 := Lib.hid (HB.out.trans (h3.out.mono HB.out.size))
  clear h1 h3 HST
  go_wp2
  go_ret
  exact ⟨s', v', rfl, H1, h2, h4, H3⟩

set_option maxRecDepth 100000 in
set_option maxHeartbeats 1000000 in
theorem bySet_25 (s : Nat) (a : Option Addr) (n c : Nat) (w : World) :
    Calls Tryz.prog 27 #[.pointer (some ⟨s, 0, none⟩), .agg #[.int .i64 25, .string ⟨#[]⟩, .slice none 0 0, .int .i64 0, .int .i64 0], .slice a n c] w (fun e w' => e = .returned (.pointer none) ∧ Below w.heap.size w w') := by
  have hb0 : Below w.heap.size w (w.alloc (.cells #[.int .i64 25, .string ⟨#[]⟩, .slice none 0 0, .int .i64 0, .int .i64 0] 27)) := (Below.refl _ _).alloc (Nat.le_refl _) _
  have k0 : (w.alloc (.cells #[.int .i64 25, .string ⟨#[]⟩, .slice none 0 0, .int .i64 0, .int .i64 0] 27)).cell? ⟨w.heap.size, 0, none⟩ = some (.int .i64 25) := cell_alloc_new' _ _ _ rfl rfl
  go_enter Tryz.func27, Tryz.ntmps27
  go_wp2
  go_ret
  exact ⟨rfl, hb0⟩

set_option maxRecDepth 100000 in
set_option maxHeartbeats 1000000 in
theorem kin_25 {B B' : Nat} (s : Nat) (v : Value) (l : List Nat) (w : World) (bl len : Nat) (nb : Nat → Nat) (vv : Nat → Value) (ts : List NodeD) (hs : SelAt w s v (l.map nb) B) (hF : Forest B' w bl len nb vv ts) (hR : RightT ts len)
    (hin : ∀ i ∈ l, i < len) (hpos : ∀ i ∈ l, 0 < i) (hn : l.length ≤ 200) :
    Calls Tryz.prog 28 #[.pointer (some ⟨s, 0, none⟩), .agg #[.int .i64 25, .string ⟨#[]⟩, .slice none 0 0, .int .i64 0, .int .i64 0]] w (StepPost s ((onceF (l.flatMap (fn_1 ts len))).map nb) w) := by
  have hb0 : Below w.heap.size w (w.alloc (.cells #[.int .i64 25, .string ⟨#[]⟩, .slice none 0 0, .int .i64 0, .int .i64 0] 27)) := (Below.refl _ _).alloc (Nat.le_refl _) _
  have k0 : (w.alloc (.cells #[.int .i64 25, .string ⟨#[]⟩, .slice none 0 0, .int .i64 0, .int .i64 0] 27)).cell? ⟨w.heap.size, 0, none⟩ = some (.int .i64 25) := cell_alloc_new' _ _ _ rfl rfl
  obtain ⟨w0, hw0⟩ : ∃ w0, w.alloc (.cells #[.int .i64 25, .string ⟨#[]⟩, .slice none 0 0, .int .i64 0, .int .i64 0] 27) = w0 := ⟨_, rfl⟩
  rw [hw0] at hb0 k0
  have hst := stepNext s v l w0 bl len nb vv ts (hs.below hb0) (hF.below hb0) hR hin hpos hn
  obtain ⟨L, hL⟩ : ∃ L, (onceF (l.flatMap (fn_1 ts len))).map nb = L := ⟨_, rfl⟩
  rw [hL] at hst ⊢
  have HST := Lib.hid hst
  have HB := Lib.hid hb0
  clear hst hL hs hF hR hin hpos hb0
  go_enter Tryz.func28, Tryz.ntmps28
  go_wp2_with fail
  refine HST.out.mono ?_
  rintro e w1 ⟨s', v', rfl, h1, h2, h4, h3⟩
  have H1 := Lib.hid (h1.out.weaken HB.out.size)
  have H3 := Lib.hid (HB.out.trans (h3.out.mono HB.out.size))
  clear h1 h3 HST
  go_wp2
  go_ret
  exact ⟨s', v', rfl, H1, h2, h4, H3⟩

set_option maxRecDepth 100000 in
set_option maxHeartbeats 1000000 in
theorem bySet_26 (s : Nat) (a : Option Addr) (n c : Nat) (w : World) :
    Calls Tryz.prog 27 #[.pointer (some ⟨s, 0, none⟩), .agg #[.int .i64 26, .string ⟨#[]⟩, .slice none 0 0, .int .i64 0, .int .i64 0], .slice a n c] w (fun e w' => e = .returned (.pointer none) ∧ Below w.heap.size w w') := by
  have hb0 : Below w.heap.size w (w.alloc (.cells #[.int .i64 26, .string ⟨#[]⟩, .slice none 0 0, .int .i64 0, .int .i64 0] 27)) := (Below.refl _ _).alloc (Nat.le_refl _) _
  have k0 : (w.alloc (.cells #[.int .i64 26, .string ⟨#[]⟩, .slice none 0 0, .int .i64 0, .int .i64 0] 27)).cell? ⟨w.heap.size, 0, none⟩ = some (.int .i64 26) := cell_alloc_new' _ _ _ rfl rfl
  go_enter Tryz.func27, Tryz.ntmps27
  go_wp2
  go_ret
  exact ⟨rfl, hb0⟩

set_option maxRecDepth 100000 in
set_option maxHeartbeats 1000000 in
theorem kin_26 {B B' : Nat} (s : Nat) (v : Value) (l : List Nat) (w : World) (bl len : Nat) (nb : Nat → Nat) (vv : Nat → Value) (ts : List NodeD) (hs : SelAt w s v (l.map nb) B) (hF : Forest B' w bl len nb vv ts) (hR : RightT ts len)
    (hin : ∀ i ∈ l, i < len) (hpos : ∀ i ∈ l, 0 < i) (hn : l.length ≤ 200) :
    Calls Tryz.prog 28 #[.pointer (some ⟨s, 0, none⟩), .agg #[.int .i64 26, .string ⟨#[]⟩, .slice none 0 0, .int .i64 0, .int .i64 0]] w (StepPost s ((onceF (l.flatMap (fn_2 ts len))).map nb) w) := by
  have hb0 : Below w.heap.size w (w.alloc (.cells #[.int .i64 26, .string ⟨#[]⟩, .slice none 0 0, .int .i64 0, .int .i64 0] 27)) := (Below.refl _ _).alloc (Nat.le_refl _) _
  have k0 : (w.alloc (.cells #[.int .i64 26, .string ⟨#[]⟩, .slice none 0 0, .int .i64 0, .int .i64 0] 27)).cell? ⟨w.heap.size, 0, none⟩ = some (.int .i64 26) := cell_alloc_new' _ _ _ rfl rfl
  obtain ⟨w0, hw0⟩ : ∃ w0, w.alloc (.cells #[.int .i64 26, .string ⟨#[]⟩, .slice none 0 0, .int .i64 0, .int .i64 0] 27) = w0 := ⟨_, rfl⟩
  rw [hw0] at hb0 k0
  have hst := stepNextAll s v l w0 bl len nb vv ts (hs.below hb0) (hF.below hb0) hR hin hpos hn
  obtain ⟨L, hL⟩ : ∃ L, (onceF (l.flatMap (fn_2 ts len))).map nb = L := ⟨_, rfl⟩
  rw [hL] at hst ⊢
  have HST := Lib.hid hst
  have HB := Lib.hid hb0
  clear hst hL hs hF hR hin hpos hb0
  go_enter Tryz.func28, Tryz.ntmps28
  go_wp2_with fail
  refine HST.out.mono ?_
  rintro e w1 ⟨s', v', rfl, h1, h2, h4, h3⟩
  have H1 := Lib.hid (h1.out.weaken HB.out.size)
  have H3 := Lib.hid (HB.out.trans (h3.out.mono HB.out.size))
  clear h1 h3 HST
  go_wp2
  go_ret
  exact ⟨s', v', rfl, H1, h2, h4, H3⟩

set_option maxRecDepth 100000 in
set_option maxHeartbeats 1000000 in
theorem bySet_28 (s : Nat) (a : Option Addr) (n c : Nat) (w : World) :
    Calls Tryz.prog 27 #[.pointer (some ⟨s, 0, none⟩), .agg #[.int .i64 28, .string ⟨#[]⟩, .slice none 0 0, .int .i64 0, .int .i64 0], .slice a n c] w (fun e w' => e = .returned (.pointer none) ∧ Below w.heap.size w w') := by
  have hb0 : Below w.heap.size w (w.alloc (.cells #[.int .i64 28, .string ⟨#[]⟩, .slice none 0 0, .int .i64 0, .int .i64 0] 27)) := (Below.refl _ _).alloc (Nat.le_refl _) _
  have k0 : (w.alloc (.cells #[.int .i64 28, .string ⟨#[]⟩, .slice none 0 0, .int .i64 0, .int .i64 0] 27)).cell? ⟨w.heap.size, 0, none⟩ = some (.int .i64 28) := cell_alloc_new' _ _ _ rfl rfl
  go_enter Tryz.func27, Tryz.ntmps27
  go_wp2
  go_ret
  exact ⟨rfl, hb0⟩

set_option maxRecDepth 100000 in
set_option maxHeartbeats 1000000 in
theorem kin_28 {B B' : Nat} (s : Nat) (v : Value) (l : List Nat) (w : World) (bl len : Nat) (nb : Nat → Nat) (vv : Nat → Value) (ts : List NodeD) (hs : SelAt w s v (l.map nb) B) (hF : Forest B' w bl len nb vv ts) (hR : RightT ts len)
    (hin : ∀ i ∈ l, i < len) (hpos : ∀ i ∈ l, 0 < i) (hn : l.length ≤ 200) :
    Calls Tryz.prog 28 #[.pointer (some ⟨s, 0, none⟩), .agg #[.int .i64 28, .string ⟨#[]⟩, .slice none 0 0, .int .i64 0, .int .i64 0]] w (StepPost s ((onceF (l.flatMap (fn_m1 ts len))).map nb) w) := by
  have hb0 : Below w.heap.size w (w.alloc (.cells #[.int .i64 28, .string ⟨#[]⟩, .slice none 0 0, .int .i64 0, .int .i64 0] 27)) := (Below.refl _ _).alloc (Nat.le_refl _) _
  have k0 : (w.alloc (.cells #[.int .i64 28, .string ⟨#[]⟩, .slice none 0 0, .int .i64 0, .int .i64 0] 27)).cell? ⟨w.heap.size, 0, none⟩ = some (.int .i64 28) := cell_alloc_new' _ _ _ rfl rfl
  obtain ⟨w0, hw0⟩ : ∃ w0, w.alloc (.cells #[.int .i64 28, .string ⟨#[]⟩, .slice none 0 0, .int .i64 0, .int .i64 0] 27) = w0 := ⟨_, rfl⟩
  rw [hw0] at hb0 k0
  have hst := stepPrev s v l w0 bl len nb vv ts (hs.below hb0) (hF.below hb0) hR hin hpos hn
  obtain ⟨L, hL⟩ : ∃ L, (onceF (l.flatMap (fn_m1 ts len))).map nb = L := ⟨_, rfl⟩
  rw [hL] at hst ⊢
  have HST := Lib.hid hst
  have HB := Lib.hid hb0
  clear hst hL hs hF hR hin hpos hb0
  go_enter Tryz.func28, Tryz.ntmps28
  go_wp2_with fail
  refine HST.out.mono ?_
  rintro e w1 ⟨s', v', rfl, h1, h2, h4, h3⟩
  have H1 := Lib.hid (h1.out.weaken HB.out.size)
  have H3 := Lib.hid (HB.out.trans (h3.out.mono HB.out.size))
  clear h1 h3 HST
  go_wp2
  go_ret
  exact ⟨s', v', rfl, H1, h2, h4, H3⟩

set_option maxRecDepth 100000 in
set_option maxHeartbeats 1000000 in
theorem bySet_29 (s : Nat) (a : Option Addr) (n c : Nat) (w : World) :
    Calls Tryz.prog 27 #[.pointer (some ⟨s, 0, none⟩), .agg #[.int .i64 29, .string ⟨#[]⟩, .slice none 0 0, .int .i64 0, .int .i64 0], .slice a n c] w (fun e w' => e = .returned (.pointer none) ∧ Below w.heap.size w w') := by
  have hb0 : Below w.heap.size w (w.alloc (.cells #[.int .i64 29, .string ⟨#[]⟩, .slice none 0 0, .int .i64 0, .int .i64 0] 27)) := (Below.refl _ _).alloc (Nat.le_refl _) _
  have k0 : (w.alloc (.cells #[.int .i64 29, .string ⟨#[]⟩, .slice none 0 0, .int .i64 0, .int .i64 0] 27)).cell? ⟨w.heap.size, 0, none⟩ = some (.int .i64 29) := cell_alloc_new' _ _ _ rfl rfl
  go_enter Tryz.func27, Tryz.ntmps27
  go_wp2
  go_ret
  exact ⟨rfl, hb0⟩

set_option maxRecDepth 100000 in
set_option maxHeartbeats 1000000 in
theorem kin_29 {B B' : Nat} (s : Nat) (v : Value) (l : List Nat) (w : World) (bl len : Nat) (nb : Nat → Nat) (vv : Nat → Value) (ts : List NodeD) (hs : SelAt w s v (l.map nb) B) (hF : Forest B' w bl len nb vv ts) (hR : RightT ts len)
    (hin : ∀ i ∈ l, i < len) (hpos : ∀ i ∈ l, 0 < i) (hn : l.length ≤ 200) :
    Calls Tryz.prog 28 #[.pointer (some ⟨s, 0, none⟩), .agg #[.int .i64 29, .string ⟨#[]⟩, .slice none 0 0, .int .i64 0, .int .i64 0]] w (StepPost s ((onceF (l.flatMap (fn_m2 ts len))).map nb) w) := by
  have hb0 : Below w.heap.size w (w.alloc (.cells #[.int .i64 29, .string ⟨#[]⟩, .slice none 0 0, .int .i64 0, .int .i64 0] 27)) := (Below.refl _ _).alloc (Nat.le_refl _) _
  have k0 : (w.alloc (.cells #[.int .i64 29, .string ⟨#[]⟩, .slice none 0 0, .int .i64 0, .int .i64 0] 27)).cell? ⟨w.heap.size, 0, none⟩ = some (.int .i64 29) := cell_alloc_new' _ _ _ rfl rfl
  obtain ⟨w0, hw0⟩ : ∃ w0, w.alloc (.cells #[.int .i64 29, .string ⟨#[]⟩, .slice none 0 0, .int .i64 0, .int .i64 0] 27) = w0 := ⟨_, rfl⟩
  rw [hw0] at hb0 k0
  have hst := stepPrevAll s v l w0 bl len nb vv ts (hs.below hb0) (hF.below hb0) hR hin hpos hn
  obtain ⟨L, hL⟩ : ∃ L, (onceF (l.flatMap (fn_m2 ts len))).map nb = L := ⟨_, rfl⟩
  rw [hL] at hst ⊢
  have HST := Lib.hid hst
  have HB := Lib.hid hb0
  clear hst hL hs hF hR hin hpos hb0
  go_enter Tryz.func28, Tryz.ntmps28
  go_wp2_with fail
  refine HST.out.mono ?_
  rintro e w1 ⟨s', v', rfl, h1, h2, h4, h3⟩
  have H1 := Lib.hid (h1.out.weaken HB.out.size)
  have H3 := Lib.hid (HB.out.trans (h3.out.mono HB.out.size))
  clear h1 h3 HST
  go_wp2
  go_ret
  exact ⟨s', v', rfl, H1, h2, h4, H3⟩

set_option maxRecDepth 100000 in
set_option maxHeartbeats 1000000 in
theorem bySet_31 (s : Nat) (a : Option Addr) (n c : Nat) (w : World) :
    Calls Tryz.prog 27 #[.pointer (some ⟨s, 0, none⟩), .agg #[.int .i64 31, .string ⟨#[]⟩, .slice none 0 0, .int .i64 0, .int .i64 0], .slice a n c] w (fun e w' => e = .returned (.pointer none) ∧ Below w.heap.size w w') := by
  have hb0 : Below w.heap.size w (w.alloc (.cells #[.int .i64 31, .string ⟨#[]⟩, .slice none 0 0, .int .i64 0, .int .i64 0] 27)) := (Below.refl _ _).alloc (Nat.le_refl _) _
  have k0 : (w.alloc (.cells #[.int .i64 31, .string ⟨#[]⟩, .slice none 0 0, .int .i64 0, .int .i64 0] 27)).cell? ⟨w.heap.size, 0, none⟩ = some (.int .i64 31) := cell_alloc_new' _ _ _ rfl rfl
  go_enter Tryz.func27, Tryz.ntmps27
  go_wp2
  go_ret
  exact ⟨rfl, hb0⟩

set_option maxRecDepth 100000 in
set_option maxHeartbeats 2000000 in
theorem stepSibs {B B' : Nat} (s : Nat) (v : Value) (l : List Nat) (w : World) (bl len : Nat) (nb : Nat → Nat) (vv : Nat → Value) (ts : List NodeD) (hs : SelAt w s v (l.map nb) B) (hF : Forest B' w bl len nb vv ts) (hR : RightT ts len)
    (hin : ∀ i ∈ l, i < len) (hpos : ∀ i ∈ l, 0 < i) (hn : l.length ≤ 200) :
    Calls Tryz.prog 64 #[.pointer (some ⟨s, 0, none⟩)] w (StepPost s ((onceF (l.flatMap (fn_0 ts len))).map nb) w) := by
  have hp := stepSiblings s v l w bl len nb vv ts hs hF hR hin hpos hn
  obtain ⟨L, hL⟩ : ∃ L, (onceF (l.flatMap (fn_0 ts len))).map nb = L := ⟨_, rfl⟩
  rw [hL] at hp ⊢
  have c0 := hs.nodes
  obtain ⟨a, cap, b, off, rfl, hm, ha, hc⟩ := ptrs_open hs.own.ptrs
  rw [List.length_map] at ha hc hm c0
  have HA := Lib.hid ha
  have HC := Lib.hid hc
  have HP := Lib.hid hp
  have HF := Lib.hid hF
  have HR := Lib.hid hR
  have HI := Lib.hid (And.intro hin hpos)
  clear hp hs hF hR hL hin hpos ha hc
  go_enter Tryz.func64, Tryz.ntmps64
  go_wp2
  go_loop [10] (fun i => ∃ k : Nat, k ≤ l.length ∧ i = .int .i64 (k : Int)) (fun i => l.length - (intOf i).toNat)
  case atStart => exact ⟨0, by omega, by go_num⟩
  case round =>
    obtain ⟨k, hk, rfl⟩ := hrel
    by_cases hlt : k < l.length
    · obtain rfl := HA.out (by omega)
      have ck := HC.out k hlt
      rw [show (l.map nb).getD k 0 = nb (l.getD k 0) by simp [List.getD, hlt]] at ck
      have hmem := getD_mem' (d := 0) hlt
      have hxl := HI.out.1 _ hmem
      obtain ⟨p, hp⟩ := par_is HR.out.root hxl (HI.out.2 _ hmem)
      obtain ⟨x, hx⟩ : ∃ x, l.getD k 0 = x := ⟨_, rfl⟩
      rw [hx] at ck hxl hp
      have kx := (HF.out.node hxl).par
      rw [show (nodeR (fun i => i + sz ts i) 0 nb (ts.getD x default) (vv x) x).par = (up (fun i => i + sz ts i) 0 x).map nb from rfl, up_par, hp, Option.map_some, lk_some] at kx
      have hkI : (k : Int) < (l.length : Int) := by omega
      clear hmem hxl hp hx
      go_wp2
      go_round
      case rel => exact ⟨k + 1, by omega, by go_num⟩
      case measure => simp [intOf]; omega
    · obtain rfl : k = l.length := by omega
      clear hlt
      go_wp2_with fail
      refine HP.out.mono ?_
      rintro e w1 ⟨s1, v1, rfl, hs1, hp1, hq1, hb1⟩
      go_wp2
      go_ret
      exact ⟨s1, v1, rfl, hs1, hp1, hq1, hb1⟩

set_option maxRecDepth 100000 in
set_option maxHeartbeats 1000000 in
theorem kin_31 {B B' : Nat} (s : Nat) (v : Value) (l : List Nat) (w : World) (bl len : Nat) (nb : Nat → Nat) (vv : Nat → Value) (ts : List NodeD) (hs : SelAt w s v (l.map nb) B) (hF : Forest B' w bl len nb vv ts) (hR : RightT ts len)
    (hin : ∀ i ∈ l, i < len) (hpos : ∀ i ∈ l, 0 < i) (hn : l.length ≤ 200) :
    Calls Tryz.prog 28 #[.pointer (some ⟨s, 0, none⟩), .agg #[.int .i64 31, .string ⟨#[]⟩, .slice none 0 0, .int .i64 0, .int .i64 0]] w (StepPost s ((onceF (l.flatMap (fn_0 ts len))).map nb) w) := by
  have hb0 : Below w.heap.size w (w.alloc (.cells #[.int .i64 31, .string ⟨#[]⟩, .slice none 0 0, .int .i64 0, .int .i64 0] 27)) := (Below.refl _ _).alloc (Nat.le_refl _) _
  have k0 : (w.alloc (.cells #[.int .i64 31, .string ⟨#[]⟩, .slice none 0 0, .int .i64 0, .int .i64 0] 27)).cell? ⟨w.heap.size, 0, none⟩ = some (.int .i64 31) := cell_alloc_new' _ _ _ rfl rfl
  obtain ⟨w0, hw0⟩ : ∃ w0, w.alloc (.cells #[.int .i64 31, .string ⟨#[]⟩, .slice none 0 0, .int .i64 0, .int .i64 0] 27) = w0 := ⟨_, rfl⟩
  rw [hw0] at hb0 k0
  have hst := stepSibs s v l w0 bl len nb vv ts (hs.below hb0) (hF.below hb0) hR hin hpos hn
  obtain ⟨L, hL⟩ : ∃ L, (onceF (l.flatMap (fn_0 ts len))).map nb = L := ⟨_, rfl⟩
  rw [hL] at hst ⊢
  have HST := Lib.hid hst
  have HB := Lib.hid hb0
  clear hst hL hs hF hR hin hpos hb0
  go_enter Tryz.func28, Tryz.ntmps28
  go_wp2_with fail
  refine HST.out.mono ?_
  rintro e w1 ⟨s', v', rfl, h1, h2, h4, h3⟩
  have H1 := Lib.hid (h1.out.weaken HB.out.size)
  have H3 := Lib.hid (HB.out.trans (h3.out.mono HB.out.size))
  clear h1 h3 HST
  go_wp2
  go_ret
  exact ⟨s', v', rfl, H1, h2, h4, H3⟩

end Go.Proofs.YtphppdbhofeagaaGreat
