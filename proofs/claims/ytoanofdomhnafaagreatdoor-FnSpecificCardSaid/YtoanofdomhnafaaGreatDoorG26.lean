/- Parts of a proof: SpecLess, SelSimple, SpecCompound, SelCompound, SpecRel. -/
import Derived.Test.YtoanofdomhnafaaGreatDoorG25
import Derived.Deep.RegionWith
set_option linter.unusedVariables false
set_option linter.unusedSimpArgs false
namespace Go.Proofs.YtoanofdomhnafaaGreatDoor
open Go.RowKit
/-- Two boxes of three numbers. -/
def LessAt (w wr : World) (S x0 x1 x2 y0 y1 y2 : Nat) : Prop :=
  World.objAt wr S #[.int .i64 (x0 : Int), .int .i64 (x1 : Int), .int .i64 (x2 : Int)] 41 ∧ World.objAt wr (S + 1) #[.int .i64 (y0 : Int), .int .i64 (y1 : Int), .int .i64 (y2 : Int)] 41 ∧ Below w.heap.size w wr
theorem LessAt.drew {w wr : World} {S x0 x1 x2 y0 y1 y2 : Nat} (h : LessAt w wr S x0 x1 x2 y0 y1 y2) (q : Nat) : LessAt w (wr.drewN q) S x0 x1 x2 y0 y1 y2 :=
  ⟨objAt_drew h.1 q, objAt_drew h.2.1 q, below_drewN h.2.2 q⟩
set_option maxRecDepth 100000 in
set_option maxHeartbeats 8000000 in
theorem specLess (x y : Tri) (w : World) :
    Calls Tryz.prog 121 #[triV x, triV y] w (fun e w' => e = .returned (.bool (triLess x y)) ∧ Hid (Below w.heap.size w w')) := by
  obtain ⟨x0, x1, x2⟩ := x
  obtain ⟨y0, y1, y2⟩ := y
  unfold triV
  go_enter Tryz.func121, Tryz.ntmps121
  go_wp2
  obtain ⟨S, hS⟩ : ∃ S, w.heap.size = S := ⟨_, rfl⟩
  obtain ⟨w1, hw1⟩ : ∃ w1, ((w.alloc (.cells #[.int .i64 (x0 : Int), .int .i64 (x1 : Int), .int .i64 (x2 : Int)] 41)).alloc (.cells #[.int .i64 (y0 : Int), .int .i64 (y1 : Int), .int .i64 (y2 : Int)] 41)) = w1 := ⟨_, rfl⟩
  have hA : LessAt w w1 S x0 x1 x2 y0 y1 y2 := by
    rw [← hw1, ← hS]
    refine ⟨World.objAt.below (objAt_alloc_new w _ _) ((Below.refl (w.heap.size + 1) _).alloc (by simp) _) (by omega), ?_, ((Below.refl w.heap.size w).alloc (Nat.le_refl _) _).alloc (by simp) _⟩
    have := objAt_alloc_new (w.alloc (.cells #[.int .i64 (x0 : Int), .int .i64 (x1 : Int), .int .i64 (x2 : Int)] 41)) #[.int .i64 (y0 : Int), .int .i64 (y1 : Int), .int .i64 (y2 : Int)] 41
    simpa using this
  rw [hw1]
  have H0 := Lib.hid hA
  clear hA hw1
  try rw [hS]
  go_loopw [6] (fun i wr => Hid (LessAt w wr S x0 x1 x2 y0 y1 y2) ∧ ((i = .int .i64 0) ∨ (i = .int .i64 1 ∧ x0 = y0) ∨ (i = .int .i64 2 ∧ x0 = y0 ∧ x1 = y1) ∨ (i = .int .i64 3 ∧ x0 = y0 ∧ x1 = y1 ∧ x2 = y2))) (fun i _ => 3 - (intOf i).toNat)
  case atStart => exact ⟨H0, .inl rfl⟩
  case round =>
    obtain ⟨hH, hrel⟩ := hrel
    rcases hrel with rfl | ⟨rfl, e0⟩ | ⟨rfl, e0, e1⟩ | ⟨rfl, e0, e1, e2⟩
    · have d0 : wr.cell? ⟨S, 0, none⟩ = some (.int .i64 (x0 : Int)) := World.objAt.cell hH.out.1 (i := 0) rfl
      have b0 : wr.cell? ⟨S + 1, 0, none⟩ = some (.int .i64 (y0 : Int)) := World.objAt.cell hH.out.2.1 (i := 0) rfl
      have d1 : wr.cell? ⟨S, 1, none⟩ = some (.int .i64 (x1 : Int)) := World.objAt.cell hH.out.1 (i := 1) rfl
      have b1 : wr.cell? ⟨S + 1, 1, none⟩ = some (.int .i64 (y1 : Int)) := World.objAt.cell hH.out.2.1 (i := 1) rfl
      have d2 : wr.cell? ⟨S, 2, none⟩ = some (.int .i64 (x2 : Int)) := World.objAt.cell hH.out.1 (i := 2) rfl
      have b2 : wr.cell? ⟨S + 1, 2, none⟩ = some (.int .i64 (y2 : Int)) := World.objAt.cell hH.out.2.1 (i := 2) rfl
      by_cases hL : x0 < y0
      · have c1 : decide ((x0 : Int) < (y0 : Int)) = true := by simp; omega
        go_wp2
        go_quiet (fail)
        obtain ⟨wa, hwa⟩ : ∃ wa, wr.drewN nq = wa := ⟨_, rfl⟩
        have hHa := Lib.hid (show LessAt w wa S x0 x1 x2 y0 y1 y2 by rw [← hwa]; exact hH.out.drew nq)
        rw [hwa]
        clear hwa d0 d1 d2 b0 b1 b2 nq
        have d0 : wa.cell? ⟨S, 0, none⟩ = some (.int .i64 (x0 : Int)) := World.objAt.cell hHa.out.1 (i := 0) rfl
        have b0 : wa.cell? ⟨S + 1, 0, none⟩ = some (.int .i64 (y0 : Int)) := World.objAt.cell hHa.out.2.1 (i := 0) rfl
        have d1 : wa.cell? ⟨S, 1, none⟩ = some (.int .i64 (x1 : Int)) := World.objAt.cell hHa.out.1 (i := 1) rfl
        have b1 : wa.cell? ⟨S + 1, 1, none⟩ = some (.int .i64 (y1 : Int)) := World.objAt.cell hHa.out.2.1 (i := 1) rfl
        have d2 : wa.cell? ⟨S, 2, none⟩ = some (.int .i64 (x2 : Int)) := World.objAt.cell hHa.out.1 (i := 2) rfl
        have b2 : wa.cell? ⟨S + 1, 2, none⟩ = some (.int .i64 (y2 : Int)) := World.objAt.cell hHa.out.2.1 (i := 2) rfl
        go_wp2
        refine bodyPost_ret (results_tmp rfl _ _ _) rfl ?_
        refine ⟨?_, Lib.hid hHa.out.2.2⟩
        have : triLess (x0, x1, x2) (y0, y1, y2) = true := by unfold triLess; dsimp only; split <;> (try split) <;> first | (simp; omega) | (exfalso; omega)
        rw [this]; rfl
      · have c1 : decide ((x0 : Int) < (y0 : Int)) = false := by simp; omega
        by_cases hG : y0 < x0
        · have c2 : decide ((y0 : Int) < (x0 : Int)) = true := by simp; omega
          go_wp2
          go_quiet (fail)
          obtain ⟨wa, hwa⟩ : ∃ wa, wr.drewN nq = wa := ⟨_, rfl⟩
          have hHa := Lib.hid (show LessAt w wa S x0 x1 x2 y0 y1 y2 by rw [← hwa]; exact hH.out.drew nq)
          rw [hwa]
          clear hwa d0 d1 d2 b0 b1 b2 nq
          have d0 : wa.cell? ⟨S, 0, none⟩ = some (.int .i64 (x0 : Int)) := World.objAt.cell hHa.out.1 (i := 0) rfl
          have b0 : wa.cell? ⟨S + 1, 0, none⟩ = some (.int .i64 (y0 : Int)) := World.objAt.cell hHa.out.2.1 (i := 0) rfl
          have d1 : wa.cell? ⟨S, 1, none⟩ = some (.int .i64 (x1 : Int)) := World.objAt.cell hHa.out.1 (i := 1) rfl
          have b1 : wa.cell? ⟨S + 1, 1, none⟩ = some (.int .i64 (y1 : Int)) := World.objAt.cell hHa.out.2.1 (i := 1) rfl
          have d2 : wa.cell? ⟨S, 2, none⟩ = some (.int .i64 (x2 : Int)) := World.objAt.cell hHa.out.1 (i := 2) rfl
          have b2 : wa.cell? ⟨S + 1, 2, none⟩ = some (.int .i64 (y2 : Int)) := World.objAt.cell hHa.out.2.1 (i := 2) rfl
          go_wp2
          go_quiet (fail)
          obtain ⟨wb, hwb⟩ : ∃ wb, wa.drewN nq = wb := ⟨_, rfl⟩
          have hHb := Lib.hid (show LessAt w wb S x0 x1 x2 y0 y1 y2 by rw [← hwb]; exact hHa.out.drew nq)
          rw [hwb]
          clear hwb d0 d1 d2 b0 b1 b2 nq
          have d0 : wb.cell? ⟨S, 0, none⟩ = some (.int .i64 (x0 : Int)) := World.objAt.cell hHb.out.1 (i := 0) rfl
          have b0 : wb.cell? ⟨S + 1, 0, none⟩ = some (.int .i64 (y0 : Int)) := World.objAt.cell hHb.out.2.1 (i := 0) rfl
          have d1 : wb.cell? ⟨S, 1, none⟩ = some (.int .i64 (x1 : Int)) := World.objAt.cell hHb.out.1 (i := 1) rfl
          have b1 : wb.cell? ⟨S + 1, 1, none⟩ = some (.int .i64 (y1 : Int)) := World.objAt.cell hHb.out.2.1 (i := 1) rfl
          have d2 : wb.cell? ⟨S, 2, none⟩ = some (.int .i64 (x2 : Int)) := World.objAt.cell hHb.out.1 (i := 2) rfl
          have b2 : wb.cell? ⟨S + 1, 2, none⟩ = some (.int .i64 (y2 : Int)) := World.objAt.cell hHb.out.2.1 (i := 2) rfl
          go_wp2
          refine bodyPost_ret (results_tmp rfl _ _ _) rfl ?_
          refine ⟨?_, Lib.hid hHb.out.2.2⟩
          have : triLess (x0, x1, x2) (y0, y1, y2) = false := by unfold triLess; dsimp only; split <;> (try split) <;> first | (simp; omega) | (exfalso; omega)
          rw [this]; rfl
        · have c2 : decide ((y0 : Int) < (x0 : Int)) = false := by simp; omega
          have hE : x0 = y0 := by omega
          go_wp2
          go_quiet (fail)
          obtain ⟨wa, hwa⟩ : ∃ wa, wr.drewN nq = wa := ⟨_, rfl⟩
          have hHa := Lib.hid (show LessAt w wa S x0 x1 x2 y0 y1 y2 by rw [← hwa]; exact hH.out.drew nq)
          rw [hwa]
          clear hwa d0 d1 d2 b0 b1 b2 nq
          have d0 : wa.cell? ⟨S, 0, none⟩ = some (.int .i64 (x0 : Int)) := World.objAt.cell hHa.out.1 (i := 0) rfl
          have b0 : wa.cell? ⟨S + 1, 0, none⟩ = some (.int .i64 (y0 : Int)) := World.objAt.cell hHa.out.2.1 (i := 0) rfl
          have d1 : wa.cell? ⟨S, 1, none⟩ = some (.int .i64 (x1 : Int)) := World.objAt.cell hHa.out.1 (i := 1) rfl
          have b1 : wa.cell? ⟨S + 1, 1, none⟩ = some (.int .i64 (y1 : Int)) := World.objAt.cell hHa.out.2.1 (i := 1) rfl
          have d2 : wa.cell? ⟨S, 2, none⟩ = some (.int .i64 (x2 : Int)) := World.objAt.cell hHa.out.1 (i := 2) rfl
          have b2 : wa.cell? ⟨S + 1, 2, none⟩ = some (.int .i64 (y2 : Int)) := World.objAt.cell hHa.out.2.1 (i := 2) rfl
          go_wp2
          go_quiet (fail)
          obtain ⟨wb, hwb⟩ : ∃ wb, wa.drewN nq = wb := ⟨_, rfl⟩
          have hHb := Lib.hid (show LessAt w wb S x0 x1 x2 y0 y1 y2 by rw [← hwb]; exact hHa.out.drew nq)
          rw [hwb]
          clear hwb d0 d1 d2 b0 b1 b2 nq
          have d0 : wb.cell? ⟨S, 0, none⟩ = some (.int .i64 (x0 : Int)) := World.objAt.cell hHb.out.1 (i := 0) rfl
          have b0 : wb.cell? ⟨S + 1, 0, none⟩ = some (.int .i64 (y0 : Int)) := World.objAt.cell hHb.out.2.1 (i := 0) rfl
          have d1 : wb.cell? ⟨S, 1, none⟩ = some (.int .i64 (x1 : Int)) := World.objAt.cell hHb.out.1 (i := 1) rfl
          have b1 : wb.cell? ⟨S + 1, 1, none⟩ = some (.int .i64 (y1 : Int)) := World.objAt.cell hHb.out.2.1 (i := 1) rfl
          have d2 : wb.cell? ⟨S, 2, none⟩ = some (.int .i64 (x2 : Int)) := World.objAt.cell hHb.out.1 (i := 2) rfl
          have b2 : wb.cell? ⟨S + 1, 2, none⟩ = some (.int .i64 (y2 : Int)) := World.objAt.cell hHb.out.2.1 (i := 2) rfl
          go_wp2
          go_roundw
          case rel => exact ⟨hHb, .inr (.inl ⟨by go_num, hE⟩)⟩
          case measure => simp [intOf]
    · have d0 : wr.cell? ⟨S, 0, none⟩ = some (.int .i64 (x0 : Int)) := World.objAt.cell hH.out.1 (i := 0) rfl
      have b0 : wr.cell? ⟨S + 1, 0, none⟩ = some (.int .i64 (y0 : Int)) := World.objAt.cell hH.out.2.1 (i := 0) rfl
      have d1 : wr.cell? ⟨S, 1, none⟩ = some (.int .i64 (x1 : Int)) := World.objAt.cell hH.out.1 (i := 1) rfl
      have b1 : wr.cell? ⟨S + 1, 1, none⟩ = some (.int .i64 (y1 : Int)) := World.objAt.cell hH.out.2.1 (i := 1) rfl
      have d2 : wr.cell? ⟨S, 2, none⟩ = some (.int .i64 (x2 : Int)) := World.objAt.cell hH.out.1 (i := 2) rfl
      have b2 : wr.cell? ⟨S + 1, 2, none⟩ = some (.int .i64 (y2 : Int)) := World.objAt.cell hH.out.2.1 (i := 2) rfl
      by_cases hL : x1 < y1
      · have c1 : decide ((x1 : Int) < (y1 : Int)) = true := by simp; omega
        go_wp2
        go_quiet (fail)
        obtain ⟨wa, hwa⟩ : ∃ wa, wr.drewN nq = wa := ⟨_, rfl⟩
        have hHa := Lib.hid (show LessAt w wa S x0 x1 x2 y0 y1 y2 by rw [← hwa]; exact hH.out.drew nq)
        rw [hwa]
        clear hwa d0 d1 d2 b0 b1 b2 nq
        have d0 : wa.cell? ⟨S, 0, none⟩ = some (.int .i64 (x0 : Int)) := World.objAt.cell hHa.out.1 (i := 0) rfl
        have b0 : wa.cell? ⟨S + 1, 0, none⟩ = some (.int .i64 (y0 : Int)) := World.objAt.cell hHa.out.2.1 (i := 0) rfl
        have d1 : wa.cell? ⟨S, 1, none⟩ = some (.int .i64 (x1 : Int)) := World.objAt.cell hHa.out.1 (i := 1) rfl
        have b1 : wa.cell? ⟨S + 1, 1, none⟩ = some (.int .i64 (y1 : Int)) := World.objAt.cell hHa.out.2.1 (i := 1) rfl
        have d2 : wa.cell? ⟨S, 2, none⟩ = some (.int .i64 (x2 : Int)) := World.objAt.cell hHa.out.1 (i := 2) rfl
        have b2 : wa.cell? ⟨S + 1, 2, none⟩ = some (.int .i64 (y2 : Int)) := World.objAt.cell hHa.out.2.1 (i := 2) rfl
        go_wp2
        refine bodyPost_ret (results_tmp rfl _ _ _) rfl ?_
        refine ⟨?_, Lib.hid hHa.out.2.2⟩
        have : triLess (x0, x1, x2) (y0, y1, y2) = true := by unfold triLess; dsimp only; split <;> (try split) <;> first | (simp; omega) | (exfalso; omega)
        rw [this]; rfl
      · have c1 : decide ((x1 : Int) < (y1 : Int)) = false := by simp; omega
        by_cases hG : y1 < x1
        · have c2 : decide ((y1 : Int) < (x1 : Int)) = true := by simp; omega
          go_wp2
          go_quiet (fail)
          obtain ⟨wa, hwa⟩ : ∃ wa, wr.drewN nq = wa := ⟨_, rfl⟩
          have hHa := Lib.hid (show LessAt w wa S x0 x1 x2 y0 y1 y2 by rw [← hwa]; exact hH.out.drew nq)
          rw [hwa]
          clear hwa d0 d1 d2 b0 b1 b2 nq
          have d0 : wa.cell? ⟨S, 0, none⟩ = some (.int .i64 (x0 : Int)) := World.objAt.cell hHa.out.1 (i := 0) rfl
          have b0 : wa.cell? ⟨S + 1, 0, none⟩ = some (.int .i64 (y0 : Int)) := World.objAt.cell hHa.out.2.1 (i := 0) rfl
          have d1 : wa.cell? ⟨S, 1, none⟩ = some (.int .i64 (x1 : Int)) := World.objAt.cell hHa.out.1 (i := 1) rfl
          have b1 : wa.cell? ⟨S + 1, 1, none⟩ = some (.int .i64 (y1 : Int)) := World.objAt.cell hHa.out.2.1 (i := 1) rfl
          have d2 : wa.cell? ⟨S, 2, none⟩ = some (.int .i64 (x2 : Int)) := World.objAt.cell hHa.out.1 (i := 2) rfl
          have b2 : wa.cell? ⟨S + 1, 2, none⟩ = some (.int .i64 (y2 : Int)) := World.objAt.cell hHa.out.2.1 (i := 2) rfl
          go_wp2
          go_quiet (fail)
          obtain ⟨wb, hwb⟩ : ∃ wb, wa.drewN nq = wb := ⟨_, rfl⟩
          have hHb := Lib.hid (show LessAt w wb S x0 x1 x2 y0 y1 y2 by rw [← hwb]; exact hHa.out.drew nq)
          rw [hwb]
          clear hwb d0 d1 d2 b0 b1 b2 nq
          have d0 : wb.cell? ⟨S, 0, none⟩ = some (.int .i64 (x0 : Int)) := World.objAt.cell hHb.out.1 (i := 0) rfl
          have b0 : wb.cell? ⟨S + 1, 0, none⟩ = some (.int .i64 (y0 : Int)) := World.objAt.cell hHb.out.2.1 (i := 0) rfl
          have d1 : wb.cell? ⟨S, 1, none⟩ = some (.int .i64 (x1 : Int)) := World.objAt.cell hHb.out.1 (i := 1) rfl
          have b1 : wb.cell? ⟨S + 1, 1, none⟩ = some (.int .i64 (y1 : Int)) := World.objAt.cell hHb.out.2.1 (i := 1) rfl
          have d2 : wb.cell? ⟨S, 2, none⟩ = some (.int .i64 (x2 : Int)) := World.objAt.cell hHb.out.1 (i := 2) rfl
          have b2 : wb.cell? ⟨S + 1, 2, none⟩ = some (.int .i64 (y2 : Int)) := World.objAt.cell hHb.out.2.1 (i := 2) rfl
          go_wp2
          refine bodyPost_ret (results_tmp rfl _ _ _) rfl ?_
          refine ⟨?_, Lib.hid hHb.out.2.2⟩
          have : triLess (x0, x1, x2) (y0, y1, y2) = false := by unfold triLess; dsimp only; split <;> (try split) <;> first | (simp; omega) | (exfalso; omega)
          rw [this]; rfl
        · have c2 : decide ((y1 : Int) < (x1 : Int)) = false := by simp; omega
          have hE : x1 = y1 := by omega
          go_wp2
          go_quiet (fail)
          obtain ⟨wa, hwa⟩ : ∃ wa, wr.drewN nq = wa := ⟨_, rfl⟩
          have hHa := Lib.hid (show LessAt w wa S x0 x1 x2 y0 y1 y2 by rw [← hwa]; exact hH.out.drew nq)
          rw [hwa]
          clear hwa d0 d1 d2 b0 b1 b2 nq
          have d0 : wa.cell? ⟨S, 0, none⟩ = some (.int .i64 (x0 : Int)) := World.objAt.cell hHa.out.1 (i := 0) rfl
          have b0 : wa.cell? ⟨S + 1, 0, none⟩ = some (.int .i64 (y0 : Int)) := World.objAt.cell hHa.out.2.1 (i := 0) rfl
          have d1 : wa.cell? ⟨S, 1, none⟩ = some (.int .i64 (x1 : Int)) := World.objAt.cell hHa.out.1 (i := 1) rfl
          have b1 : wa.cell? ⟨S + 1, 1, none⟩ = some (.int .i64 (y1 : Int)) := World.objAt.cell hHa.out.2.1 (i := 1) rfl
          have d2 : wa.cell? ⟨S, 2, none⟩ = some (.int .i64 (x2 : Int)) := World.objAt.cell hHa.out.1 (i := 2) rfl
          have b2 : wa.cell? ⟨S + 1, 2, none⟩ = some (.int .i64 (y2 : Int)) := World.objAt.cell hHa.out.2.1 (i := 2) rfl
          go_wp2
          go_quiet (fail)
          obtain ⟨wb, hwb⟩ : ∃ wb, wa.drewN nq = wb := ⟨_, rfl⟩
          have hHb := Lib.hid (show LessAt w wb S x0 x1 x2 y0 y1 y2 by rw [← hwb]; exact hHa.out.drew nq)
          rw [hwb]
          clear hwb d0 d1 d2 b0 b1 b2 nq
          have d0 : wb.cell? ⟨S, 0, none⟩ = some (.int .i64 (x0 : Int)) := World.objAt.cell hHb.out.1 (i := 0) rfl
          have b0 : wb.cell? ⟨S + 1, 0, none⟩ = some (.int .i64 (y0 : Int)) := World.objAt.cell hHb.out.2.1 (i := 0) rfl
          have d1 : wb.cell? ⟨S, 1, none⟩ = some (.int .i64 (x1 : Int)) := World.objAt.cell hHb.out.1 (i := 1) rfl
          have b1 : wb.cell? ⟨S + 1, 1, none⟩ = some (.int .i64 (y1 : Int)) := World.objAt.cell hHb.out.2.1 (i := 1) rfl
          have d2 : wb.cell? ⟨S, 2, none⟩ = some (.int .i64 (x2 : Int)) := World.objAt.cell hHb.out.1 (i := 2) rfl
          have b2 : wb.cell? ⟨S + 1, 2, none⟩ = some (.int .i64 (y2 : Int)) := World.objAt.cell hHb.out.2.1 (i := 2) rfl
          go_wp2
          go_roundw
          case rel => exact ⟨hHb, .inr (.inr (.inl ⟨by go_num, e0, hE⟩))⟩
          case measure => simp [intOf]
    · have d0 : wr.cell? ⟨S, 0, none⟩ = some (.int .i64 (x0 : Int)) := World.objAt.cell hH.out.1 (i := 0) rfl
      have b0 : wr.cell? ⟨S + 1, 0, none⟩ = some (.int .i64 (y0 : Int)) := World.objAt.cell hH.out.2.1 (i := 0) rfl
      have d1 : wr.cell? ⟨S, 1, none⟩ = some (.int .i64 (x1 : Int)) := World.objAt.cell hH.out.1 (i := 1) rfl
      have b1 : wr.cell? ⟨S + 1, 1, none⟩ = some (.int .i64 (y1 : Int)) := World.objAt.cell hH.out.2.1 (i := 1) rfl
      have d2 : wr.cell? ⟨S, 2, none⟩ = some (.int .i64 (x2 : Int)) := World.objAt.cell hH.out.1 (i := 2) rfl
      have b2 : wr.cell? ⟨S + 1, 2, none⟩ = some (.int .i64 (y2 : Int)) := World.objAt.cell hH.out.2.1 (i := 2) rfl
      by_cases hL : x2 < y2
      · have c1 : decide ((x2 : Int) < (y2 : Int)) = true := by simp; omega
        go_wp2
        go_quiet (fail)
        obtain ⟨wa, hwa⟩ : ∃ wa, wr.drewN nq = wa := ⟨_, rfl⟩
        have hHa := Lib.hid (show LessAt w wa S x0 x1 x2 y0 y1 y2 by rw [← hwa]; exact hH.out.drew nq)
        rw [hwa]
        clear hwa d0 d1 d2 b0 b1 b2 nq
        have d0 : wa.cell? ⟨S, 0, none⟩ = some (.int .i64 (x0 : Int)) := World.objAt.cell hHa.out.1 (i := 0) rfl
        have b0 : wa.cell? ⟨S + 1, 0, none⟩ = some (.int .i64 (y0 : Int)) := World.objAt.cell hHa.out.2.1 (i := 0) rfl
        have d1 : wa.cell? ⟨S, 1, none⟩ = some (.int .i64 (x1 : Int)) := World.objAt.cell hHa.out.1 (i := 1) rfl
        have b1 : wa.cell? ⟨S + 1, 1, none⟩ = some (.int .i64 (y1 : Int)) := World.objAt.cell hHa.out.2.1 (i := 1) rfl
        have d2 : wa.cell? ⟨S, 2, none⟩ = some (.int .i64 (x2 : Int)) := World.objAt.cell hHa.out.1 (i := 2) rfl
        have b2 : wa.cell? ⟨S + 1, 2, none⟩ = some (.int .i64 (y2 : Int)) := World.objAt.cell hHa.out.2.1 (i := 2) rfl
        go_wp2
        refine bodyPost_ret (results_tmp rfl _ _ _) rfl ?_
        refine ⟨?_, Lib.hid hHa.out.2.2⟩
        have : triLess (x0, x1, x2) (y0, y1, y2) = true := by unfold triLess; dsimp only; split <;> (try split) <;> first | (simp; omega) | (exfalso; omega)
        rw [this]; rfl
      · have c1 : decide ((x2 : Int) < (y2 : Int)) = false := by simp; omega
        by_cases hG : y2 < x2
        · have c2 : decide ((y2 : Int) < (x2 : Int)) = true := by simp; omega
          go_wp2
          go_quiet (fail)
          obtain ⟨wa, hwa⟩ : ∃ wa, wr.drewN nq = wa := ⟨_, rfl⟩
          have hHa := Lib.hid (show LessAt w wa S x0 x1 x2 y0 y1 y2 by rw [← hwa]; exact hH.out.drew nq)
          rw [hwa]
          clear hwa d0 d1 d2 b0 b1 b2 nq
          have d0 : wa.cell? ⟨S, 0, none⟩ = some (.int .i64 (x0 : Int)) := World.objAt.cell hHa.out.1 (i := 0) rfl
          have b0 : wa.cell? ⟨S + 1, 0, none⟩ = some (.int .i64 (y0 : Int)) := World.objAt.cell hHa.out.2.1 (i := 0) rfl
          have d1 : wa.cell? ⟨S, 1, none⟩ = some (.int .i64 (x1 : Int)) := World.objAt.cell hHa.out.1 (i := 1) rfl
          have b1 : wa.cell? ⟨S + 1, 1, none⟩ = some (.int .i64 (y1 : Int)) := World.objAt.cell hHa.out.2.1 (i := 1) rfl
          have d2 : wa.cell? ⟨S, 2, none⟩ = some (.int .i64 (x2 : Int)) := World.objAt.cell hHa.out.1 (i := 2) rfl
          have b2 : wa.cell? ⟨S + 1, 2, none⟩ = some (.int .i64 (y2 : Int)) := World.objAt.cell hHa.out.2.1 (i := 2) rfl
          go_wp2
          go_quiet (fail)
          obtain ⟨wb, hwb⟩ : ∃ wb, wa.drewN nq = wb := ⟨_, rfl⟩
          have hHb := Lib.hid (show LessAt w wb S x0 x1 x2 y0 y1 y2 by rw [← hwb]; exact hHa.out.drew nq)
          rw [hwb]
          clear hwb d0 d1 d2 b0 b1 b2 nq
          have d0 : wb.cell? ⟨S, 0, none⟩ = some (.int .i64 (x0 : Int)) := World.objAt.cell hHb.out.1 (i := 0) rfl
          have b0 : wb.cell? ⟨S + 1, 0, none⟩ = some (.int .i64 (y0 : Int)) := World.objAt.cell hHb.out.2.1 (i := 0) rfl
          have d1 : wb.cell? ⟨S, 1, none⟩ = some (.int .i64 (x1 : Int)) := World.objAt.cell hHb.out.1 (i := 1) rfl
          have b1 : wb.cell? ⟨S + 1, 1, none⟩ = some (.int .i64 (y1 : Int)) := World.objAt.cell hHb.out.2.1 (i := 1) rfl
          have d2 : wb.cell? ⟨S, 2, none⟩ = some (.int .i64 (x2 : Int)) := World.objAt.cell hHb.out.1 (i := 2) rfl
          have b2 : wb.cell? ⟨S + 1, 2, none⟩ = some (.int .i64 (y2 : Int)) := World.objAt.cell hHb.out.2.1 (i := 2) rfl
          go_wp2
          refine bodyPost_ret (results_tmp rfl _ _ _) rfl ?_
          refine ⟨?_, Lib.hid hHb.out.2.2⟩
          have : triLess (x0, x1, x2) (y0, y1, y2) = false := by unfold triLess; dsimp only; split <;> (try split) <;> first | (simp; omega) | (exfalso; omega)
          rw [this]; rfl
        · have c2 : decide ((y2 : Int) < (x2 : Int)) = false := by simp; omega
          have hE : x2 = y2 := by omega
          go_wp2
          go_quiet (fail)
          obtain ⟨wa, hwa⟩ : ∃ wa, wr.drewN nq = wa := ⟨_, rfl⟩
          have hHa := Lib.hid (show LessAt w wa S x0 x1 x2 y0 y1 y2 by rw [← hwa]; exact hH.out.drew nq)
          rw [hwa]
          clear hwa d0 d1 d2 b0 b1 b2 nq
          have d0 : wa.cell? ⟨S, 0, none⟩ = some (.int .i64 (x0 : Int)) := World.objAt.cell hHa.out.1 (i := 0) rfl
          have b0 : wa.cell? ⟨S + 1, 0, none⟩ = some (.int .i64 (y0 : Int)) := World.objAt.cell hHa.out.2.1 (i := 0) rfl
          have d1 : wa.cell? ⟨S, 1, none⟩ = some (.int .i64 (x1 : Int)) := World.objAt.cell hHa.out.1 (i := 1) rfl
          have b1 : wa.cell? ⟨S + 1, 1, none⟩ = some (.int .i64 (y1 : Int)) := World.objAt.cell hHa.out.2.1 (i := 1) rfl
          have d2 : wa.cell? ⟨S, 2, none⟩ = some (.int .i64 (x2 : Int)) := World.objAt.cell hHa.out.1 (i := 2) rfl
          have b2 : wa.cell? ⟨S + 1, 2, none⟩ = some (.int .i64 (y2 : Int)) := World.objAt.cell hHa.out.2.1 (i := 2) rfl
          go_wp2
          go_quiet (fail)
          obtain ⟨wb, hwb⟩ : ∃ wb, wa.drewN nq = wb := ⟨_, rfl⟩
          have hHb := Lib.hid (show LessAt w wb S x0 x1 x2 y0 y1 y2 by rw [← hwb]; exact hHa.out.drew nq)
          rw [hwb]
          clear hwb d0 d1 d2 b0 b1 b2 nq
          have d0 : wb.cell? ⟨S, 0, none⟩ = some (.int .i64 (x0 : Int)) := World.objAt.cell hHb.out.1 (i := 0) rfl
          have b0 : wb.cell? ⟨S + 1, 0, none⟩ = some (.int .i64 (y0 : Int)) := World.objAt.cell hHb.out.2.1 (i := 0) rfl
          have d1 : wb.cell? ⟨S, 1, none⟩ = some (.int .i64 (x1 : Int)) := World.objAt.cell hHb.out.1 (i := 1) rfl
          have b1 : wb.cell? ⟨S + 1, 1, none⟩ = some (.int .i64 (y1 : Int)) := World.objAt.cell hHb.out.2.1 (i := 1) rfl
          have d2 : wb.cell? ⟨S, 2, none⟩ = some (.int .i64 (x2 : Int)) := World.objAt.cell hHb.out.1 (i := 2) rfl
          have b2 : wb.cell? ⟨S + 1, 2, none⟩ = some (.int .i64 (y2 : Int)) := World.objAt.cell hHb.out.2.1 (i := 2) rfl
          go_wp2
          go_roundw
          case rel => exact ⟨hHb, .inr (.inr (.inr ⟨by go_num, e0, e1, hE⟩))⟩
          case measure => simp [intOf]
    · go_wp2
      refine bodyPost_ret (results_tmp rfl _ _ _) rfl ?_
      refine ⟨?_, Lib.hid hH.out.2.2⟩
      have : triLess (x0, x1, x2) (y0, y1, y2) = false := by unfold triLess; dsimp only; split <;> (try split) <;> first | (simp; omega) | (exfalso; omega)
      rw [this]; rfl
theorem selTag (z : ByteArray) (w : World) : SelSem w (fun _ => False) (.iface 73 (.agg #[.string z])) (0, 0, 1) :=
  ⟨fun _ h => h.elim, 73, _, 130, .agg #[.string z], rfl, fun _ => by kernel_rfl, fun _ => by kernel_rfl, fun w' _ => tagSpec z w'⟩
theorem selId (z : ByteArray) (w : World) : SelSem w (fun _ => False) (.iface 77 (.agg #[.string z])) (1, 0, 0) :=
  ⟨fun _ h => h.elim, 77, _, 134, .agg #[.string z], rfl, fun _ => by kernel_rfl, fun _ => by kernel_rfl, fun w' _ => idSpec z w'⟩
theorem selClass (z : ByteArray) (w : World) : SelSem w (fun _ => False) (.iface 81 (.agg #[.string z])) (0, 1, 0) :=
  ⟨fun _ h => h.elim, 81, _, 138, .agg #[.string z], rfl, fun _ => by kernel_rfl, fun _ => by kernel_rfl, fun w' _ => classSpec z w'⟩
theorem selAttr (x : Array Value) (w : World) : SelSem w (fun _ => False) (.iface 85 (.agg x)) (0, 1, 0) :=
  ⟨fun _ h => h.elim, 85, _, 142, .agg x, rfl, fun _ => by kernel_rfl, fun _ => by kernel_rfl, fun w' _ => attrSpec x w'⟩
theorem selPlain {T : TypeId} {v : Value} (h : PlainPs T v) (w : World) : SelSem w (fun _ => False) (.iface T v) (0, 1, 0) := by
  unfold PlainPs at h
  rcases h with ⟨rfl, b, rfl⟩ | ⟨rfl, rfl⟩ | ⟨rfl, rfl⟩ | ⟨rfl, rfl⟩ | ⟨rfl, rfl⟩ | ⟨rfl, rfl⟩ | ⟨rfl, rfl⟩ | ⟨rfl, rfl⟩ | ⟨rfl, z, rfl⟩ | ⟨rfl, z, b, rfl⟩ | ⟨rfl, a, b, p, q, rfl⟩
  all_goals exact ⟨fun _ h => h.elim, _, _, 155, .agg #[], rfl, fun _ => by kernel_rfl, fun _ => by kernel_rfl, fun w' _ => abstractSpec w'⟩
theorem selComb {w : World} {F1 F2 : Nat → Prop} {v1 v2 : Value} (c : Int) {t1 t2 : Tri} (h1 : SelSem w F1 v1 t1) (h2 : SelSem w F2 v2 t2)
    (b1 : t1.1 ≤ 1000000000 ∧ t1.2.1 ≤ 1000000000 ∧ t1.2.2 ≤ 1000000000) (b2 : t2.1 ≤ 1000000000 ∧ t2.2.1 ≤ 1000000000 ∧ t2.2.2 ≤ 1000000000) :
    SelSem w (fun b => F1 b ∨ F2 b) (.iface 60 (.agg #[v1, .int .u8 c, v2])) (triAdd t1 t2) :=
  ⟨fun b h => h.elim (h1.1 b) (h2.1 b), _, _, 124, .agg #[v1, .int .u8 c, v2], rfl, fun _ => by kernel_rfl, fun _ => by kernel_rfl,
    fun w' ha => combSpec w' F1 F2 v1 v2 c t1 t2 (h1.keep fun b hb => ha b (.inl hb)) (h2.keep fun b hb => ha b (.inr hb)) b1 b2⟩
def psum (f : Nat → Tri) : Nat → Tri
  | 0 => (0, 0, 0)
  | k + 1 => triAdd (psum f k) (f k)
def Tri9 (t : Tri) : Prop := t.1 ≤ 1000000000 ∧ t.2.1 ≤ 1000000000 ∧ t.2.2 ≤ 1000000000
/-- The cells of the call: its argument, its result, its sum. -/
def CompAt (w wr : World) (S A n c : Nat) (t : Tri) : Prop :=
  World.objAt wr S #[.slice (some ⟨A, 0, none⟩) n c, .string ⟨#[]⟩] 91 ∧ World.objAt wr (S + 1) #[.int .i64 0, .int .i64 0, .int .i64 0] 41 ∧ World.objAt wr (S + 1 + 1) #[.int .i64 (t.1 : Int), .int .i64 (t.2.1 : Int), .int .i64 (t.2.2 : Int)] 41 ∧ Below w.heap.size w wr ∧ w.heap.size = S
set_option maxRecDepth 100000 in
set_option maxHeartbeats 8000000 in
theorem compoundSpec (w : World) (A n c : Nat) (hn : n ≤ 10000) (hA : A < w.heap.size) (v : Nat → Value) (f : Nat → Tri) (hcell : ∀ j, j < n → w.cell? ⟨A, j, none⟩ = some (v j))
    (hsem : ∀ j, j < n → ∃ G, SelSem w G (v j) (f j)) (hf : ∀ j, j < n → Tri9 (f j)) (hp : ∀ j, j ≤ n → Tri9 (psum f j)) :
    Calls Tryz.prog 146 #[.agg #[.slice (some ⟨A, 0, none⟩) n c, .string ⟨#[]⟩]] w (SpecPost (psum f n) w) := by
  go_enter Tryz.func146, Tryz.ntmps146
  go_wp2
  obtain ⟨S, hS⟩ : ∃ S, w.heap.size = S := ⟨_, rfl⟩
  obtain ⟨w1, hw1⟩ : ∃ w1, (((w.alloc (.cells #[.slice (some ⟨A, 0, none⟩) n c, .string ⟨#[]⟩] 91)).alloc (.cells #[.int .i64 0, .int .i64 0, .int .i64 0] 41)).alloc (.cells #[.int .i64 0, .int .i64 0, .int .i64 0] 41)) = w1 := ⟨_, rfl⟩
  have h1 : CompAt w w1 S A n c (psum f 0) := by
    rw [← hw1, ← hS]
    refine ⟨World.objAt.below (World.objAt.below (objAt_alloc_new w _ _) ((Below.refl (w.heap.size + 1) _).alloc (by simp) _) (by omega)) ((Below.refl (w.heap.size + 1) _).alloc (by simp) _) (by omega), ?_, ?_, (((Below.refl w.heap.size w).alloc (Nat.le_refl _) _).alloc (by simp) _).alloc (by simp; omega) _, rfl⟩
    · have h2 := objAt_alloc_new (w.alloc (.cells #[.slice (some ⟨A, 0, none⟩) n c, .string ⟨#[]⟩] 91)) #[.int .i64 0, .int .i64 0, .int .i64 0] 41
      have h3 : World.objAt ((w.alloc (.cells #[.slice (some ⟨A, 0, none⟩) n c, .string ⟨#[]⟩] 91)).alloc (.cells #[.int .i64 0, .int .i64 0, .int .i64 0] 41)) (w.heap.size + 1) #[.int .i64 0, .int .i64 0, .int .i64 0] 41 := by simpa using h2
      exact World.objAt.below h3 ((Below.refl (w.heap.size + 1 + 1) _).alloc (by simp) _) (by omega)
    · have h2 := objAt_alloc_new ((w.alloc (.cells #[.slice (some ⟨A, 0, none⟩) n c, .string ⟨#[]⟩] 91)).alloc (.cells #[.int .i64 0, .int .i64 0, .int .i64 0] 41)) #[.int .i64 0, .int .i64 0, .int .i64 0] 41
      simpa [psum] using h2
  rw [hw1]
  try rw [hS]
  have H1 := Lib.hid h1
  have HC := Lib.hid hcell
  have HS := Lib.hid hsem
  have HF := Lib.hid (And.intro hf hp)
  clear h1 hcell hsem hf hp hw1
  go_loopw [9] (fun i wr => ∃ k : Nat, k ≤ n ∧ i = .int .i64 (k : Int) ∧ Hid (CompAt w wr S A n c (psum f k))) (fun i _ => n - (intOf i).toNat)
  case atStart => exact ⟨0, by omega, by go_num, H1⟩
  case round =>
    obtain ⟨k, hk, rfl, hH⟩ := hrel
    by_cases hlt : k < n
    · obtain ⟨G, hG, Tk, xk, Kk, yk, hv, hm, hne, hc⟩ := HS.out k hlt
      have ck : wr.cell? ⟨A, k, none⟩ = some (.iface Tk xk) := (hH.out.2.2.2.1.cell (p := ⟨A, k, none⟩) hA).trans ((HC.out k hlt).trans (by rw [hv]))
      have HCk := Lib.hid hc
      have HGk := Lib.hid hG
      have q0 : wr.cell? ⟨S + 1 + 1, 0, none⟩ = some (.int .i64 ((psum f k).1 : Int)) := World.objAt.cell hH.out.2.2.1 (i := 0) rfl
      have q1 : wr.cell? ⟨S + 1 + 1, 1, none⟩ = some (.int .i64 ((psum f k).2.1 : Int)) := World.objAt.cell hH.out.2.2.1 (i := 1) rfl
      have q2 : wr.cell? ⟨S + 1 + 1, 2, none⟩ = some (.int .i64 ((psum f k).2.2 : Int)) := World.objAt.cell hH.out.2.2.1 (i := 2) rfl
      clear hc hG hv
      have HAdd := Lib.hid (fun w' => specAdd (psum f k) (f k) w' (HF.out.2 k hk) (HF.out.1 k hlt))
      go_wp2
      go_region_with (first
        | (go_at_call 126
           refine (HAdd.out _).mono ?_
           rintro e w5 ⟨rfl, hb5⟩
           unfold triV
           have hT5 := World.objAt.below H4.out.1 hb5.out (World.objAt.lt H4.out.1)
           have hR5 := World.objAt.below H4.out.2.1 hb5.out (World.objAt.lt H4.out.2.1)
           have hS5 := World.objAt.below H4.out.2.2.1 hb5.out (World.objAt.lt H4.out.2.2.1)
           have hB5 : Below w.heap.size w w5 := H4.out.2.2.2.trans (hb5.out.mono H4.out.2.2.2.size)
           have n0 : w5.frozen? ⟨S + 1 + 1, 0, none⟩ = false := World.objAt.free hT5 0
           have n1 : w5.frozen? ⟨S + 1 + 1, 1, none⟩ = false := World.objAt.free hT5 1
           have n2 : w5.frozen? ⟨S + 1 + 1, 2, none⟩ = false := World.objAt.free hT5 2
           have q0 : w5.cell? ⟨S + 1 + 1, 0, none⟩ = some (.int .i64 ((psum f k).1 : Int)) := World.objAt.cell hT5 (i := 0) rfl
           have q1 : w5.cell? ⟨S + 1 + 1, 1, none⟩ = some (.int .i64 ((psum f k).2.1 : Int)) := World.objAt.cell hT5 (i := 1) rfl
           have q2 : w5.cell? ⟨S + 1 + 1, 2, none⟩ = some (.int .i64 ((psum f k).2.2 : Int)) := World.objAt.cell hT5 (i := 2) rfl
           have H5 := Lib.hid (And.intro hT5 (And.intro hR5 (And.intro hS5 hB5)))
           clear hT5 hR5 hS5 hB5 hb5)
        | (refine (HCk.out (World.drew wr) (fun b hb => hH.out.2.2.2.1.block b (HGk.out b hb))).mono ?_
           rintro e w4 ⟨rfl, hb4⟩
           unfold triV
           have hT4 := World.objAt.below (show World.objAt (World.drew wr) (S + 1 + 1) _ _ from hH.out.2.2.1) hb4.out (World.objAt.lt hH.out.2.2.1)
           have hR4 := World.objAt.below (show World.objAt (World.drew wr) (S + 1) _ _ from hH.out.2.1) hb4.out (World.objAt.lt hH.out.2.1)
           have hS4 := World.objAt.below (show World.objAt (World.drew wr) S _ _ from hH.out.1) hb4.out (World.objAt.lt hH.out.1)
           have hB4 : Below w.heap.size w w4 := (hH.out.2.2.2.1.drew).trans (hb4.out.mono (by have := hH.out.2.2.2.1.size; show _ ≤ wr.heap.size; omega))
           have q0 : w4.cell? ⟨S + 1 + 1, 0, none⟩ = some (.int .i64 ((psum f k).1 : Int)) := World.objAt.cell hT4 (i := 0) rfl
           have q1 : w4.cell? ⟨S + 1 + 1, 1, none⟩ = some (.int .i64 ((psum f k).2.1 : Int)) := World.objAt.cell hT4 (i := 1) rfl
           have q2 : w4.cell? ⟨S + 1 + 1, 2, none⟩ = some (.int .i64 ((psum f k).2.2 : Int)) := World.objAt.cell hT4 (i := 2) rfl
           have H4 := Lib.hid (And.intro hT4 (And.intro hR4 (And.intro hS4 hB4)))
           clear hT4 hR4 hS4 hB4 hb4))
      all_goals
        go_wp2
        go_roundw
        case rel =>
          refine ⟨k + 1, by omega, by go_num, Lib.hid ⟨?_, ?_, ?_, ?_, hS⟩⟩
          · exact objAt_off (objAt_off (objAt_off H5.out.2.2.1 ⟨S + 1 + 1, 0, none⟩ (by simp; omega) _) ⟨S + 1 + 1, 1, none⟩ (by simp; omega) _) ⟨S + 1 + 1, 2, none⟩ (by simp; omega) _
          · exact objAt_off (objAt_off (objAt_off H5.out.2.1 ⟨S + 1 + 1, 0, none⟩ (by simp) _) ⟨S + 1 + 1, 1, none⟩ (by simp) _) ⟨S + 1 + 1, 2, none⟩ (by simp) _
          · exact World.objAt.set (World.objAt.set (World.objAt.set H5.out.1 0 _) 1 _) 2 _
          · exact ((H5.out.2.2.2.setCell (p := ⟨S + 1 + 1, 0, none⟩) (by show _ ≤ S + 1 + 1; omega) _).setCell (p := ⟨S + 1 + 1, 1, none⟩) (by show _ ≤ S + 1 + 1; omega) _).setCell (p := ⟨S + 1 + 1, 2, none⟩) (by show _ ≤ S + 1 + 1; omega) _
        case measure => simp [intOf]; omega
    · obtain rfl : k = n := by omega
      have p1 : wr.cell? ⟨S, 1, none⟩ = some (.string ⟨#[]⟩) := World.objAt.cell hH.out.1 (i := 1) rfl
      have q0 : wr.cell? ⟨S + 1 + 1, 0, none⟩ = some (.int .i64 ((psum f k).1 : Int)) := World.objAt.cell hH.out.2.2.1 (i := 0) rfl
      have q1 : wr.cell? ⟨S + 1 + 1, 1, none⟩ = some (.int .i64 ((psum f k).2.1 : Int)) := World.objAt.cell hH.out.2.2.1 (i := 1) rfl
      have q2 : wr.cell? ⟨S + 1 + 1, 2, none⟩ = some (.int .i64 ((psum f k).2.2 : Int)) := World.objAt.cell hH.out.2.2.1 (i := 2) rfl
      have r0 : wr.cell? ⟨S + 1, 0, none⟩ = some (.int .i64 0) := World.objAt.cell hH.out.2.1 (i := 0) rfl
      have r1 : wr.cell? ⟨S + 1, 1, none⟩ = some (.int .i64 0) := World.objAt.cell hH.out.2.1 (i := 1) rfl
      have r2 : wr.cell? ⟨S + 1, 2, none⟩ = some (.int .i64 0) := World.objAt.cell hH.out.2.1 (i := 2) rfl
      have m0 : wr.frozen? ⟨S + 1, 0, none⟩ = false := World.objAt.free hH.out.2.1 0
      have m1 : wr.frozen? ⟨S + 1, 1, none⟩ = false := World.objAt.free hH.out.2.1 1
      have m2 : wr.frozen? ⟨S + 1, 2, none⟩ = false := World.objAt.free hH.out.2.1 2
      go_wp2
      refine bodyPost_ret (v := triV (psum f k)) ?_ rfl ?_
      · rw [results_cell1 rfl]
        go_simp
        rfl
      · have hq2 : w.heap.size ≤ S + 1 := by omega
        exact ⟨rfl, Lib.hid (((hH.out.2.2.2.1.setCell (p := ⟨S + 1, 0, none⟩) hq2 _).setCell (p := ⟨S + 1, 1, none⟩) hq2 _).setCell (p := ⟨S + 1, 2, none⟩) hq2 _)⟩
theorem selCompound {w : World} {A n : Nat} (c : Nat) {v : Nat → Value} {f : Nat → Tri} (Fs : Nat → Nat → Prop) (hn : n ≤ 10000) (hA : A < w.heap.size) (hcell : ∀ j, j < n → w.cell? ⟨A, j, none⟩ = some (v j))
    (hsem : ∀ j, j < n → SelSem w (Fs j) (v j) (f j)) (hf : ∀ j, j < n → Tri9 (f j)) (hp : ∀ j, j ≤ n → Tri9 (psum f j)) :
    SelSem w (fun b => b = A ∨ ∃ j, j < n ∧ Fs j b) (.iface 91 (.agg #[.slice (some ⟨A, 0, none⟩) n c, .string ⟨#[]⟩])) (psum f n) := by
  refine ⟨fun b h => ?_, _, _, 146, .agg #[.slice (some ⟨A, 0, none⟩) n c, .string ⟨#[]⟩], rfl, fun _ => by kernel_rfl, fun _ => by kernel_rfl, fun w' ha => ?_⟩
  · rcases h with rfl | ⟨j, hj, hb⟩
    · exact hA
    · exact (hsem j hj).1 b hb
  · have hh := ha A (.inl rfl)
    have hA' : A < w'.heap.size := by
      have h2 := hh
      rw [Array.getElem?_eq_getElem hA] at h2
      exact (Array.getElem?_eq_some_iff.mp h2).1
    exact compoundSpec w' A n c hn hA' v f (fun j hj => (World.cell?_of_block (w := w) (a := ⟨A, j, none⟩) hh).trans (hcell j hj)) (fun j hj => ⟨Fs j, (hsem j hj).keep fun b hb => ha b (.inr ⟨j, hj, hb⟩)⟩) hf hp
def pmax (f : Nat → Tri) : Nat → Tri
  | 0 => (0, 0, 0)
  | k + 1 => triMax (pmax f k) (f k)
/-- The cells of the call: its argument, its result, its sum. -/
def RelAt (w wr : World) (S A n c : Nat) (z : ByteArray) (t : Tri) : Prop :=
  World.objAt wr S #[.string z, .slice (some ⟨A, 0, none⟩) n c] 100 ∧ World.objAt wr (S + 1) #[.int .i64 0, .int .i64 0, .int .i64 0] 41 ∧ World.objAt wr (S + 1 + 1) #[.int .i64 (t.1 : Int), .int .i64 (t.2.1 : Int), .int .i64 (t.2.2 : Int)] 41 ∧ Below w.heap.size w wr ∧ w.heap.size = S
set_option maxRecDepth 100000 in
set_option maxHeartbeats 8000000 in
theorem relSpec (w : World) (A n c : Nat) (z : ByteArray) (hn : n ≤ 10000) (hA : A < w.heap.size) (v : Nat → Value) (f : Nat → Tri) (hcell : ∀ j, j < n → w.cell? ⟨A, j, none⟩ = some (v j))
    (hsem : ∀ j, j < n → ∃ G, SelSem w G (v j) (f j)) :
    Calls Tryz.prog 152 #[.agg #[.string z, .slice (some ⟨A, 0, none⟩) n c]] w (SpecPost (pmax f n) w) := by
  go_enter Tryz.func152, Tryz.ntmps152
  go_wp2
  obtain ⟨S, hS⟩ : ∃ S, w.heap.size = S := ⟨_, rfl⟩
  obtain ⟨w1, hw1⟩ : ∃ w1, (((w.alloc (.cells #[.string z, .slice (some ⟨A, 0, none⟩) n c] 100)).alloc (.cells #[.int .i64 0, .int .i64 0, .int .i64 0] 41)).alloc (.cells #[.int .i64 0, .int .i64 0, .int .i64 0] 41)) = w1 := ⟨_, rfl⟩
  have h1 : RelAt w w1 S A n c z (pmax f 0) := by
    rw [← hw1, ← hS]
    refine ⟨World.objAt.below (World.objAt.below (objAt_alloc_new w _ _) ((Below.refl (w.heap.size + 1) _).alloc (by simp) _) (by omega)) ((Below.refl (w.heap.size + 1) _).alloc (by simp) _) (by omega), ?_, ?_, (((Below.refl w.heap.size w).alloc (Nat.le_refl _) _).alloc (by simp) _).alloc (by simp; omega) _, rfl⟩
    · have h2 := objAt_alloc_new (w.alloc (.cells #[.string z, .slice (some ⟨A, 0, none⟩) n c] 100)) #[.int .i64 0, .int .i64 0, .int .i64 0] 41
      have h3 : World.objAt ((w.alloc (.cells #[.string z, .slice (some ⟨A, 0, none⟩) n c] 100)).alloc (.cells #[.int .i64 0, .int .i64 0, .int .i64 0] 41)) (w.heap.size + 1) #[.int .i64 0, .int .i64 0, .int .i64 0] 41 := by simpa using h2
      exact World.objAt.below h3 ((Below.refl (w.heap.size + 1 + 1) _).alloc (by simp) _) (by omega)
    · have h2 := objAt_alloc_new ((w.alloc (.cells #[.string z, .slice (some ⟨A, 0, none⟩) n c] 100)).alloc (.cells #[.int .i64 0, .int .i64 0, .int .i64 0] 41)) #[.int .i64 0, .int .i64 0, .int .i64 0] 41
      simpa [pmax] using h2
  rw [hw1]
  try rw [hS]
  have H1 := Lib.hid h1
  have HC := Lib.hid hcell
  have HS := Lib.hid hsem
  clear h1 hcell hsem hw1
  go_loopw [10] (fun i wr => ∃ k : Nat, k ≤ n ∧ i = .int .i64 (k : Int) ∧ Hid (RelAt w wr S A n c z (pmax f k))) (fun i _ => n - (intOf i).toNat)
  case atStart => exact ⟨0, by omega, by go_num, H1⟩
  case round =>
    obtain ⟨k, hk, rfl, hH⟩ := hrel
    by_cases hlt : k < n
    · obtain ⟨G, hG, Tk, xk, Kk, yk, hv, hm, hne, hc⟩ := HS.out k hlt
      have ck : wr.cell? ⟨A, k, none⟩ = some (.iface Tk xk) := (hH.out.2.2.2.1.cell (p := ⟨A, k, none⟩) hA).trans ((HC.out k hlt).trans (by rw [hv]))
      have HCk := Lib.hid hc
      have HGk := Lib.hid hG
      have q0 : wr.cell? ⟨S + 1 + 1, 0, none⟩ = some (.int .i64 ((pmax f k).1 : Int)) := World.objAt.cell hH.out.2.2.1 (i := 0) rfl
      have q1 : wr.cell? ⟨S + 1 + 1, 1, none⟩ = some (.int .i64 ((pmax f k).2.1 : Int)) := World.objAt.cell hH.out.2.2.1 (i := 1) rfl
      have q2 : wr.cell? ⟨S + 1 + 1, 2, none⟩ = some (.int .i64 ((pmax f k).2.2 : Int)) := World.objAt.cell hH.out.2.2.1 (i := 2) rfl
      clear hc hG hv
      go_wp2_with fail
      refine (HCk.out wr (fun b hb => hH.out.2.2.2.1.block b (HGk.out b hb))).mono ?_
      rintro e w4 ⟨rfl, hb4⟩
      obtain ⟨w5, hw5⟩ : ∃ w5, (w4.alloc (.cells #[.int .i64 ((f k).1 : Int), .int .i64 ((f k).2.1 : Int), .int .i64 ((f k).2.2 : Int)] 41)) = w5 := ⟨_, rfl⟩
      obtain ⟨Q, hQ⟩ : ∃ Q, w4.heap.size = Q := ⟨_, rfl⟩
      have hb5 : Below wr.heap.size wr w5 := by rw [← hw5]; exact hb4.out.alloc hb4.out.size _
      have h5 : RelAt w w5 S A n c z (pmax f k) := ⟨World.objAt.below hH.out.1 hb5 (World.objAt.lt hH.out.1), World.objAt.below hH.out.2.1 hb5 (World.objAt.lt hH.out.2.1), World.objAt.below hH.out.2.2.1 hb5 (World.objAt.lt hH.out.2.2.1), hH.out.2.2.2.1.trans (hb5.mono hH.out.2.2.2.1.size), hS⟩
      have hT : World.objAt w5 Q #[.int .i64 ((f k).1 : Int), .int .i64 ((f k).2.1 : Int), .int .i64 ((f k).2.2 : Int)] 41 := by rw [← hw5, ← hQ]; exact objAt_alloc_new w4 _ _
      have hSQ : S + 1 + 1 < Q := by have h1 := World.objAt.lt hH.out.2.2.1; have h2 := hb4.out.size; omega
      have q0 : w5.cell? ⟨S + 1 + 1, 0, none⟩ = some (.int .i64 ((pmax f k).1 : Int)) := World.objAt.cell h5.2.2.1 (i := 0) rfl
      have q1 : w5.cell? ⟨S + 1 + 1, 1, none⟩ = some (.int .i64 ((pmax f k).2.1 : Int)) := World.objAt.cell h5.2.2.1 (i := 1) rfl
      have q2 : w5.cell? ⟨S + 1 + 1, 2, none⟩ = some (.int .i64 ((pmax f k).2.2 : Int)) := World.objAt.cell h5.2.2.1 (i := 2) rfl
      rw [← hw5] at q0 q1 q2
      have H5 := Lib.hid (And.intro h5 (And.intro hT (And.intro hSQ (And.intro hw5 hQ))))
      clear hb5 h5 hT hSQ hw5 hQ hb4
      unfold triV
      go_wp2_with fail
      rw [H5.out.2.2.2.1, H5.out.2.2.2.2]
      refine (specLess (pmax f k) (f k) w5).mono ?_
      rintro e w6 ⟨rfl, hb6⟩
      have h6 : RelAt w w6 S A n c z (pmax f k) := ⟨World.objAt.below H5.out.1.1 hb6.out (World.objAt.lt H5.out.1.1), World.objAt.below H5.out.1.2.1 hb6.out (World.objAt.lt H5.out.1.2.1), World.objAt.below H5.out.1.2.2.1 hb6.out (World.objAt.lt H5.out.1.2.2.1), H5.out.1.2.2.2.1.trans (hb6.out.mono H5.out.1.2.2.2.1.size), hS⟩
      have hT6 := World.objAt.below H5.out.2.1 hb6.out (World.objAt.lt H5.out.2.1)
      have hSQ := H5.out.2.2.1
      have H6 := Lib.hid h6
      clear H5 q0 q1 q2 hb6 h6
      have q0 : w6.cell? ⟨S + 1 + 1, 0, none⟩ = some (.int .i64 ((pmax f k).1 : Int)) := World.objAt.cell H6.out.2.2.1 (i := 0) rfl
      have q1 : w6.cell? ⟨S + 1 + 1, 1, none⟩ = some (.int .i64 ((pmax f k).2.1 : Int)) := World.objAt.cell H6.out.2.2.1 (i := 1) rfl
      have q2 : w6.cell? ⟨S + 1 + 1, 2, none⟩ = some (.int .i64 ((pmax f k).2.2 : Int)) := World.objAt.cell H6.out.2.2.1 (i := 2) rfl
      have t0 : w6.cell? ⟨Q, 0, none⟩ = some (.int .i64 ((f k).1 : Int)) := World.objAt.cell hT6 (i := 0) rfl
      have t1 : w6.cell? ⟨Q, 1, none⟩ = some (.int .i64 ((f k).2.1 : Int)) := World.objAt.cell hT6 (i := 1) rfl
      have t2 : w6.cell? ⟨Q, 2, none⟩ = some (.int .i64 ((f k).2.2 : Int)) := World.objAt.cell hT6 (i := 2) rfl
      have n0 : w6.frozen? ⟨S + 1 + 1, 0, none⟩ = false := World.objAt.free H6.out.2.2.1 0
      have n1 : w6.frozen? ⟨S + 1 + 1, 1, none⟩ = false := World.objAt.free H6.out.2.2.1 1
      have n2 : w6.frozen? ⟨S + 1 + 1, 2, none⟩ = false := World.objAt.free H6.out.2.2.1 2
      clear hT6
      cases hl : triLess (pmax f k) (f k)
      · go_wp2
        go_roundw
        case rel => exact ⟨k + 1, by omega, by go_num, Lib.hid (by unfold pmax triMax; rw [hl]; exact H6.out)⟩
        case measure => simp [intOf]; omega
      · go_wp2
        go_roundw
        case rel =>
          refine ⟨k + 1, by omega, by go_num, Lib.hid ?_⟩
          unfold pmax triMax
          rw [hl]
          refine ⟨?_, ?_, ?_, ?_, hS⟩
          · exact objAt_off (objAt_off (objAt_off H6.out.1 ⟨S + 1 + 1, 0, none⟩ (by simp; omega) _) ⟨S + 1 + 1, 1, none⟩ (by simp; omega) _) ⟨S + 1 + 1, 2, none⟩ (by simp; omega) _
          · exact objAt_off (objAt_off (objAt_off H6.out.2.1 ⟨S + 1 + 1, 0, none⟩ (by simp) _) ⟨S + 1 + 1, 1, none⟩ (by simp) _) ⟨S + 1 + 1, 2, none⟩ (by simp) _
          · exact World.objAt.set (World.objAt.set (World.objAt.set H6.out.2.2.1 0 _) 1 _) 2 _
          · exact ((H6.out.2.2.2.1.setCell (p := ⟨S + 1 + 1, 0, none⟩) (by show _ ≤ S + 1 + 1; omega) _).setCell (p := ⟨S + 1 + 1, 1, none⟩) (by show _ ≤ S + 1 + 1; omega) _).setCell (p := ⟨S + 1 + 1, 2, none⟩) (by show _ ≤ S + 1 + 1; omega) _
        case measure => simp [intOf]; omega
    · obtain rfl : k = n := by omega
      have q0 : wr.cell? ⟨S + 1 + 1, 0, none⟩ = some (.int .i64 ((pmax f k).1 : Int)) := World.objAt.cell hH.out.2.2.1 (i := 0) rfl
      have q1 : wr.cell? ⟨S + 1 + 1, 1, none⟩ = some (.int .i64 ((pmax f k).2.1 : Int)) := World.objAt.cell hH.out.2.2.1 (i := 1) rfl
      have q2 : wr.cell? ⟨S + 1 + 1, 2, none⟩ = some (.int .i64 ((pmax f k).2.2 : Int)) := World.objAt.cell hH.out.2.2.1 (i := 2) rfl
      have r0 : wr.cell? ⟨S + 1, 0, none⟩ = some (.int .i64 0) := World.objAt.cell hH.out.2.1 (i := 0) rfl
      have r1 : wr.cell? ⟨S + 1, 1, none⟩ = some (.int .i64 0) := World.objAt.cell hH.out.2.1 (i := 1) rfl
      have r2 : wr.cell? ⟨S + 1, 2, none⟩ = some (.int .i64 0) := World.objAt.cell hH.out.2.1 (i := 2) rfl
      have m0 : wr.frozen? ⟨S + 1, 0, none⟩ = false := World.objAt.free hH.out.2.1 0
      have m1 : wr.frozen? ⟨S + 1, 1, none⟩ = false := World.objAt.free hH.out.2.1 1
      have m2 : wr.frozen? ⟨S + 1, 2, none⟩ = false := World.objAt.free hH.out.2.1 2
      go_wp2
      refine bodyPost_ret (v := triV (pmax f k)) ?_ rfl ?_
      · rw [results_cell1 rfl]
        go_simp
        rfl
      · have hq2 : w.heap.size ≤ S + 1 := by omega
        exact ⟨rfl, Lib.hid (((hH.out.2.2.2.1.setCell (p := ⟨S + 1, 0, none⟩) hq2 _).setCell (p := ⟨S + 1, 1, none⟩) hq2 _).setCell (p := ⟨S + 1, 2, none⟩) hq2 _)⟩
end Go.Proofs.YtoanofdomhnafaaGreatDoor
