/- Parts of a proof: PdNth. -/
import Derived.Test.YtoanofdomhnafaaGreatDoorG21
import Derived.Test.YtoanofdomhnafaaGreatDoorG17
import Derived.Test.YtoanofdomhnafaaGreatDoorG00
set_option linter.unusedVariables false
set_option linter.unusedSimpArgs false
namespace Go.Proofs.YtoanofdomhnafaaGreatDoor
open Go.RowKit
variable {d : Int}
/-- It is read; the numbers are not asked. -/
def NthRead (d : Int) (s : ByteArray) (B j : Nat) (w : World) (e : Ending) (w' : World) : Prop :=
  ∃ a b, e = .returned (.tuple #[.int .i64 a, .int .i64 b, .nilIface]) ∧ Hid (Prs d w' B s j) ∧ Hid (Keep B w w')
set_option maxRecDepth 100000 in
set_option maxHeartbeats 800000000 in
theorem nthPos (s : ByteArray) (B i ka kb : Nat) (w : World) (hs : s.size ≤ 9000) (h : Prs d w B s i)
    (hx : 48 ≤ nx s (i) ∧ nx s (i) ≤ 57) (hi : i < ka) (hka : ka + 2 ≤ kb) (hkb : kb < s.size) (hn : nx s ka = 110) (hsg : nx s (ka + 1) = 43 ∨ nx s (ka + 1) = 45) (hnw : NoWs s (ka + 2))
    (hA : ∀ w', Prs d w' B s (i) → Calls Tryz.prog 66 #[.pointer (some ⟨B, 0, none⟩)] w' (IntRead d s B ka w'))
    (hB : ∀ w', Prs d w' B s (ka + 2) → Calls Tryz.prog 66 #[.pointer (some ⟨B, 0, none⟩)] w' (IntRead d s B kb w')) :
    Calls Tryz.prog 59 #[.pointer (some ⟨B, 0, none⟩)] w (NthRead d s B kb w) := by
  have his : i < s.size := by omega
  have hkas : ka < s.size := by omega
  have hks1 : ka + 1 < s.size := by omega
  have c0 : w.cell? ⟨B, 0, none⟩ = some (.string s) := World.objAt.cell h (i := 0) rfl
  have c1 : w.cell? ⟨B, 1, none⟩ = some (.int .i64 (i : Int)) := World.objAt.cell h (i := 1) rfl
  have f1 : w.frozen? ⟨B, 1, none⟩ = false := World.objAt.free h 1
  have g0' : decide ((s.size : Int) ≤ (i : Int)) = false := by simp; omega
  have g0n : decide (s.size ≤ i) = false := by simp; omega
  have d0' : decide ((s.size : Int) ≤ (i : Int) + 1) = false := by simp; omega
  have d0n : decide (s.size ≤ i + 1) = false := by simp; omega
  have k0' : decide ((s.size : Int) ≤ (ka : Int)) = false := by simp; omega
  have k0n : decide (s.size ≤ ka) = false := by simp; omega
  have j0' : decide ((s.size : Int) ≤ (ka : Int) + 1) = false := by simp; omega
  have j0n : decide (s.size ≤ ka + 1) = false := by simp; omega
  have e110 : (s[ka].toNat : Int) = 110 := by rw [← nx_lt hkas, hn]
  rw [nx_lt hks1] at hsg
  rw [nx_lt his] at hx
  obtain ⟨x, hxx⟩ : ∃ x, (s[i].toNat : Int) = x := ⟨_, rfl⟩
  rw [hxx] at hx
  have HSK1 := Lib.hid (fun w' (h' : Prs d w' B s (ka + 1)) => skipWs_any s B (ka + 1) 0 w' hs h' (by omega) (fun j hj => absurd hj (by omega)) (by unfold NoWs; rw [Nat.add_zero, nx_lt hks1]; omega))
  have HSK2 := Lib.hid (fun w' (h' : Prs d w' B s (ka + 2)) => skipWs_any s B (ka + 2) 0 w' hs h' (by omega) (fun j hj => absurd hj (by omega)) hnw)
  have HW := Lib.hid h
  have HA := Lib.hid hA
  have HB := Lib.hid hB
  have HSG := Lib.hid hsg
  clear h hA hB hn hnw hsg
  have h10 : x = 48 ∨ x = 49 ∨ x = 50 ∨ x = 51 ∨ x = 52 ∨ x = 53 ∨ x = 54 ∨ x = 55 ∨ x = 56 ∨ x = 57 := by omega
  clear hx
  rcases h10 with h | h | h | h | h | h | h | h | h | h
  all_goals
    subst h
    go_enter Tryz.func59, Tryz.ntmps59
    go_wp2
    refine wp_scope_of 5 ?_
    unfold ScW
    go_wp2
    go_quiet (fail)
    go_wp2
    obtain ⟨w1, hw1⟩ : ∃ w1, w.drewN nq = w1 := ⟨_, rfl⟩
    have hp_ := Lib.hid (show Prs d w1 B s (i) by rw [← hw1]; exact HW.out.drew _)
    have HK_ := Lib.hid (show Keep B w w1 by rw [← hw1]; exact keep_drewN (Lib.hid (Keep.refl B w)).out _)
    rw [hw1]
    clear hw1 nq
    try clear c0 c1 f1
    have HP_ := hp_
    clear hp_
    have c0 : w1.cell? ⟨B, 0, none⟩ = some (.string s) := World.objAt.cell HP_.out (i := 0) rfl
    have c1 : w1.cell? ⟨B, 1, none⟩ = some (.int .i64 ((i : Nat) : Int)) := World.objAt.cell HP_.out (i := 1) rfl
    have f1 : w1.frozen? ⟨B, 1, none⟩ = false := World.objAt.free HP_.out 1
    go_quiet (fail)
    go_wp2
    obtain ⟨w2, hw2⟩ : ∃ w2, w1.drewN nq = w2 := ⟨_, rfl⟩
    have hp_ := Lib.hid (show Prs d w2 B s (i) by rw [← hw2]; exact HP_.out.drew _)
    have HK_ := Lib.hid (show Keep B w w2 by rw [← hw2]; exact keep_drewN HK_.out _)
    rw [hw2]
    clear hw2 nq
    try clear c0 c1 f1
    have HP_ := hp_
    clear hp_
    have c0 : w2.cell? ⟨B, 0, none⟩ = some (.string s) := World.objAt.cell HP_.out (i := 0) rfl
    have c1 : w2.cell? ⟨B, 1, none⟩ = some (.int .i64 ((i : Nat) : Int)) := World.objAt.cell HP_.out (i := 1) rfl
    have f1 : w2.frozen? ⟨B, 1, none⟩ = false := World.objAt.free HP_.out 1
    go_step3
    refine ⟨_, rfl, ?_⟩
    unfold ScW
    go_wp2
    go_quiet (fail)
    go_wp2
    obtain ⟨w3, hw3⟩ : ∃ w3, w2.drewN nq = w3 := ⟨_, rfl⟩
    have hp_ := Lib.hid (show Prs d w3 B s (i) by rw [← hw3]; exact HP_.out.drew _)
    have HK_ := Lib.hid (show Keep B w w3 by rw [← hw3]; exact keep_drewN HK_.out _)
    rw [hw3]
    clear hw3 nq
    try clear c0 c1 f1
    have HP_ := hp_
    clear hp_
    have c0 : w3.cell? ⟨B, 0, none⟩ = some (.string s) := World.objAt.cell HP_.out (i := 0) rfl
    have c1 : w3.cell? ⟨B, 1, none⟩ = some (.int .i64 ((i : Nat) : Int)) := World.objAt.cell HP_.out (i := 1) rfl
    have f1 : w3.frozen? ⟨B, 1, none⟩ = false := World.objAt.free HP_.out 1
    go_quiet (fail)
    go_wp2_with fail
    obtain ⟨w4, hw4⟩ : ∃ w4, w3.drewN nq = w4 := ⟨_, rfl⟩
    have hp_ := Lib.hid (show Prs d w4 B s (i) by rw [← hw4]; exact HP_.out.drew _)
    have HK_ := Lib.hid (show Keep B w w4 by rw [← hw4]; exact keep_drewN HK_.out _)
    rw [hw4]
    clear hw4 nq
    try clear c0 c1 f1
    have HP_ := hp_
    clear hp_
    have c0 : w4.cell? ⟨B, 0, none⟩ = some (.string s) := World.objAt.cell HP_.out (i := 0) rfl
    have c1 : w4.cell? ⟨B, 1, none⟩ = some (.int .i64 ((i : Nat) : Int)) := World.objAt.cell HP_.out (i := 1) rfl
    have f1 : w4.frozen? ⟨B, 1, none⟩ = false := World.objAt.free HP_.out 1
    refine (HA.out _ HP_.out).mono ?_
    rintro e w5 ⟨z, rfl, hp5, hk5⟩
    have HK5 := Lib.hid (HK_.out.trans hk5.out)
    clear c0 c1 f1 HP_ HK_ hk5
    have c0 : w5.cell? ⟨B, 0, none⟩ = some (.string s) := World.objAt.cell hp5.out (i := 0) rfl
    have c1 : w5.cell? ⟨B, 1, none⟩ = some (.int .i64 ((ka : Nat) : Int)) := World.objAt.cell hp5.out (i := 1) rfl
    have f1 : w5.frozen? ⟨B, 1, none⟩ = false := World.objAt.free hp5.out 1
    go_wp2
    go_step3
    refine ⟨_, rfl, ?_⟩
    unfold ScW
    go_wp2
    go_quiet (fail)
    go_wp2
    obtain ⟨w6, hw6⟩ : ∃ w6, w5.drewN nq = w6 := ⟨_, rfl⟩
    have hp_ := Lib.hid (show Prs d w6 B s (ka) by rw [← hw6]; exact hp5.out.drew _)
    have HK_ := Lib.hid (show Keep B w w6 by rw [← hw6]; exact keep_drewN HK5.out _)
    rw [hw6]
    clear hw6 nq
    try clear c0 c1 f1
    have HP_ := hp_
    clear hp_
    have c0 : w6.cell? ⟨B, 0, none⟩ = some (.string s) := World.objAt.cell HP_.out (i := 0) rfl
    have c1 : w6.cell? ⟨B, 1, none⟩ = some (.int .i64 ((ka : Nat) : Int)) := World.objAt.cell HP_.out (i := 1) rfl
    have f1 : w6.frozen? ⟨B, 1, none⟩ = false := World.objAt.free HP_.out 1
    clear hp5 HK5
    go_quiet (fail)
    go_wp2
    have hp7 := Lib.hid ((HP_.out.drew nq).at (ka + 1))
    have HK7 := Lib.hid (World.objAt.setKeep (HP_.out.drew nq) 1 (.int .i64 ((ka + 1 : Nat) : Int)) (keep_drewN HK_.out nq) (Nat.le_refl _))
    clear HP_ HK_ c0 c1 f1
    go_step3
    refine ⟨_, rfl, ?_⟩
    unfold ScW
    go_wp2_with fail
    refine (HSK1.out _ hp7.out).mono ?_
    rintro e w8 ⟨rfl, hp8, hk8⟩
    have HK8 := Lib.hid (HK7.out.trans hk8.out)
    clear hp7 HK7 hk8
    have hp8' := Lib.hid (show Prs d w8 B s (ka + 1) from hp8.out)
    clear hp8
    have c0 : w8.cell? ⟨B, 0, none⟩ = some (.string s) := World.objAt.cell hp8'.out (i := 0) rfl
    have c1 : w8.cell? ⟨B, 1, none⟩ = some (.int .i64 ((ka + 1 : Nat) : Int)) := World.objAt.cell hp8'.out (i := 1) rfl
    have f1 : w8.frozen? ⟨B, 1, none⟩ = false := World.objAt.free hp8'.out 1
    go_wp2
    go_quiet (fail)
    go_wp2
    obtain ⟨w9, hw9⟩ : ∃ w9, w8.drewN nq = w9 := ⟨_, rfl⟩
    have hp_ := Lib.hid (show Prs d w9 B s (ka + 1) by rw [← hw9]; exact hp8'.out.drew _)
    have HK_ := Lib.hid (show Keep B w w9 by rw [← hw9]; exact keep_drewN HK8.out _)
    rw [hw9]
    clear hw9 nq
    try clear c0 c1 f1
    have HP_ := hp_
    clear hp_
    have c0 : w9.cell? ⟨B, 0, none⟩ = some (.string s) := World.objAt.cell HP_.out (i := 0) rfl
    have c1 : w9.cell? ⟨B, 1, none⟩ = some (.int .i64 ((ka + 1 : Nat) : Int)) := World.objAt.cell HP_.out (i := 1) rfl
    have f1 : w9.frozen? ⟨B, 1, none⟩ = false := World.objAt.free HP_.out 1
    clear hp8' HK8
    rcases HSG.out with e43 | e43
    · go_quiet (fail)
      go_wp2_with fail
      have hp10 := Lib.hid ((HP_.out.drew nq).at (ka + 2))
      have HK10 := Lib.hid (World.objAt.setKeep (HP_.out.drew nq) 1 (.int .i64 ((ka + 2 : Nat) : Int)) (keep_drewN HK_.out nq) (Nat.le_refl _))
      clear HP_ HK_ c0 c1 f1
      refine (HSK2.out _ hp10.out).mono ?_
      rintro e w11 ⟨rfl, hp11, hk11⟩
      have HK11 := Lib.hid (HK10.out.trans hk11.out)
      clear hp10 HK10 hk11
      go_wp2_with fail
      refine (HB.out _ hp11.out).mono ?_
      rintro e w12 ⟨z2, rfl, hp12, hk12⟩
      have HK12 := Lib.hid (HK11.out.trans hk12.out)
      clear hp11 HK11 hk12
      go_wp2
      simp only [Exit.jumps]
      go_ret3
      exact ⟨_, _, rfl, hp12, HK12⟩
    · go_quiet (fail)
      go_wp2_with fail
      have hp10 := Lib.hid ((HP_.out.drew nq).at (ka + 2))
      have HK10 := Lib.hid (World.objAt.setKeep (HP_.out.drew nq) 1 (.int .i64 ((ka + 2 : Nat) : Int)) (keep_drewN HK_.out nq) (Nat.le_refl _))
      clear HP_ HK_ c0 c1 f1
      refine (HSK2.out _ hp10.out).mono ?_
      rintro e w11 ⟨rfl, hp11, hk11⟩
      have HK11 := Lib.hid (HK10.out.trans hk11.out)
      clear hp10 HK10 hk11
      go_wp2_with fail
      refine (HB.out _ hp11.out).mono ?_
      rintro e w12 ⟨z2, rfl, hp12, hk12⟩
      have HK12 := Lib.hid (HK11.out.trans hk12.out)
      clear hp11 HK11 hk12
      go_wp2
      simp only [Exit.jumps]
      go_ret3
      exact ⟨_, _, rfl, hp12, HK12⟩
end Go.Proofs.YtoanofdomhnafaaGreatDoor
