/- Parts of a proof: PdAttrB0. -/
import Derived.Test.YtoanofdomhnafaaGreatDoorG25
import Derived.Test.YtoanofdomhnafaaGreatDoorG17
set_option linter.unusedVariables false
set_option linter.unusedSimpArgs false
namespace Go.Proofs.YtoanofdomhnafaaGreatDoor
open Go.RowKit
variable {d : Int}
set_option maxRecDepth 100000 in
set_option maxHeartbeats 800000000 in
theorem attrEq (s : ByteArray) (B i j k : Nat) (w : World) (hs : s.size ≤ 9000) (h : Prs d w B s i) (hi : i < s.size) (hx : nx s i = 91) (hnw1 : NoWs s (i + 1)) (hij : i + 1 ≤ j) (hj : j < s.size) (hnw2 : NoWs s j)
    (hN : ∀ w', Prs d w' B s (i + 1) → Calls Tryz.prog 51 #[.pointer (some ⟨B, 0, none⟩)] w' (NmRead d s B j w')) (hcj : nx s j = 61) (hext : s.extract j (j + 2) = ⟨#[61, 34]⟩) (h34 : nx s (j + 1) = 34) (hqr : QRun s (j + 1 + 1) k) (hqk : j + 1 + 1 ≤ k) (hkl : k + 1 < s.size) (h93 : nx s (k + 1) = 93) :
    Calls Tryz.prog 44 #[.pointer (some ⟨B, 0, none⟩)] w (AttrRead d s B (k + 1 + 1) w) := by
  have hks : k + 1 < s.size := by omega
  have hj2 : (j : Int) + 2 ≤ (s.size : Int) := by omega
  have hj2n : j + 2 < s.size := by omega
  have e_j : (s[j].toNat : Int) = 61 := by rw [← nx_lt hj, hcj]
  have hql : j + 1 < s.size := by omega
  have e_q : (s[j + 1].toNat : Int) = 34 := by rw [← nx_lt hql, h34]
  have hpl : k + 1 < s.size := by omega
  have hpel : k + 1 < s.size := by omega
  have e_pe : (s[k + 1].toNat : Int) = 93 := by rw [← nx_lt hpel, h93]
  have HS3 := Lib.hid (fun w' (h' : Prs d w' B s (j + 1)) => skipWs_any s B (j + 1) 0 w' hs h' (by omega) (fun j hj => absurd hj (by omega)) (by unfold NoWs; rw [Nat.add_zero, h34]; decide))
  have HSTR := Lib.hid (fun w' (h' : Prs d w' B s (j + 1)) => parseString_any s B (j + 1) k w' hs h' h34 hqr)
  have HS5 := Lib.hid (fun w' (h' : Prs d w' B s (k + 1)) => skipWs_any s B (k + 1) 0 w' hs h' (by omega) (fun j hj => absurd hj (by omega)) (by unfold NoWs; rw [Nat.add_zero, h93]; decide))
  have fka : decide ((s.size : Int) ≤ ((j + 2 : Nat) : Int)) = false := by simp; omega
  have fkb : decide (s.size ≤ j + 2) = false := by simp; omega
  have fqa : decide ((s.size : Int) ≤ ((j + 1 : Nat) : Int)) = false := by simp; omega
  have fqb : decide (s.size ≤ j + 1) = false := by simp; omega
  have fpa : decide ((s.size : Int) ≤ ((k + 1 : Nat) : Int)) = false := by simp; omega
  have fpb : decide (s.size ≤ k + 1) = false := by simp; omega
  have fea : decide ((s.size : Int) ≤ ((k + 1 : Nat) : Int)) = false := by simp; omega
  have feb : decide (s.size ≤ k + 1) = false := by simp; omega
  clear hcj h34 h93 hqr
  have hr0 := RPair.start h #[.string ⟨#[]⟩, .string ⟨#[]⟩, .string ⟨#[]⟩, .bool false] 85
  obtain ⟨w0, hw0⟩ : ∃ w0, w.alloc (.cells #[.string ⟨#[]⟩, .string ⟨#[]⟩, .string ⟨#[]⟩, .bool false] 85) = w0 := ⟨_, rfl⟩
  obtain ⟨O, hO⟩ : ∃ O, w.heap.size = O := ⟨_, rfl⟩
  rw [hw0] at hr0
  rw [hO] at hr0
  have HR0 := Lib.hid hr0
  have HN := Lib.hid hN
  have e91 : (s[i].toNat : Int) = 91 := by rw [← nx_lt hi, hx]
  have HS1 := Lib.hid (fun w' (h' : Prs d w' B s (i + 1)) => skipWs_any s B (i + 1) 0 w' hs h' (by omega) (fun j hj => absurd hj (by omega)) hnw1)
  have HS2 := Lib.hid (fun w' (h' : Prs d w' B s j) => skipWs_any s B j 0 w' hs h' (by omega) (fun j hj => absurd hj (by omega)) hnw2)
  have fia : decide ((s.size : Int) ≤ ((i : Nat) : Int)) = false := by simp; omega
  have fib : decide (s.size ≤ i) = false := by simp; omega
  have fja : decide ((s.size : Int) ≤ ((j : Nat) : Int)) = false := by simp; omega
  have fjb : decide (s.size ≤ j) = false := by simp; omega
  clear hr0 h hN hx hnw1 hnw2
  try clear c0 c1 f1
  have c0 : w0.cell? ⟨B, 0, none⟩ = some (.string s) := World.objAt.cell HR0.out.prs (i := 0) rfl
  have c1 : w0.cell? ⟨B, 1, none⟩ = some (.int .i64 ((i : Nat) : Int)) := World.objAt.cell HR0.out.prs (i := 1) rfl
  have f1 : w0.frozen? ⟨B, 1, none⟩ = false := World.objAt.free HR0.out.prs 1
  go_enter Tryz.func44, Tryz.ntmps44
  go_wp2
  go_quiet (fail)
  obtain ⟨w1, hw1⟩ : ∃ w1, w0.drewN nq = w1 := ⟨_, rfl⟩
  have HR1 := Lib.hid (show RPair d 85 #[.string ⟨#[]⟩, .string ⟨#[]⟩, .string ⟨#[]⟩, .bool false] w w1 B O s (i) by rw [← hw1]; exact HR0.out.drew nq)
  rw [hw1]
  clear hw1 HR0 nq
  try clear c0 c1 f1
  have c0 : w1.cell? ⟨B, 0, none⟩ = some (.string s) := World.objAt.cell HR1.out.prs (i := 0) rfl
  have c1 : w1.cell? ⟨B, 1, none⟩ = some (.int .i64 ((i : Nat) : Int)) := World.objAt.cell HR1.out.prs (i := 1) rfl
  have f1 : w1.frozen? ⟨B, 1, none⟩ = false := World.objAt.free HR1.out.prs 1
  go_wp2
  try clear hw0
  go_quiet (fail)
  obtain ⟨w2, hw2⟩ : ∃ w2, w1.drewN nq = w2 := ⟨_, rfl⟩
  have HR2 := Lib.hid (show RPair d 85 #[.string ⟨#[]⟩, .string ⟨#[]⟩, .string ⟨#[]⟩, .bool false] w w2 B O s (i) by rw [← hw2]; exact HR1.out.drew nq)
  rw [hw2]
  clear hw2 HR1 nq
  try clear c0 c1 f1
  have c0 : w2.cell? ⟨B, 0, none⟩ = some (.string s) := World.objAt.cell HR2.out.prs (i := 0) rfl
  have c1 : w2.cell? ⟨B, 1, none⟩ = some (.int .i64 ((i : Nat) : Int)) := World.objAt.cell HR2.out.prs (i := 1) rfl
  have f1 : w2.frozen? ⟨B, 1, none⟩ = false := World.objAt.free HR2.out.prs 1
  go_wp2_with fail
  have HR3 := Lib.hid (HR2.out.at (i + 1))
  clear HR2 c0 c1 f1
  refine (HS1.out _ HR3.out.prs).mono ?_
  rintro e w4 ⟨rfl, hp, hk⟩
  have HR4 := Lib.hid (HR3.out.to (show Prs d w4 B s (i + 1) from hp.out) hk.out)
  clear HR3 hp hk
  try clear c0 c1 f1
  have c0 : w4.cell? ⟨B, 0, none⟩ = some (.string s) := World.objAt.cell HR4.out.prs (i := 0) rfl
  have c1 : w4.cell? ⟨B, 1, none⟩ = some (.int .i64 ((i + 1 : Nat) : Int)) := World.objAt.cell HR4.out.prs (i := 1) rfl
  have f1 : w4.frozen? ⟨B, 1, none⟩ = false := World.objAt.free HR4.out.prs 1
  go_wp2_with fail
  refine (HN.out _ HR4.out.prs).mono ?_
  rintro e w5 ⟨z, rfl, hz, hp, hk⟩
  have HR5 := Lib.hid (HR4.out.to (show Prs d w5 B s (j) from hp.out) hk.out)
  clear HR4 hp hk
  go_wp2_with fail
  refine (lowA_any z _ (by omega)).mono ?_
  rintro e w6 ⟨rfl, hb⟩
  have HR6 := Lib.hid (HR5.out.to (World.objAt.below HR5.out.prs hb.out (World.objAt.lt HR5.out.prs)) (Keep.of hb.out (Nat.le_of_lt (World.objAt.lt HR5.out.prs))))
  clear HR5 hb
  obtain ⟨y, hy⟩ : ∃ y, lowS z = y := ⟨_, rfl⟩
  rw [hy]
  clear hy hz
  go_wp2_with fail
  refine (HS2.out _ HR6.out.prs).mono ?_
  rintro e w7 ⟨rfl, hp, hk⟩
  have HR7 := Lib.hid (HR6.out.to (show Prs d w7 B s (j) from hp.out) hk.out)
  clear HR6 hp hk
  try clear c0 c1 f1
  have c0 : w7.cell? ⟨B, 0, none⟩ = some (.string s) := World.objAt.cell HR7.out.prs (i := 0) rfl
  have c1 : w7.cell? ⟨B, 1, none⟩ = some (.int .i64 ((j : Nat) : Int)) := World.objAt.cell HR7.out.prs (i := 1) rfl
  have f1 : w7.frozen? ⟨B, 1, none⟩ = false := World.objAt.free HR7.out.prs 1
  go_wp2
  go_quiet (fail)
  obtain ⟨w8, hw8⟩ : ∃ w8, w7.drewN nq = w8 := ⟨_, rfl⟩
  have HR8 := Lib.hid (show RPair d 85 #[.string ⟨#[]⟩, .string ⟨#[]⟩, .string ⟨#[]⟩, .bool false] w w8 B O s (j) by rw [← hw8]; exact HR7.out.drew nq)
  rw [hw8]
  clear hw8 HR7 nq
  try clear c0 c1 f1
  have c0 : w8.cell? ⟨B, 0, none⟩ = some (.string s) := World.objAt.cell HR8.out.prs (i := 0) rfl
  have c1 : w8.cell? ⟨B, 1, none⟩ = some (.int .i64 ((j : Nat) : Int)) := World.objAt.cell HR8.out.prs (i := 1) rfl
  have f1 : w8.frozen? ⟨B, 1, none⟩ = false := World.objAt.free HR8.out.prs 1
  go_wp2
  go_quiet (fail)
  obtain ⟨w9, hw9⟩ : ∃ w9, w8.drewN nq = w9 := ⟨_, rfl⟩
  have HR9 := Lib.hid (show RPair d 85 #[.string ⟨#[]⟩, .string ⟨#[]⟩, .string ⟨#[]⟩, .bool false] w w9 B O s (j) by rw [← hw9]; exact HR8.out.drew nq)
  rw [hw9]
  clear hw9 HR8 nq
  try clear c0 c1 f1
  have c0 : w9.cell? ⟨B, 0, none⟩ = some (.string s) := World.objAt.cell HR9.out.prs (i := 0) rfl
  have c1 : w9.cell? ⟨B, 1, none⟩ = some (.int .i64 ((j : Nat) : Int)) := World.objAt.cell HR9.out.prs (i := 1) rfl
  have f1 : w9.frozen? ⟨B, 1, none⟩ = false := World.objAt.free HR9.out.prs 1
  go_wp2
  go_quiet (fail)
  obtain ⟨w10, hw10⟩ : ∃ w10, w9.drewN nq = w10 := ⟨_, rfl⟩
  have HR10 := Lib.hid (show RPair d 85 #[.string ⟨#[]⟩, .string ⟨#[]⟩, .string ⟨#[]⟩, .bool false] w w10 B O s (j) by rw [← hw10]; exact HR9.out.drew nq)
  rw [hw10]
  clear hw10 HR9 nq
  try clear c0 c1 f1
  have c0 : w10.cell? ⟨B, 0, none⟩ = some (.string s) := World.objAt.cell HR10.out.prs (i := 0) rfl
  have c1 : w10.cell? ⟨B, 1, none⟩ = some (.int .i64 ((j : Nat) : Int)) := World.objAt.cell HR10.out.prs (i := 1) rfl
  have f1 : w10.frozen? ⟨B, 1, none⟩ = false := World.objAt.free HR10.out.prs 1
  go_wp2
  go_quiet (fail)
  obtain ⟨w11, hw11⟩ : ∃ w11, w10.drewN nq = w11 := ⟨_, rfl⟩
  have HR11 := Lib.hid (show RPair d 85 #[.string ⟨#[]⟩, .string ⟨#[]⟩, .string ⟨#[]⟩, .bool false] w w11 B O s (j) by rw [← hw11]; exact HR10.out.drew nq)
  rw [hw11]
  clear hw11 HR10 nq
  try clear c0 c1 f1
  have c0 : w11.cell? ⟨B, 0, none⟩ = some (.string s) := World.objAt.cell HR11.out.prs (i := 0) rfl
  have c1 : w11.cell? ⟨B, 1, none⟩ = some (.int .i64 ((j : Nat) : Int)) := World.objAt.cell HR11.out.prs (i := 1) rfl
  have f1 : w11.frozen? ⟨B, 1, none⟩ = false := World.objAt.free HR11.out.prs 1
  go_wp2_with fail
  have HR12 := Lib.hid (HR11.out.at (j + 1))
  clear HR11 c0 c1 f1
  refine (HS3.out _ HR12.out.prs).mono ?_
  rintro e w13 ⟨rfl, hp, hk⟩
  have HR13 := Lib.hid (HR12.out.to (show Prs d w13 B s (j + 1) from hp.out) hk.out)
  clear HR12 hp hk
  try clear c0 c1 f1
  have c0 : w13.cell? ⟨B, 0, none⟩ = some (.string s) := World.objAt.cell HR13.out.prs (i := 0) rfl
  have c1 : w13.cell? ⟨B, 1, none⟩ = some (.int .i64 ((j + 1 : Nat) : Int)) := World.objAt.cell HR13.out.prs (i := 1) rfl
  have f1 : w13.frozen? ⟨B, 1, none⟩ = false := World.objAt.free HR13.out.prs 1
  go_wp2
  go_quiet (fail)
  obtain ⟨w14, hw14⟩ : ∃ w14, w13.drewN nq = w14 := ⟨_, rfl⟩
  have HR14 := Lib.hid (show RPair d 85 #[.string ⟨#[]⟩, .string ⟨#[]⟩, .string ⟨#[]⟩, .bool false] w w14 B O s (j + 1) by rw [← hw14]; exact HR13.out.drew nq)
  rw [hw14]
  clear hw14 HR13 nq
  try clear c0 c1 f1
  have c0 : w14.cell? ⟨B, 0, none⟩ = some (.string s) := World.objAt.cell HR14.out.prs (i := 0) rfl
  have c1 : w14.cell? ⟨B, 1, none⟩ = some (.int .i64 ((j + 1 : Nat) : Int)) := World.objAt.cell HR14.out.prs (i := 1) rfl
  have f1 : w14.frozen? ⟨B, 1, none⟩ = false := World.objAt.free HR14.out.prs 1
  go_wp2
  go_quiet (fail)
  obtain ⟨w15, hw15⟩ : ∃ w15, w14.drewN nq = w15 := ⟨_, rfl⟩
  have HR15 := Lib.hid (show RPair d 85 #[.string ⟨#[]⟩, .string ⟨#[]⟩, .string ⟨#[]⟩, .bool false] w w15 B O s (j + 1) by rw [← hw15]; exact HR14.out.drew nq)
  rw [hw15]
  clear hw15 HR14 nq
  try clear c0 c1 f1
  have c0 : w15.cell? ⟨B, 0, none⟩ = some (.string s) := World.objAt.cell HR15.out.prs (i := 0) rfl
  have c1 : w15.cell? ⟨B, 1, none⟩ = some (.int .i64 ((j + 1 : Nat) : Int)) := World.objAt.cell HR15.out.prs (i := 1) rfl
  have f1 : w15.frozen? ⟨B, 1, none⟩ = false := World.objAt.free HR15.out.prs 1
  go_wp2_with fail
  refine (HSTR.out _ HR15.out.prs).mono ?_
  rintro e w16 ⟨z2, rfl, hz2, hp, hk⟩
  have HR16 := Lib.hid (HR15.out.to (show Prs d w16 B s (k + 1) from hp.out) hk.out)
  clear HR15 hp hk
  try clear c0 c1 f1
  have c0 : w16.cell? ⟨B, 0, none⟩ = some (.string s) := World.objAt.cell HR16.out.prs (i := 0) rfl
  have c1 : w16.cell? ⟨B, 1, none⟩ = some (.int .i64 ((k + 1 : Nat) : Int)) := World.objAt.cell HR16.out.prs (i := 1) rfl
  have f1 : w16.frozen? ⟨B, 1, none⟩ = false := World.objAt.free HR16.out.prs 1
  go_wp2_with fail
  refine (HS5.out _ HR16.out.prs).mono ?_
  rintro e w17 ⟨rfl, hp, hk⟩
  have HR17 := Lib.hid (HR16.out.to (show Prs d w17 B s (k + 1) from hp.out) hk.out)
  clear HR16 hp hk
  try clear c0 c1 f1
  have c0 : w17.cell? ⟨B, 0, none⟩ = some (.string s) := World.objAt.cell HR17.out.prs (i := 0) rfl
  have c1 : w17.cell? ⟨B, 1, none⟩ = some (.int .i64 ((k + 1 : Nat) : Int)) := World.objAt.cell HR17.out.prs (i := 1) rfl
  have f1 : w17.frozen? ⟨B, 1, none⟩ = false := World.objAt.free HR17.out.prs 1
  go_wp2
  go_quiet (fail)
  obtain ⟨w18, hw18⟩ : ∃ w18, w17.drewN nq = w18 := ⟨_, rfl⟩
  have HR18 := Lib.hid (show RPair d 85 #[.string ⟨#[]⟩, .string ⟨#[]⟩, .string ⟨#[]⟩, .bool false] w w18 B O s (k + 1) by rw [← hw18]; exact HR17.out.drew nq)
  rw [hw18]
  clear hw18 HR17 nq
  try clear c0 c1 f1
  have c0 : w18.cell? ⟨B, 0, none⟩ = some (.string s) := World.objAt.cell HR18.out.prs (i := 0) rfl
  have c1 : w18.cell? ⟨B, 1, none⟩ = some (.int .i64 ((k + 1 : Nat) : Int)) := World.objAt.cell HR18.out.prs (i := 1) rfl
  have f1 : w18.frozen? ⟨B, 1, none⟩ = false := World.objAt.free HR18.out.prs 1
  go_wp2
  go_quiet (fail)
  obtain ⟨w19, hw19⟩ : ∃ w19, w18.drewN nq = w19 := ⟨_, rfl⟩
  have HR19 := Lib.hid (show RPair d 85 #[.string ⟨#[]⟩, .string ⟨#[]⟩, .string ⟨#[]⟩, .bool false] w w19 B O s (k + 1) by rw [← hw19]; exact HR18.out.drew nq)
  rw [hw19]
  clear hw19 HR18 nq
  try clear c0 c1 f1
  have c0 : w19.cell? ⟨B, 0, none⟩ = some (.string s) := World.objAt.cell HR19.out.prs (i := 0) rfl
  have c1 : w19.cell? ⟨B, 1, none⟩ = some (.int .i64 ((k + 1 : Nat) : Int)) := World.objAt.cell HR19.out.prs (i := 1) rfl
  have f1 : w19.frozen? ⟨B, 1, none⟩ = false := World.objAt.free HR19.out.prs 1
  go_wp2_with fail
  refine (HS5.out _ HR19.out.prs).mono ?_
  rintro e w20 ⟨rfl, hp, hk⟩
  have HR20 := Lib.hid (HR19.out.to (show Prs d w20 B s (k + 1) from hp.out) hk.out)
  clear HR19 hp hk
  try clear c0 c1 f1
  have c0 : w20.cell? ⟨B, 0, none⟩ = some (.string s) := World.objAt.cell HR20.out.prs (i := 0) rfl
  have c1 : w20.cell? ⟨B, 1, none⟩ = some (.int .i64 ((k + 1 : Nat) : Int)) := World.objAt.cell HR20.out.prs (i := 1) rfl
  have f1 : w20.frozen? ⟨B, 1, none⟩ = false := World.objAt.free HR20.out.prs 1
  go_wp2
  go_quiet (fail)
  obtain ⟨w21, hw21⟩ : ∃ w21, w20.drewN nq = w21 := ⟨_, rfl⟩
  have HR21 := Lib.hid (show RPair d 85 #[.string ⟨#[]⟩, .string ⟨#[]⟩, .string ⟨#[]⟩, .bool false] w w21 B O s (k + 1) by rw [← hw21]; exact HR20.out.drew nq)
  rw [hw21]
  clear hw21 HR20 nq
  try clear c0 c1 f1
  have c0 : w21.cell? ⟨B, 0, none⟩ = some (.string s) := World.objAt.cell HR21.out.prs (i := 0) rfl
  have c1 : w21.cell? ⟨B, 1, none⟩ = some (.int .i64 ((k + 1 : Nat) : Int)) := World.objAt.cell HR21.out.prs (i := 1) rfl
  have f1 : w21.frozen? ⟨B, 1, none⟩ = false := World.objAt.free HR21.out.prs 1
  go_wp2
  go_quiet (fail)
  obtain ⟨w22, hw22⟩ : ∃ w22, w21.drewN nq = w22 := ⟨_, rfl⟩
  have HR22 := Lib.hid (show RPair d 85 #[.string ⟨#[]⟩, .string ⟨#[]⟩, .string ⟨#[]⟩, .bool false] w w22 B O s (k + 1) by rw [← hw22]; exact HR21.out.drew nq)
  rw [hw22]
  clear hw22 HR21 nq
  try clear c0 c1 f1
  have c0 : w22.cell? ⟨B, 0, none⟩ = some (.string s) := World.objAt.cell HR22.out.prs (i := 0) rfl
  have c1 : w22.cell? ⟨B, 1, none⟩ = some (.int .i64 ((k + 1 : Nat) : Int)) := World.objAt.cell HR22.out.prs (i := 1) rfl
  have f1 : w22.frozen? ⟨B, 1, none⟩ = false := World.objAt.free HR22.out.prs 1

  have o0 : w22.cell? ⟨O, 0, none⟩ = some (.string ⟨#[]⟩) := World.objAt.cell HR22.out.res (i := 0) rfl
  have of0 : w22.frozen? ⟨O, 0, none⟩ = false := World.objAt.free HR22.out.res 0
  have o1 : w22.cell? ⟨O, 1, none⟩ = some (.string ⟨#[]⟩) := World.objAt.cell HR22.out.res (i := 1) rfl
  have of1 : w22.frozen? ⟨O, 1, none⟩ = false := World.objAt.free HR22.out.res 1
  have o2 : w22.cell? ⟨O, 2, none⟩ = some (.string ⟨#[]⟩) := World.objAt.cell HR22.out.res (i := 2) rfl
  have of2 : w22.frozen? ⟨O, 2, none⟩ = false := World.objAt.free HR22.out.res 2
  have o3 : w22.cell? ⟨O, 3, none⟩ = some (.bool false) := World.objAt.cell HR22.out.res (i := 3) rfl
  have of3 : w22.frozen? ⟨O, 3, none⟩ = false := World.objAt.free HR22.out.res 3
  have hBO : ¬ B = O := by have := HR22.out.lt; omega
  have hOB : ¬ O = B := by have := HR22.out.lt; omega
  go_wp2
  have HR23 := Lib.hid (HR22.out.at (k + 1 + 1))
  clear HR22 c0 c1 f1
  refine bodyPost_ret (v := .tuple #[.agg #[.string y, .string z2, .string ⟨#[61]⟩, .bool false], .nilIface]) ?_ rfl ?_
  · rw [results_cell_tmp rfl]
    go_simp
  · exact ⟨_, rfl, Lib.hid ((((HR23.out.store 0 (.string y)).store 1 (.string z2)).store 2 (.string ⟨#[61]⟩)).store 3 (.bool false)).prs, Lib.hid ((((HR23.out.store 0 (.string y)).store 1 (.string z2)).store 2 (.string ⟨#[61]⟩)).store 3 (.bool false)).keep⟩
set_option maxRecDepth 100000 in
set_option maxHeartbeats 800000000 in
theorem attrOp (s : ByteArray) (B i j k : Nat) (w : World) (hs : s.size ≤ 9000) (h : Prs d w B s i) (hi : i < s.size) (hx : nx s i = 91) (hnw1 : NoWs s (i + 1)) (hij : i + 1 ≤ j) (hj : j < s.size) (hnw2 : NoWs s j)
    (hN : ∀ w', Prs d w' B s (i + 1) → Calls Tryz.prog 51 #[.pointer (some ⟨B, 0, none⟩)] w' (NmRead d s B j w')) (c : UInt8) (hc : c = 33 ∨ c = 126 ∨ c = 124 ∨ c = 94 ∨ c = 36 ∨ c = 42) (hcj : nx s j = (c.toNat : Int)) (hext : s.extract j (j + 2) = ⟨#[c, 61]⟩) (h34 : nx s (j + 2) = 34) (hqr : QRun s (j + 2 + 1) k) (hqk : j + 2 + 1 ≤ k) (hkl : k + 1 < s.size) (h93 : nx s (k + 1) = 93) :
    Calls Tryz.prog 44 #[.pointer (some ⟨B, 0, none⟩)] w (AttrRead d s B (k + 1 + 1) w) := by
  obtain ⟨q, hqv⟩ : ∃ q, j + 2 = q := ⟨_, rfl⟩
  have HQV := Lib.hid hqv
  rw [hqv] at h34 hqr hqk
  have hks : k + 1 < s.size := by omega
  have hj2 : (j : Int) + 2 ≤ (s.size : Int) := by omega
  have hj2n : j + 2 < s.size := by omega
  have e_j : (s[j].toNat : Int) = (c.toNat : Int) := by rw [← nx_lt hj, hcj]
  have hql : q < s.size := by omega
  have e_q : (s[q].toNat : Int) = 34 := by rw [← nx_lt hql, h34]
  have hpl : k + 1 < s.size := by omega
  have hpel : k + 1 < s.size := by omega
  have e_pe : (s[k + 1].toNat : Int) = 93 := by rw [← nx_lt hpel, h93]
  have HS3 := Lib.hid (fun w' (h' : Prs d w' B s (q)) => skipWs_any s B (q) 0 w' hs h' (by omega) (fun j hj => absurd hj (by omega)) (by unfold NoWs; rw [Nat.add_zero, h34]; decide))
  have HSTR := Lib.hid (fun w' (h' : Prs d w' B s (q)) => parseString_any s B (q) k w' hs h' h34 hqr)
  have HS5 := Lib.hid (fun w' (h' : Prs d w' B s (k + 1)) => skipWs_any s B (k + 1) 0 w' hs h' (by omega) (fun j hj => absurd hj (by omega)) (by unfold NoWs; rw [Nat.add_zero, h93]; decide))
  have hc61 : ((c.toNat : Int) == 61) = false := by rcases hc with h | h | h | h | h | h <;> rw [h] <;> decide
  have hc93 : ((c.toNat : Int) == 93) = false := by rcases hc with h | h | h | h | h | h <;> rw [h] <;> decide
  have hx0 : ((((⟨#[c, 61]⟩ : ByteArray)[0]'(by show 0 < 2; decide)).toNat : Int) == 61) = false := hc61
  have hx1 : ((((⟨#[c, 61]⟩ : ByteArray)[1]'(by show 1 < 2; decide)).toNat : Int) != 61) = false := by show (((61 : UInt8).toNat : Int) != 61) = false; decide
  have HC := Lib.hid hc
  have HS3Q := Lib.hid (show ∀ w' (h' : Prs d w' B s (j + 2)), Calls Tryz.prog 32 #[.pointer (some ⟨B, 0, none⟩)] w' (SkipPost d s B (j + 2) 0 w') by rw [hqv]; exact HS3.out)
  have fka : decide ((s.size : Int) ≤ ((j + 2 : Nat) : Int)) = false := by simp; omega
  have fkb : decide (s.size ≤ j + 2) = false := by simp; omega
  have fqa : decide ((s.size : Int) ≤ ((q : Nat) : Int)) = false := by simp; omega
  have fqb : decide (s.size ≤ q) = false := by simp; omega
  have fpa : decide ((s.size : Int) ≤ ((k + 1 : Nat) : Int)) = false := by simp; omega
  have fpb : decide (s.size ≤ k + 1) = false := by simp; omega
  have fea : decide ((s.size : Int) ≤ ((k + 1 : Nat) : Int)) = false := by simp; omega
  have feb : decide (s.size ≤ k + 1) = false := by simp; omega
  clear hcj h34 h93 hqr hc hqv
  have hr0 := RPair.start h #[.string ⟨#[]⟩, .string ⟨#[]⟩, .string ⟨#[]⟩, .bool false] 85
  obtain ⟨w0, hw0⟩ : ∃ w0, w.alloc (.cells #[.string ⟨#[]⟩, .string ⟨#[]⟩, .string ⟨#[]⟩, .bool false] 85) = w0 := ⟨_, rfl⟩
  obtain ⟨O, hO⟩ : ∃ O, w.heap.size = O := ⟨_, rfl⟩
  rw [hw0] at hr0
  rw [hO] at hr0
  have HR0 := Lib.hid hr0
  have HN := Lib.hid hN
  have e91 : (s[i].toNat : Int) = 91 := by rw [← nx_lt hi, hx]
  have HS1 := Lib.hid (fun w' (h' : Prs d w' B s (i + 1)) => skipWs_any s B (i + 1) 0 w' hs h' (by omega) (fun j hj => absurd hj (by omega)) hnw1)
  have HS2 := Lib.hid (fun w' (h' : Prs d w' B s j) => skipWs_any s B j 0 w' hs h' (by omega) (fun j hj => absurd hj (by omega)) hnw2)
  have fia : decide ((s.size : Int) ≤ ((i : Nat) : Int)) = false := by simp; omega
  have fib : decide (s.size ≤ i) = false := by simp; omega
  have fja : decide ((s.size : Int) ≤ ((j : Nat) : Int)) = false := by simp; omega
  have fjb : decide (s.size ≤ j) = false := by simp; omega
  clear hr0 h hN hx hnw1 hnw2
  try clear c0 c1 f1
  have c0 : w0.cell? ⟨B, 0, none⟩ = some (.string s) := World.objAt.cell HR0.out.prs (i := 0) rfl
  have c1 : w0.cell? ⟨B, 1, none⟩ = some (.int .i64 ((i : Nat) : Int)) := World.objAt.cell HR0.out.prs (i := 1) rfl
  have f1 : w0.frozen? ⟨B, 1, none⟩ = false := World.objAt.free HR0.out.prs 1
  go_enter Tryz.func44, Tryz.ntmps44
  go_wp2
  go_quiet (fail)
  obtain ⟨w1, hw1⟩ : ∃ w1, w0.drewN nq = w1 := ⟨_, rfl⟩
  have HR1 := Lib.hid (show RPair d 85 #[.string ⟨#[]⟩, .string ⟨#[]⟩, .string ⟨#[]⟩, .bool false] w w1 B O s (i) by rw [← hw1]; exact HR0.out.drew nq)
  rw [hw1]
  clear hw1 HR0 nq
  try clear c0 c1 f1
  have c0 : w1.cell? ⟨B, 0, none⟩ = some (.string s) := World.objAt.cell HR1.out.prs (i := 0) rfl
  have c1 : w1.cell? ⟨B, 1, none⟩ = some (.int .i64 ((i : Nat) : Int)) := World.objAt.cell HR1.out.prs (i := 1) rfl
  have f1 : w1.frozen? ⟨B, 1, none⟩ = false := World.objAt.free HR1.out.prs 1
  go_wp2
  try clear hw0
  go_quiet (fail)
  obtain ⟨w2, hw2⟩ : ∃ w2, w1.drewN nq = w2 := ⟨_, rfl⟩
  have HR2 := Lib.hid (show RPair d 85 #[.string ⟨#[]⟩, .string ⟨#[]⟩, .string ⟨#[]⟩, .bool false] w w2 B O s (i) by rw [← hw2]; exact HR1.out.drew nq)
  rw [hw2]
  clear hw2 HR1 nq
  try clear c0 c1 f1
  have c0 : w2.cell? ⟨B, 0, none⟩ = some (.string s) := World.objAt.cell HR2.out.prs (i := 0) rfl
  have c1 : w2.cell? ⟨B, 1, none⟩ = some (.int .i64 ((i : Nat) : Int)) := World.objAt.cell HR2.out.prs (i := 1) rfl
  have f1 : w2.frozen? ⟨B, 1, none⟩ = false := World.objAt.free HR2.out.prs 1
  go_wp2_with fail
  have HR3 := Lib.hid (HR2.out.at (i + 1))
  clear HR2 c0 c1 f1
  refine (HS1.out _ HR3.out.prs).mono ?_
  rintro e w4 ⟨rfl, hp, hk⟩
  have HR4 := Lib.hid (HR3.out.to (show Prs d w4 B s (i + 1) from hp.out) hk.out)
  clear HR3 hp hk
  try clear c0 c1 f1
  have c0 : w4.cell? ⟨B, 0, none⟩ = some (.string s) := World.objAt.cell HR4.out.prs (i := 0) rfl
  have c1 : w4.cell? ⟨B, 1, none⟩ = some (.int .i64 ((i + 1 : Nat) : Int)) := World.objAt.cell HR4.out.prs (i := 1) rfl
  have f1 : w4.frozen? ⟨B, 1, none⟩ = false := World.objAt.free HR4.out.prs 1
  go_wp2_with fail
  refine (HN.out _ HR4.out.prs).mono ?_
  rintro e w5 ⟨z, rfl, hz, hp, hk⟩
  have HR5 := Lib.hid (HR4.out.to (show Prs d w5 B s (j) from hp.out) hk.out)
  clear HR4 hp hk
  go_wp2_with fail
  refine (lowA_any z _ (by omega)).mono ?_
  rintro e w6 ⟨rfl, hb⟩
  have HR6 := Lib.hid (HR5.out.to (World.objAt.below HR5.out.prs hb.out (World.objAt.lt HR5.out.prs)) (Keep.of hb.out (Nat.le_of_lt (World.objAt.lt HR5.out.prs))))
  clear HR5 hb
  obtain ⟨y, hy⟩ : ∃ y, lowS z = y := ⟨_, rfl⟩
  rw [hy]
  clear hy hz
  go_wp2_with fail
  refine (HS2.out _ HR6.out.prs).mono ?_
  rintro e w7 ⟨rfl, hp, hk⟩
  have HR7 := Lib.hid (HR6.out.to (show Prs d w7 B s (j) from hp.out) hk.out)
  clear HR6 hp hk
  try clear c0 c1 f1
  have c0 : w7.cell? ⟨B, 0, none⟩ = some (.string s) := World.objAt.cell HR7.out.prs (i := 0) rfl
  have c1 : w7.cell? ⟨B, 1, none⟩ = some (.int .i64 ((j : Nat) : Int)) := World.objAt.cell HR7.out.prs (i := 1) rfl
  have f1 : w7.frozen? ⟨B, 1, none⟩ = false := World.objAt.free HR7.out.prs 1
  go_wp2
  go_quiet (fail)
  obtain ⟨w8, hw8⟩ : ∃ w8, w7.drewN nq = w8 := ⟨_, rfl⟩
  have HR8 := Lib.hid (show RPair d 85 #[.string ⟨#[]⟩, .string ⟨#[]⟩, .string ⟨#[]⟩, .bool false] w w8 B O s (j) by rw [← hw8]; exact HR7.out.drew nq)
  rw [hw8]
  clear hw8 HR7 nq
  try clear c0 c1 f1
  have c0 : w8.cell? ⟨B, 0, none⟩ = some (.string s) := World.objAt.cell HR8.out.prs (i := 0) rfl
  have c1 : w8.cell? ⟨B, 1, none⟩ = some (.int .i64 ((j : Nat) : Int)) := World.objAt.cell HR8.out.prs (i := 1) rfl
  have f1 : w8.frozen? ⟨B, 1, none⟩ = false := World.objAt.free HR8.out.prs 1
  go_wp2
  go_quiet (fail)
  obtain ⟨w9, hw9⟩ : ∃ w9, w8.drewN nq = w9 := ⟨_, rfl⟩
  have HR9 := Lib.hid (show RPair d 85 #[.string ⟨#[]⟩, .string ⟨#[]⟩, .string ⟨#[]⟩, .bool false] w w9 B O s (j) by rw [← hw9]; exact HR8.out.drew nq)
  rw [hw9]
  clear hw9 HR8 nq
  try clear c0 c1 f1
  have c0 : w9.cell? ⟨B, 0, none⟩ = some (.string s) := World.objAt.cell HR9.out.prs (i := 0) rfl
  have c1 : w9.cell? ⟨B, 1, none⟩ = some (.int .i64 ((j : Nat) : Int)) := World.objAt.cell HR9.out.prs (i := 1) rfl
  have f1 : w9.frozen? ⟨B, 1, none⟩ = false := World.objAt.free HR9.out.prs 1
  go_wp2
  go_quiet (fail)
  obtain ⟨w10, hw10⟩ : ∃ w10, w9.drewN nq = w10 := ⟨_, rfl⟩
  have HR10 := Lib.hid (show RPair d 85 #[.string ⟨#[]⟩, .string ⟨#[]⟩, .string ⟨#[]⟩, .bool false] w w10 B O s (j) by rw [← hw10]; exact HR9.out.drew nq)
  rw [hw10]
  clear hw10 HR9 nq
  try clear c0 c1 f1
  have c0 : w10.cell? ⟨B, 0, none⟩ = some (.string s) := World.objAt.cell HR10.out.prs (i := 0) rfl
  have c1 : w10.cell? ⟨B, 1, none⟩ = some (.int .i64 ((j : Nat) : Int)) := World.objAt.cell HR10.out.prs (i := 1) rfl
  have f1 : w10.frozen? ⟨B, 1, none⟩ = false := World.objAt.free HR10.out.prs 1
  go_wp2
  go_quiet (fail)
  obtain ⟨w11, hw11⟩ : ∃ w11, w10.drewN nq = w11 := ⟨_, rfl⟩
  have HR11 := Lib.hid (show RPair d 85 #[.string ⟨#[]⟩, .string ⟨#[]⟩, .string ⟨#[]⟩, .bool false] w w11 B O s (j) by rw [← hw11]; exact HR10.out.drew nq)
  rw [hw11]
  clear hw11 HR10 nq
  try clear c0 c1 f1
  have c0 : w11.cell? ⟨B, 0, none⟩ = some (.string s) := World.objAt.cell HR11.out.prs (i := 0) rfl
  have c1 : w11.cell? ⟨B, 1, none⟩ = some (.int .i64 ((j : Nat) : Int)) := World.objAt.cell HR11.out.prs (i := 1) rfl
  have f1 : w11.frozen? ⟨B, 1, none⟩ = false := World.objAt.free HR11.out.prs 1
  go_wp2_with fail
  have HR12 := Lib.hid (HR11.out.at (j + 2))
  clear HR11 c0 c1 f1
  refine (HS3Q.out _ HR12.out.prs).mono ?_
  rintro e w13 ⟨rfl, hp, hk⟩
  have HR13 := Lib.hid (HR12.out.to (show Prs d w13 B s (q) from (by have h5 := hp.out; rw [Nat.add_zero, HQV.out] at h5; exact h5)) hk.out)
  clear HR12 hp hk
  try clear c0 c1 f1
  have c0 : w13.cell? ⟨B, 0, none⟩ = some (.string s) := World.objAt.cell HR13.out.prs (i := 0) rfl
  have c1 : w13.cell? ⟨B, 1, none⟩ = some (.int .i64 ((q : Nat) : Int)) := World.objAt.cell HR13.out.prs (i := 1) rfl
  have f1 : w13.frozen? ⟨B, 1, none⟩ = false := World.objAt.free HR13.out.prs 1
  go_wp2
  go_quiet (fail)
  obtain ⟨w14, hw14⟩ : ∃ w14, w13.drewN nq = w14 := ⟨_, rfl⟩
  have HR14 := Lib.hid (show RPair d 85 #[.string ⟨#[]⟩, .string ⟨#[]⟩, .string ⟨#[]⟩, .bool false] w w14 B O s (q) by rw [← hw14]; exact HR13.out.drew nq)
  rw [hw14]
  clear hw14 HR13 nq
  try clear c0 c1 f1
  have c0 : w14.cell? ⟨B, 0, none⟩ = some (.string s) := World.objAt.cell HR14.out.prs (i := 0) rfl
  have c1 : w14.cell? ⟨B, 1, none⟩ = some (.int .i64 ((q : Nat) : Int)) := World.objAt.cell HR14.out.prs (i := 1) rfl
  have f1 : w14.frozen? ⟨B, 1, none⟩ = false := World.objAt.free HR14.out.prs 1
  go_wp2
  go_quiet (fail)
  obtain ⟨w15, hw15⟩ : ∃ w15, w14.drewN nq = w15 := ⟨_, rfl⟩
  have HR15 := Lib.hid (show RPair d 85 #[.string ⟨#[]⟩, .string ⟨#[]⟩, .string ⟨#[]⟩, .bool false] w w15 B O s (q) by rw [← hw15]; exact HR14.out.drew nq)
  rw [hw15]
  clear hw15 HR14 nq
  try clear c0 c1 f1
  have c0 : w15.cell? ⟨B, 0, none⟩ = some (.string s) := World.objAt.cell HR15.out.prs (i := 0) rfl
  have c1 : w15.cell? ⟨B, 1, none⟩ = some (.int .i64 ((q : Nat) : Int)) := World.objAt.cell HR15.out.prs (i := 1) rfl
  have f1 : w15.frozen? ⟨B, 1, none⟩ = false := World.objAt.free HR15.out.prs 1
  go_wp2_with fail
  refine (HSTR.out _ HR15.out.prs).mono ?_
  rintro e w16 ⟨z2, rfl, hz2, hp, hk⟩
  have HR16 := Lib.hid (HR15.out.to (show Prs d w16 B s (k + 1) from hp.out) hk.out)
  clear HR15 hp hk
  try clear c0 c1 f1
  have c0 : w16.cell? ⟨B, 0, none⟩ = some (.string s) := World.objAt.cell HR16.out.prs (i := 0) rfl
  have c1 : w16.cell? ⟨B, 1, none⟩ = some (.int .i64 ((k + 1 : Nat) : Int)) := World.objAt.cell HR16.out.prs (i := 1) rfl
  have f1 : w16.frozen? ⟨B, 1, none⟩ = false := World.objAt.free HR16.out.prs 1
  go_wp2_with fail
  refine (HS5.out _ HR16.out.prs).mono ?_
  rintro e w17 ⟨rfl, hp, hk⟩
  have HR17 := Lib.hid (HR16.out.to (show Prs d w17 B s (k + 1) from hp.out) hk.out)
  clear HR16 hp hk
  try clear c0 c1 f1
  have c0 : w17.cell? ⟨B, 0, none⟩ = some (.string s) := World.objAt.cell HR17.out.prs (i := 0) rfl
  have c1 : w17.cell? ⟨B, 1, none⟩ = some (.int .i64 ((k + 1 : Nat) : Int)) := World.objAt.cell HR17.out.prs (i := 1) rfl
  have f1 : w17.frozen? ⟨B, 1, none⟩ = false := World.objAt.free HR17.out.prs 1
  go_wp2
  go_quiet (fail)
  obtain ⟨w18, hw18⟩ : ∃ w18, w17.drewN nq = w18 := ⟨_, rfl⟩
  have HR18 := Lib.hid (show RPair d 85 #[.string ⟨#[]⟩, .string ⟨#[]⟩, .string ⟨#[]⟩, .bool false] w w18 B O s (k + 1) by rw [← hw18]; exact HR17.out.drew nq)
  rw [hw18]
  clear hw18 HR17 nq
  try clear c0 c1 f1
  have c0 : w18.cell? ⟨B, 0, none⟩ = some (.string s) := World.objAt.cell HR18.out.prs (i := 0) rfl
  have c1 : w18.cell? ⟨B, 1, none⟩ = some (.int .i64 ((k + 1 : Nat) : Int)) := World.objAt.cell HR18.out.prs (i := 1) rfl
  have f1 : w18.frozen? ⟨B, 1, none⟩ = false := World.objAt.free HR18.out.prs 1
  go_wp2
  go_quiet (fail)
  obtain ⟨w19, hw19⟩ : ∃ w19, w18.drewN nq = w19 := ⟨_, rfl⟩
  have HR19 := Lib.hid (show RPair d 85 #[.string ⟨#[]⟩, .string ⟨#[]⟩, .string ⟨#[]⟩, .bool false] w w19 B O s (k + 1) by rw [← hw19]; exact HR18.out.drew nq)
  rw [hw19]
  clear hw19 HR18 nq
  try clear c0 c1 f1
  have c0 : w19.cell? ⟨B, 0, none⟩ = some (.string s) := World.objAt.cell HR19.out.prs (i := 0) rfl
  have c1 : w19.cell? ⟨B, 1, none⟩ = some (.int .i64 ((k + 1 : Nat) : Int)) := World.objAt.cell HR19.out.prs (i := 1) rfl
  have f1 : w19.frozen? ⟨B, 1, none⟩ = false := World.objAt.free HR19.out.prs 1
  go_wp2_with fail
  refine (HS5.out _ HR19.out.prs).mono ?_
  rintro e w20 ⟨rfl, hp, hk⟩
  have HR20 := Lib.hid (HR19.out.to (show Prs d w20 B s (k + 1) from hp.out) hk.out)
  clear HR19 hp hk
  try clear c0 c1 f1
  have c0 : w20.cell? ⟨B, 0, none⟩ = some (.string s) := World.objAt.cell HR20.out.prs (i := 0) rfl
  have c1 : w20.cell? ⟨B, 1, none⟩ = some (.int .i64 ((k + 1 : Nat) : Int)) := World.objAt.cell HR20.out.prs (i := 1) rfl
  have f1 : w20.frozen? ⟨B, 1, none⟩ = false := World.objAt.free HR20.out.prs 1
  go_wp2
  go_quiet (fail)
  obtain ⟨w21, hw21⟩ : ∃ w21, w20.drewN nq = w21 := ⟨_, rfl⟩
  have HR21 := Lib.hid (show RPair d 85 #[.string ⟨#[]⟩, .string ⟨#[]⟩, .string ⟨#[]⟩, .bool false] w w21 B O s (k + 1) by rw [← hw21]; exact HR20.out.drew nq)
  rw [hw21]
  clear hw21 HR20 nq
  try clear c0 c1 f1
  have c0 : w21.cell? ⟨B, 0, none⟩ = some (.string s) := World.objAt.cell HR21.out.prs (i := 0) rfl
  have c1 : w21.cell? ⟨B, 1, none⟩ = some (.int .i64 ((k + 1 : Nat) : Int)) := World.objAt.cell HR21.out.prs (i := 1) rfl
  have f1 : w21.frozen? ⟨B, 1, none⟩ = false := World.objAt.free HR21.out.prs 1
  go_wp2
  go_quiet (fail)
  obtain ⟨w22, hw22⟩ : ∃ w22, w21.drewN nq = w22 := ⟨_, rfl⟩
  have HR22 := Lib.hid (show RPair d 85 #[.string ⟨#[]⟩, .string ⟨#[]⟩, .string ⟨#[]⟩, .bool false] w w22 B O s (k + 1) by rw [← hw22]; exact HR21.out.drew nq)
  rw [hw22]
  clear hw22 HR21 nq
  try clear c0 c1 f1
  have c0 : w22.cell? ⟨B, 0, none⟩ = some (.string s) := World.objAt.cell HR22.out.prs (i := 0) rfl
  have c1 : w22.cell? ⟨B, 1, none⟩ = some (.int .i64 ((k + 1 : Nat) : Int)) := World.objAt.cell HR22.out.prs (i := 1) rfl
  have f1 : w22.frozen? ⟨B, 1, none⟩ = false := World.objAt.free HR22.out.prs 1

  have o0 : w22.cell? ⟨O, 0, none⟩ = some (.string ⟨#[]⟩) := World.objAt.cell HR22.out.res (i := 0) rfl
  have of0 : w22.frozen? ⟨O, 0, none⟩ = false := World.objAt.free HR22.out.res 0
  have o1 : w22.cell? ⟨O, 1, none⟩ = some (.string ⟨#[]⟩) := World.objAt.cell HR22.out.res (i := 1) rfl
  have of1 : w22.frozen? ⟨O, 1, none⟩ = false := World.objAt.free HR22.out.res 1
  have o2 : w22.cell? ⟨O, 2, none⟩ = some (.string ⟨#[]⟩) := World.objAt.cell HR22.out.res (i := 2) rfl
  have of2 : w22.frozen? ⟨O, 2, none⟩ = false := World.objAt.free HR22.out.res 2
  have o3 : w22.cell? ⟨O, 3, none⟩ = some (.bool false) := World.objAt.cell HR22.out.res (i := 3) rfl
  have of3 : w22.frozen? ⟨O, 3, none⟩ = false := World.objAt.free HR22.out.res 3
  have hBO : ¬ B = O := by have := HR22.out.lt; omega
  have hOB : ¬ O = B := by have := HR22.out.lt; omega
  rcases HC.out with h | h | h | h | h | h
  · subst h
    go_wp2
    have HR23 := Lib.hid (HR22.out.at (k + 1 + 1))
    clear HR22 c0 c1 f1
    refine bodyPost_ret (v := .tuple #[.agg #[.string y, .string z2, .string ⟨#[33, 61]⟩, .bool false], .nilIface]) ?_ rfl ?_
    · rw [results_cell_tmp rfl]
      go_simp
    · exact ⟨_, rfl, Lib.hid ((((HR23.out.store 0 (.string y)).store 1 (.string z2)).store 2 (.string ⟨#[33, 61]⟩)).store 3 (.bool false)).prs, Lib.hid ((((HR23.out.store 0 (.string y)).store 1 (.string z2)).store 2 (.string ⟨#[33, 61]⟩)).store 3 (.bool false)).keep⟩
  · subst h
    go_wp2
    have HR23 := Lib.hid (HR22.out.at (k + 1 + 1))
    clear HR22 c0 c1 f1
    refine bodyPost_ret (v := .tuple #[.agg #[.string y, .string z2, .string ⟨#[126, 61]⟩, .bool false], .nilIface]) ?_ rfl ?_
    · rw [results_cell_tmp rfl]
      go_simp
    · exact ⟨_, rfl, Lib.hid ((((HR23.out.store 0 (.string y)).store 1 (.string z2)).store 2 (.string ⟨#[126, 61]⟩)).store 3 (.bool false)).prs, Lib.hid ((((HR23.out.store 0 (.string y)).store 1 (.string z2)).store 2 (.string ⟨#[126, 61]⟩)).store 3 (.bool false)).keep⟩
  · subst h
    go_wp2
    have HR23 := Lib.hid (HR22.out.at (k + 1 + 1))
    clear HR22 c0 c1 f1
    refine bodyPost_ret (v := .tuple #[.agg #[.string y, .string z2, .string ⟨#[124, 61]⟩, .bool false], .nilIface]) ?_ rfl ?_
    · rw [results_cell_tmp rfl]
      go_simp
    · exact ⟨_, rfl, Lib.hid ((((HR23.out.store 0 (.string y)).store 1 (.string z2)).store 2 (.string ⟨#[124, 61]⟩)).store 3 (.bool false)).prs, Lib.hid ((((HR23.out.store 0 (.string y)).store 1 (.string z2)).store 2 (.string ⟨#[124, 61]⟩)).store 3 (.bool false)).keep⟩
  · subst h
    go_wp2
    have HR23 := Lib.hid (HR22.out.at (k + 1 + 1))
    clear HR22 c0 c1 f1
    refine bodyPost_ret (v := .tuple #[.agg #[.string y, .string z2, .string ⟨#[94, 61]⟩, .bool false], .nilIface]) ?_ rfl ?_
    · rw [results_cell_tmp rfl]
      go_simp
    · exact ⟨_, rfl, Lib.hid ((((HR23.out.store 0 (.string y)).store 1 (.string z2)).store 2 (.string ⟨#[94, 61]⟩)).store 3 (.bool false)).prs, Lib.hid ((((HR23.out.store 0 (.string y)).store 1 (.string z2)).store 2 (.string ⟨#[94, 61]⟩)).store 3 (.bool false)).keep⟩
  · subst h
    go_wp2
    have HR23 := Lib.hid (HR22.out.at (k + 1 + 1))
    clear HR22 c0 c1 f1
    refine bodyPost_ret (v := .tuple #[.agg #[.string y, .string z2, .string ⟨#[36, 61]⟩, .bool false], .nilIface]) ?_ rfl ?_
    · rw [results_cell_tmp rfl]
      go_simp
    · exact ⟨_, rfl, Lib.hid ((((HR23.out.store 0 (.string y)).store 1 (.string z2)).store 2 (.string ⟨#[36, 61]⟩)).store 3 (.bool false)).prs, Lib.hid ((((HR23.out.store 0 (.string y)).store 1 (.string z2)).store 2 (.string ⟨#[36, 61]⟩)).store 3 (.bool false)).keep⟩
  · subst h
    go_wp2
    have HR23 := Lib.hid (HR22.out.at (k + 1 + 1))
    clear HR22 c0 c1 f1
    refine bodyPost_ret (v := .tuple #[.agg #[.string y, .string z2, .string ⟨#[42, 61]⟩, .bool false], .nilIface]) ?_ rfl ?_
    · rw [results_cell_tmp rfl]
      go_simp
    · exact ⟨_, rfl, Lib.hid ((((HR23.out.store 0 (.string y)).store 1 (.string z2)).store 2 (.string ⟨#[42, 61]⟩)).store 3 (.bool false)).prs, Lib.hid ((((HR23.out.store 0 (.string y)).store 1 (.string z2)).store 2 (.string ⟨#[42, 61]⟩)).store 3 (.bool false)).keep⟩
end Go.Proofs.YtoanofdomhnafaaGreatDoor
