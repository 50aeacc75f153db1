/- Parts of a proof: PdPseB, PdPseC, PdParts, SpChain. -/
import Derived.Test.YtoanofdomhnafaaGreatDoorG25
import Derived.Test.YtoanofdomhnafaaGreatDoorG33
import Derived.Test.YtoanofdomhnafaaGreatDoorG34
import Derived.Test.YtoanofdomhnafaaGreatDoorG35
import Derived.Test.YtoanofdomhnafaaGreatDoorG23
import Derived.Test.YtoanofdomhnafaaGreatDoorG21
import Derived.Test.YtoanofdomhnafaaGreatDoorG27
set_option linter.unusedVariables false
set_option linter.unusedSimpArgs false
namespace Go.Proofs.YtoanofdomhnafaaGreatDoor
open Go.RowKit
variable {d : Int}
set_option maxRecDepth 100000 in
set_option maxHeartbeats 800000000 in
theorem psRel (s : ByteArray) (B i j k : Nat) (w : World) (hs : s.size ≤ 9000) (h : Prs d w B s i) (hi : i < s.size) (hx : nx s i = 58) (hj : i + 1 < j) (hjs : j ≤ s.size) (hx1 : nx s (i + 1) ≠ 58) (y : ByteArray) (hysz : y.size ≤ 1000) (hy : lowS y = ⟨#[110, 111, 116]⟩ ∨ lowS y = ⟨#[104, 97, 115]⟩ ∨ lowS y = ⟨#[104, 97, 115, 99, 104, 105, 108, 100]⟩)
    (hN : ∀ w', Prs d w' B s (i + 1) → Calls Tryz.prog 51 #[.pointer (some ⟨B, 0, none⟩)] w' (NmIs d s B j y w')) (R : Value → World → World → Prop) (h40 : nx s j = 40) (hnw : NoWs s (j + 1)) (hk : j < k) (hks : k < s.size) (h41 : nx s k = 41)
    (hG : ∀ w', Prs d w' B s (j + 1) → Calls Tryz.prog 56 #[.pointer (some ⟨B, 0, none⟩)] w' (GrpRead R d s B k w')) :
    Calls Tryz.prog 45 #[.pointer (some ⟨B, 0, none⟩)] w (RelRead R d s B (k + 1) w) := by
  obtain ⟨q, hq⟩ : ∃ q, i + 1 = q := ⟨_, rfl⟩
  have hqI : (i : Int) + 1 = (q : Int) := by omega
  rw [hq] at hx1 hN hj
  have hi1 : q < s.size := by omega
  have hR0 : PK d w w B s i := PK.start h
  have HR0 := Lib.hid hR0
  have HN := Lib.hid hN
  obtain ⟨a, ha⟩ : ∃ a, j + 1 = a := ⟨_, rfl⟩
  rw [ha] at hnw hG
  have HOP := Lib.hid (show ∀ w' (h' : Prs d w' B s j), Calls Tryz.prog 55 #[.pointer (some ⟨B, 0, none⟩)] w' (TookPost d s B a w') by rw [← ha]; exact fun w' h' => openParen_any s B j w' hs h' (by omega) h40 (by rw [ha]; exact hnw))
  have HCL := Lib.hid (fun w' (h' : Prs d w' B s k) => closeParen_any s B k w' hs h' (by omega) h41)
  have HG := Lib.hid hG
  have e58 : (s[i].toNat : Int) = 58 := by rw [← nx_lt hi, hx]
  have e59 : ((s[q].toNat : Int) == 58) = false := by rw [← nx_lt hi1]; simpa using hx1
  have fia : decide ((s.size : Int) ≤ ((i : Nat) : Int)) = false := by simp; omega
  have fib : decide (s.size ≤ i) = false := by simp; omega
  have fja : decide ((s.size : Int) ≤ ((q : Nat) : Int)) = false := by simp; omega
  have fjb : decide (s.size ≤ q) = false := by simp; omega
  clear hR0 h hN hx hx1 h40 hnw h41 hG
  try clear c0 c1 f1
  have c0 : w.cell? ⟨B, 0, none⟩ = some (.string s) := World.objAt.cell HR0.out.prs (i := 0) rfl
  have c1 : w.cell? ⟨B, 1, none⟩ = some (.int .i64 ((i : Nat) : Int)) := World.objAt.cell HR0.out.prs (i := 1) rfl
  have f1 : w.frozen? ⟨B, 1, none⟩ = false := World.objAt.free HR0.out.prs 1
  go_enter Tryz.func45, Tryz.ntmps45
  go_wp2
  go_quiet (fail)
  obtain ⟨w1, hw1⟩ : ∃ w1, (w.drewN nq) = w1 := ⟨_, rfl⟩
  have HR1 := Lib.hid (show PK d w w1 B s (i) by rw [← hw1]; exact HR0.out.drew nq)
  rw [hw1]
  clear hw1 HR0 nq
  try clear c0 c1 f1
  have c0 : w1.cell? ⟨B, 0, none⟩ = some (.string s) := World.objAt.cell HR1.out.prs (i := 0) rfl
  have c1 : w1.cell? ⟨B, 1, none⟩ = some (.int .i64 ((i : Nat) : Int)) := World.objAt.cell HR1.out.prs (i := 1) rfl
  have f1 : w1.frozen? ⟨B, 1, none⟩ = false := World.objAt.free HR1.out.prs 1
  go_wp2
  go_quiet (fail)
  obtain ⟨w2, hw2⟩ : ∃ w2, (w1.drewN nq) = w2 := ⟨_, rfl⟩
  have HR2 := Lib.hid (show PK d w w2 B s (i) by rw [← hw2]; exact HR1.out.drew nq)
  rw [hw2]
  clear hw2 HR1 nq
  try clear c0 c1 f1
  have c0 : w2.cell? ⟨B, 0, none⟩ = some (.string s) := World.objAt.cell HR2.out.prs (i := 0) rfl
  have c1 : w2.cell? ⟨B, 1, none⟩ = some (.int .i64 ((i : Nat) : Int)) := World.objAt.cell HR2.out.prs (i := 1) rfl
  have f1 : w2.frozen? ⟨B, 1, none⟩ = false := World.objAt.free HR2.out.prs 1

  go_wp2
  have HR3 := Lib.hid (HR2.out.at (q))
  clear HR2 c0 c1 f1
  obtain ⟨ws, hws⟩ : ∃ ws, (w2.setCell ⟨B, 1, none⟩ (.int .i64 (q : Int))) = ws := ⟨_, rfl⟩
  have HRs := Lib.hid (show PK d w ws B s q by rw [← hws]; exact HR3.out)
  rw [hws]
  clear hws HR3
  try clear c0 c1 f1
  have c0 : ws.cell? ⟨B, 0, none⟩ = some (.string s) := World.objAt.cell HRs.out.prs (i := 0) rfl
  have c1 : ws.cell? ⟨B, 1, none⟩ = some (.int .i64 ((q : Nat) : Int)) := World.objAt.cell HRs.out.prs (i := 1) rfl
  have f1 : ws.frozen? ⟨B, 1, none⟩ = false := World.objAt.free HRs.out.prs 1
  go_wp2
  go_quiet (fail)
  obtain ⟨w4, hw4⟩ : ∃ w4, (ws.drewN nq) = w4 := ⟨_, rfl⟩
  have HR4 := Lib.hid (show PK d w w4 B s (q) by rw [← hw4]; exact HRs.out.drew nq)
  rw [hw4]
  clear hw4 HRs nq
  try clear c0 c1 f1
  have c0 : w4.cell? ⟨B, 0, none⟩ = some (.string s) := World.objAt.cell HR4.out.prs (i := 0) rfl
  have c1 : w4.cell? ⟨B, 1, none⟩ = some (.int .i64 ((q : Nat) : Int)) := World.objAt.cell HR4.out.prs (i := 1) rfl
  have f1 : w4.frozen? ⟨B, 1, none⟩ = false := World.objAt.free HR4.out.prs 1
  go_wp2
  go_quiet (fail)
  obtain ⟨w5, hw5⟩ : ∃ w5, (w4.drewN nq) = w5 := ⟨_, rfl⟩
  have HR5 := Lib.hid (show PK d w w5 B s (q) by rw [← hw5]; exact HR4.out.drew nq)
  rw [hw5]
  clear hw5 HR4 nq
  try clear c0 c1 f1
  have c0 : w5.cell? ⟨B, 0, none⟩ = some (.string s) := World.objAt.cell HR5.out.prs (i := 0) rfl
  have c1 : w5.cell? ⟨B, 1, none⟩ = some (.int .i64 ((q : Nat) : Int)) := World.objAt.cell HR5.out.prs (i := 1) rfl
  have f1 : w5.frozen? ⟨B, 1, none⟩ = false := World.objAt.free HR5.out.prs 1
  go_wp2_with fail
  refine (HN.out _ HR5.out.prs).mono ?_
  rintro e w6 ⟨rfl, hp, hk⟩
  have HR6 := Lib.hid (HR5.out.to (show Prs d w6 B s (j) from hp.out) hk.out)
  clear HR5 hp hk
  go_wp2_with fail
  refine (lowA_any y _ (by omega)).mono ?_
  rintro e w7 ⟨rfl, hbw⟩
  have HR7 := Lib.hid (HR6.out.below hbw.out)
  clear HR6 hbw
  obtain ⟨yl, hyl⟩ : ∃ yl, lowS y = yl := ⟨_, rfl⟩
  rw [hyl]
  rw [hyl] at hy
  try clear c0 c1 f1
  have c0 : w7.cell? ⟨B, 0, none⟩ = some (.string s) := World.objAt.cell HR7.out.prs (i := 0) rfl
  have c1 : w7.cell? ⟨B, 1, none⟩ = some (.int .i64 ((j : Nat) : Int)) := World.objAt.cell HR7.out.prs (i := 1) rfl
  have f1 : w7.frozen? ⟨B, 1, none⟩ = false := World.objAt.free HR7.out.prs 1
  rcases hy with rfl | rfl | rfl
  · go_wp2_with fail
    refine (HOP.out _ HR7.out.prs).mono ?_
    rintro e w8 ⟨rfl, hp, hk⟩
    have HR8 := Lib.hid (HR7.out.to (show Prs d w8 B s (a) from hp.out) hk.out)
    clear HR7 hp hk
    try clear c0 c1 f1
    have c0 : w8.cell? ⟨B, 0, none⟩ = some (.string s) := World.objAt.cell HR8.out.prs (i := 0) rfl
    have c1 : w8.cell? ⟨B, 1, none⟩ = some (.int .i64 ((a : Nat) : Int)) := World.objAt.cell HR8.out.prs (i := 1) rfl
    have f1 : w8.frozen? ⟨B, 1, none⟩ = false := World.objAt.free HR8.out.prs 1
    go_wp2_with fail
    have hka := HR8.out.keep
    refine (HG.out _ HR8.out.prs).mono ?_
    rintro e wg ⟨A, nv, cv, rfl, hR, hp, hk⟩
    have HRg := Lib.hid (HR8.out.to hp.out hk.out)
    have HKA := Lib.hid hka
    clear HR8 hp hk hka
    try clear c0 c1 f1
    have c0 : wg.cell? ⟨B, 0, none⟩ = some (.string s) := World.objAt.cell HRg.out.prs (i := 0) rfl
    have c1 : wg.cell? ⟨B, 1, none⟩ = some (.int .i64 ((k : Nat) : Int)) := World.objAt.cell HRg.out.prs (i := 1) rfl
    have f1 : wg.frozen? ⟨B, 1, none⟩ = false := World.objAt.free HRg.out.prs 1
    go_wp2_with fail
    refine (HCL.out _ HRg.out.prs).mono ?_
    rintro e wz ⟨rfl, hp, hk⟩
    have HRz := Lib.hid (HRg.out.to hp.out hk.out)
    clear HRg hp c0 c1 f1
    go_wp2
    go_ret3
    exact ⟨_, _, rfl, ⟨_, _, HKA, hR, hk⟩, Lib.hid HRz.out.prs, Lib.hid HRz.out.keep⟩
  · go_wp2_with fail
    refine (HOP.out _ HR7.out.prs).mono ?_
    rintro e w8 ⟨rfl, hp, hk⟩
    have HR8 := Lib.hid (HR7.out.to (show Prs d w8 B s (a) from hp.out) hk.out)
    clear HR7 hp hk
    try clear c0 c1 f1
    have c0 : w8.cell? ⟨B, 0, none⟩ = some (.string s) := World.objAt.cell HR8.out.prs (i := 0) rfl
    have c1 : w8.cell? ⟨B, 1, none⟩ = some (.int .i64 ((a : Nat) : Int)) := World.objAt.cell HR8.out.prs (i := 1) rfl
    have f1 : w8.frozen? ⟨B, 1, none⟩ = false := World.objAt.free HR8.out.prs 1
    go_wp2_with fail
    have hka := HR8.out.keep
    refine (HG.out _ HR8.out.prs).mono ?_
    rintro e wg ⟨A, nv, cv, rfl, hR, hp, hk⟩
    have HRg := Lib.hid (HR8.out.to hp.out hk.out)
    have HKA := Lib.hid hka
    clear HR8 hp hk hka
    try clear c0 c1 f1
    have c0 : wg.cell? ⟨B, 0, none⟩ = some (.string s) := World.objAt.cell HRg.out.prs (i := 0) rfl
    have c1 : wg.cell? ⟨B, 1, none⟩ = some (.int .i64 ((k : Nat) : Int)) := World.objAt.cell HRg.out.prs (i := 1) rfl
    have f1 : wg.frozen? ⟨B, 1, none⟩ = false := World.objAt.free HRg.out.prs 1
    go_wp2_with fail
    refine (HCL.out _ HRg.out.prs).mono ?_
    rintro e wz ⟨rfl, hp, hk⟩
    have HRz := Lib.hid (HRg.out.to hp.out hk.out)
    clear HRg hp c0 c1 f1
    go_wp2
    go_ret3
    exact ⟨_, _, rfl, ⟨_, _, HKA, hR, hk⟩, Lib.hid HRz.out.prs, Lib.hid HRz.out.keep⟩
  · go_wp2_with fail
    refine (HOP.out _ HR7.out.prs).mono ?_
    rintro e w8 ⟨rfl, hp, hk⟩
    have HR8 := Lib.hid (HR7.out.to (show Prs d w8 B s (a) from hp.out) hk.out)
    clear HR7 hp hk
    try clear c0 c1 f1
    have c0 : w8.cell? ⟨B, 0, none⟩ = some (.string s) := World.objAt.cell HR8.out.prs (i := 0) rfl
    have c1 : w8.cell? ⟨B, 1, none⟩ = some (.int .i64 ((a : Nat) : Int)) := World.objAt.cell HR8.out.prs (i := 1) rfl
    have f1 : w8.frozen? ⟨B, 1, none⟩ = false := World.objAt.free HR8.out.prs 1
    go_wp2_with fail
    have hka := HR8.out.keep
    refine (HG.out _ HR8.out.prs).mono ?_
    rintro e wg ⟨A, nv, cv, rfl, hR, hp, hk⟩
    have HRg := Lib.hid (HR8.out.to hp.out hk.out)
    have HKA := Lib.hid hka
    clear HR8 hp hk hka
    try clear c0 c1 f1
    have c0 : wg.cell? ⟨B, 0, none⟩ = some (.string s) := World.objAt.cell HRg.out.prs (i := 0) rfl
    have c1 : wg.cell? ⟨B, 1, none⟩ = some (.int .i64 ((k : Nat) : Int)) := World.objAt.cell HRg.out.prs (i := 1) rfl
    have f1 : wg.frozen? ⟨B, 1, none⟩ = false := World.objAt.free HRg.out.prs 1
    go_wp2_with fail
    refine (HCL.out _ HRg.out.prs).mono ?_
    rintro e wz ⟨rfl, hp, hk⟩
    have HRz := Lib.hid (HRg.out.to hp.out hk.out)
    clear HRg hp c0 c1 f1
    go_wp2
    go_ret3
    exact ⟨_, _, rfl, ⟨_, _, HKA, hR, hk⟩, Lib.hid HRz.out.prs, Lib.hid HRz.out.keep⟩
set_option maxRecDepth 100000 in
set_option maxHeartbeats 800000000 in
theorem psNth (s : ByteArray) (B i j k : Nat) (w : World) (hs : s.size ≤ 9000) (h : Prs d w B s i) (hi : i < s.size) (hx : nx s i = 58) (hj : i + 1 < j) (hjs : j ≤ s.size) (hx1 : nx s (i + 1) ≠ 58) (y : ByteArray) (hysz : y.size ≤ 1000) (hy : lowS y = ⟨#[110, 116, 104, 45, 99, 104, 105, 108, 100]⟩ ∨ lowS y = ⟨#[110, 116, 104, 45, 108, 97, 115, 116, 45, 99, 104, 105, 108, 100]⟩ ∨ lowS y = ⟨#[110, 116, 104, 45, 111, 102, 45, 116, 121, 112, 101]⟩ ∨ lowS y = ⟨#[110, 116, 104, 45, 108, 97, 115, 116, 45, 111, 102, 45, 116, 121, 112, 101]⟩)
    (hN : ∀ w', Prs d w' B s (i + 1) → Calls Tryz.prog 51 #[.pointer (some ⟨B, 0, none⟩)] w' (NmIs d s B j y w')) (h40 : nx s j = 40) (hnw : NoWs s (j + 1)) (hk : j < k) (hks : k < s.size) (h41 : nx s k = 41)
    (hT : ∀ w', Prs d w' B s (j + 1) → Calls Tryz.prog 59 #[.pointer (some ⟨B, 0, none⟩)] w' (NthRead d s B k w')) :
    Calls Tryz.prog 45 #[.pointer (some ⟨B, 0, none⟩)] w (PsRead PlainPs d s B (k + 1) w) := by
  obtain ⟨q, hq⟩ : ∃ q, i + 1 = q := ⟨_, rfl⟩
  have hqI : (i : Int) + 1 = (q : Int) := by omega
  rw [hq] at hx1 hN hj
  have hi1 : q < s.size := by omega
  have hR0 : PK d w w B s i := PK.start h
  have HR0 := Lib.hid hR0
  have HN := Lib.hid hN
  obtain ⟨a, ha⟩ : ∃ a, j + 1 = a := ⟨_, rfl⟩
  rw [ha] at hnw hT
  have HOP := Lib.hid (show ∀ w' (h' : Prs d w' B s j), Calls Tryz.prog 55 #[.pointer (some ⟨B, 0, none⟩)] w' (TookPost d s B a w') by rw [← ha]; exact fun w' h' => openParen_any s B j w' hs h' (by omega) h40 (by rw [ha]; exact hnw))
  have HCL := Lib.hid (fun w' (h' : Prs d w' B s k) => closeParen_any s B k w' hs h' (by omega) h41)
  have HT := Lib.hid hT
  have e58 : (s[i].toNat : Int) = 58 := by rw [← nx_lt hi, hx]
  have e59 : ((s[q].toNat : Int) == 58) = false := by rw [← nx_lt hi1]; simpa using hx1
  have fia : decide ((s.size : Int) ≤ ((i : Nat) : Int)) = false := by simp; omega
  have fib : decide (s.size ≤ i) = false := by simp; omega
  have fja : decide ((s.size : Int) ≤ ((q : Nat) : Int)) = false := by simp; omega
  have fjb : decide (s.size ≤ q) = false := by simp; omega
  clear hR0 h hN hx hx1 h40 hnw h41 hT
  try clear c0 c1 f1
  have c0 : w.cell? ⟨B, 0, none⟩ = some (.string s) := World.objAt.cell HR0.out.prs (i := 0) rfl
  have c1 : w.cell? ⟨B, 1, none⟩ = some (.int .i64 ((i : Nat) : Int)) := World.objAt.cell HR0.out.prs (i := 1) rfl
  have f1 : w.frozen? ⟨B, 1, none⟩ = false := World.objAt.free HR0.out.prs 1
  go_enter Tryz.func45, Tryz.ntmps45
  go_wp2
  go_quiet (fail)
  obtain ⟨w1, hw1⟩ : ∃ w1, (w.drewN nq) = w1 := ⟨_, rfl⟩
  have HR1 := Lib.hid (show PK d w w1 B s (i) by rw [← hw1]; exact HR0.out.drew nq)
  rw [hw1]
  clear hw1 HR0 nq
  try clear c0 c1 f1
  have c0 : w1.cell? ⟨B, 0, none⟩ = some (.string s) := World.objAt.cell HR1.out.prs (i := 0) rfl
  have c1 : w1.cell? ⟨B, 1, none⟩ = some (.int .i64 ((i : Nat) : Int)) := World.objAt.cell HR1.out.prs (i := 1) rfl
  have f1 : w1.frozen? ⟨B, 1, none⟩ = false := World.objAt.free HR1.out.prs 1
  go_wp2
  go_quiet (fail)
  obtain ⟨w2, hw2⟩ : ∃ w2, (w1.drewN nq) = w2 := ⟨_, rfl⟩
  have HR2 := Lib.hid (show PK d w w2 B s (i) by rw [← hw2]; exact HR1.out.drew nq)
  rw [hw2]
  clear hw2 HR1 nq
  try clear c0 c1 f1
  have c0 : w2.cell? ⟨B, 0, none⟩ = some (.string s) := World.objAt.cell HR2.out.prs (i := 0) rfl
  have c1 : w2.cell? ⟨B, 1, none⟩ = some (.int .i64 ((i : Nat) : Int)) := World.objAt.cell HR2.out.prs (i := 1) rfl
  have f1 : w2.frozen? ⟨B, 1, none⟩ = false := World.objAt.free HR2.out.prs 1

  go_wp2
  have HR3 := Lib.hid (HR2.out.at (q))
  clear HR2 c0 c1 f1
  obtain ⟨ws, hws⟩ : ∃ ws, (w2.setCell ⟨B, 1, none⟩ (.int .i64 (q : Int))) = ws := ⟨_, rfl⟩
  have HRs := Lib.hid (show PK d w ws B s q by rw [← hws]; exact HR3.out)
  rw [hws]
  clear hws HR3
  try clear c0 c1 f1
  have c0 : ws.cell? ⟨B, 0, none⟩ = some (.string s) := World.objAt.cell HRs.out.prs (i := 0) rfl
  have c1 : ws.cell? ⟨B, 1, none⟩ = some (.int .i64 ((q : Nat) : Int)) := World.objAt.cell HRs.out.prs (i := 1) rfl
  have f1 : ws.frozen? ⟨B, 1, none⟩ = false := World.objAt.free HRs.out.prs 1
  go_wp2
  go_quiet (fail)
  obtain ⟨w4, hw4⟩ : ∃ w4, (ws.drewN nq) = w4 := ⟨_, rfl⟩
  have HR4 := Lib.hid (show PK d w w4 B s (q) by rw [← hw4]; exact HRs.out.drew nq)
  rw [hw4]
  clear hw4 HRs nq
  try clear c0 c1 f1
  have c0 : w4.cell? ⟨B, 0, none⟩ = some (.string s) := World.objAt.cell HR4.out.prs (i := 0) rfl
  have c1 : w4.cell? ⟨B, 1, none⟩ = some (.int .i64 ((q : Nat) : Int)) := World.objAt.cell HR4.out.prs (i := 1) rfl
  have f1 : w4.frozen? ⟨B, 1, none⟩ = false := World.objAt.free HR4.out.prs 1
  go_wp2
  go_quiet (fail)
  obtain ⟨w5, hw5⟩ : ∃ w5, (w4.drewN nq) = w5 := ⟨_, rfl⟩
  have HR5 := Lib.hid (show PK d w w5 B s (q) by rw [← hw5]; exact HR4.out.drew nq)
  rw [hw5]
  clear hw5 HR4 nq
  try clear c0 c1 f1
  have c0 : w5.cell? ⟨B, 0, none⟩ = some (.string s) := World.objAt.cell HR5.out.prs (i := 0) rfl
  have c1 : w5.cell? ⟨B, 1, none⟩ = some (.int .i64 ((q : Nat) : Int)) := World.objAt.cell HR5.out.prs (i := 1) rfl
  have f1 : w5.frozen? ⟨B, 1, none⟩ = false := World.objAt.free HR5.out.prs 1
  go_wp2_with fail
  refine (HN.out _ HR5.out.prs).mono ?_
  rintro e w6 ⟨rfl, hp, hk⟩
  have HR6 := Lib.hid (HR5.out.to (show Prs d w6 B s (j) from hp.out) hk.out)
  clear HR5 hp hk
  go_wp2_with fail
  refine (lowA_any y _ (by omega)).mono ?_
  rintro e w7 ⟨rfl, hbw⟩
  have HR7 := Lib.hid (HR6.out.below hbw.out)
  clear HR6 hbw
  obtain ⟨yl, hyl⟩ : ∃ yl, lowS y = yl := ⟨_, rfl⟩
  rw [hyl]
  rw [hyl] at hy
  try clear c0 c1 f1
  have c0 : w7.cell? ⟨B, 0, none⟩ = some (.string s) := World.objAt.cell HR7.out.prs (i := 0) rfl
  have c1 : w7.cell? ⟨B, 1, none⟩ = some (.int .i64 ((j : Nat) : Int)) := World.objAt.cell HR7.out.prs (i := 1) rfl
  have f1 : w7.frozen? ⟨B, 1, none⟩ = false := World.objAt.free HR7.out.prs 1
  rcases hy with rfl | rfl | rfl | rfl
  · go_wp2_with fail
    refine (HOP.out _ HR7.out.prs).mono ?_
    rintro e w8 ⟨rfl, hp, hk⟩
    have HR8 := Lib.hid (HR7.out.to (show Prs d w8 B s (a) from hp.out) hk.out)
    clear HR7 hp hk
    try clear c0 c1 f1
    have c0 : w8.cell? ⟨B, 0, none⟩ = some (.string s) := World.objAt.cell HR8.out.prs (i := 0) rfl
    have c1 : w8.cell? ⟨B, 1, none⟩ = some (.int .i64 ((a : Nat) : Int)) := World.objAt.cell HR8.out.prs (i := 1) rfl
    have f1 : w8.frozen? ⟨B, 1, none⟩ = false := World.objAt.free HR8.out.prs 1
    go_wp2_with fail
    refine (HT.out _ HR8.out.prs).mono ?_
    rintro e w9 ⟨va, vb, rfl, hp, hk⟩
    have HR9 := Lib.hid (HR8.out.to (show Prs d w9 B s (k) from hp.out) hk.out)
    clear HR8 hp hk
    try clear c0 c1 f1
    have c0 : w9.cell? ⟨B, 0, none⟩ = some (.string s) := World.objAt.cell HR9.out.prs (i := 0) rfl
    have c1 : w9.cell? ⟨B, 1, none⟩ = some (.int .i64 ((k : Nat) : Int)) := World.objAt.cell HR9.out.prs (i := 1) rfl
    have f1 : w9.frozen? ⟨B, 1, none⟩ = false := World.objAt.free HR9.out.prs 1
    go_wp2_with fail
    refine (HCL.out _ HR9.out.prs).mono ?_
    rintro e w10 ⟨rfl, hp, hk⟩
    have HR10 := Lib.hid (HR9.out.to (show Prs d w10 B s (k + 1) from hp.out) hk.out)
    clear HR9 hp hk
    go_wp2
    go_ret3
    exact ⟨_, _, rfl, by unfold PlainPs; simp, Lib.hid HR10.out.prs, Lib.hid HR10.out.keep⟩
  · go_wp2_with fail
    refine (HOP.out _ HR7.out.prs).mono ?_
    rintro e w8 ⟨rfl, hp, hk⟩
    have HR8 := Lib.hid (HR7.out.to (show Prs d w8 B s (a) from hp.out) hk.out)
    clear HR7 hp hk
    try clear c0 c1 f1
    have c0 : w8.cell? ⟨B, 0, none⟩ = some (.string s) := World.objAt.cell HR8.out.prs (i := 0) rfl
    have c1 : w8.cell? ⟨B, 1, none⟩ = some (.int .i64 ((a : Nat) : Int)) := World.objAt.cell HR8.out.prs (i := 1) rfl
    have f1 : w8.frozen? ⟨B, 1, none⟩ = false := World.objAt.free HR8.out.prs 1
    go_wp2_with fail
    refine (HT.out _ HR8.out.prs).mono ?_
    rintro e w9 ⟨va, vb, rfl, hp, hk⟩
    have HR9 := Lib.hid (HR8.out.to (show Prs d w9 B s (k) from hp.out) hk.out)
    clear HR8 hp hk
    try clear c0 c1 f1
    have c0 : w9.cell? ⟨B, 0, none⟩ = some (.string s) := World.objAt.cell HR9.out.prs (i := 0) rfl
    have c1 : w9.cell? ⟨B, 1, none⟩ = some (.int .i64 ((k : Nat) : Int)) := World.objAt.cell HR9.out.prs (i := 1) rfl
    have f1 : w9.frozen? ⟨B, 1, none⟩ = false := World.objAt.free HR9.out.prs 1
    go_wp2_with fail
    refine (HCL.out _ HR9.out.prs).mono ?_
    rintro e w10 ⟨rfl, hp, hk⟩
    have HR10 := Lib.hid (HR9.out.to (show Prs d w10 B s (k + 1) from hp.out) hk.out)
    clear HR9 hp hk
    go_wp2
    go_ret3
    exact ⟨_, _, rfl, by unfold PlainPs; simp, Lib.hid HR10.out.prs, Lib.hid HR10.out.keep⟩
  · go_wp2_with fail
    refine (HOP.out _ HR7.out.prs).mono ?_
    rintro e w8 ⟨rfl, hp, hk⟩
    have HR8 := Lib.hid (HR7.out.to (show Prs d w8 B s (a) from hp.out) hk.out)
    clear HR7 hp hk
    try clear c0 c1 f1
    have c0 : w8.cell? ⟨B, 0, none⟩ = some (.string s) := World.objAt.cell HR8.out.prs (i := 0) rfl
    have c1 : w8.cell? ⟨B, 1, none⟩ = some (.int .i64 ((a : Nat) : Int)) := World.objAt.cell HR8.out.prs (i := 1) rfl
    have f1 : w8.frozen? ⟨B, 1, none⟩ = false := World.objAt.free HR8.out.prs 1
    go_wp2_with fail
    refine (HT.out _ HR8.out.prs).mono ?_
    rintro e w9 ⟨va, vb, rfl, hp, hk⟩
    have HR9 := Lib.hid (HR8.out.to (show Prs d w9 B s (k) from hp.out) hk.out)
    clear HR8 hp hk
    try clear c0 c1 f1
    have c0 : w9.cell? ⟨B, 0, none⟩ = some (.string s) := World.objAt.cell HR9.out.prs (i := 0) rfl
    have c1 : w9.cell? ⟨B, 1, none⟩ = some (.int .i64 ((k : Nat) : Int)) := World.objAt.cell HR9.out.prs (i := 1) rfl
    have f1 : w9.frozen? ⟨B, 1, none⟩ = false := World.objAt.free HR9.out.prs 1
    go_wp2_with fail
    refine (HCL.out _ HR9.out.prs).mono ?_
    rintro e w10 ⟨rfl, hp, hk⟩
    have HR10 := Lib.hid (HR9.out.to (show Prs d w10 B s (k + 1) from hp.out) hk.out)
    clear HR9 hp hk
    go_wp2
    go_ret3
    exact ⟨_, _, rfl, by unfold PlainPs; simp, Lib.hid HR10.out.prs, Lib.hid HR10.out.keep⟩
  · go_wp2_with fail
    refine (HOP.out _ HR7.out.prs).mono ?_
    rintro e w8 ⟨rfl, hp, hk⟩
    have HR8 := Lib.hid (HR7.out.to (show Prs d w8 B s (a) from hp.out) hk.out)
    clear HR7 hp hk
    try clear c0 c1 f1
    have c0 : w8.cell? ⟨B, 0, none⟩ = some (.string s) := World.objAt.cell HR8.out.prs (i := 0) rfl
    have c1 : w8.cell? ⟨B, 1, none⟩ = some (.int .i64 ((a : Nat) : Int)) := World.objAt.cell HR8.out.prs (i := 1) rfl
    have f1 : w8.frozen? ⟨B, 1, none⟩ = false := World.objAt.free HR8.out.prs 1
    go_wp2_with fail
    refine (HT.out _ HR8.out.prs).mono ?_
    rintro e w9 ⟨va, vb, rfl, hp, hk⟩
    have HR9 := Lib.hid (HR8.out.to (show Prs d w9 B s (k) from hp.out) hk.out)
    clear HR8 hp hk
    try clear c0 c1 f1
    have c0 : w9.cell? ⟨B, 0, none⟩ = some (.string s) := World.objAt.cell HR9.out.prs (i := 0) rfl
    have c1 : w9.cell? ⟨B, 1, none⟩ = some (.int .i64 ((k : Nat) : Int)) := World.objAt.cell HR9.out.prs (i := 1) rfl
    have f1 : w9.frozen? ⟨B, 1, none⟩ = false := World.objAt.free HR9.out.prs 1
    go_wp2_with fail
    refine (HCL.out _ HR9.out.prs).mono ?_
    rintro e w10 ⟨rfl, hp, hk⟩
    have HR10 := Lib.hid (HR9.out.to (show Prs d w10 B s (k + 1) from hp.out) hk.out)
    clear HR9 hp hk
    go_wp2
    go_ret3
    exact ⟨_, _, rfl, by unfold PlainPs; simp, Lib.hid HR10.out.prs, Lib.hid HR10.out.keep⟩
variable {d : Int}
set_option maxRecDepth 100000 in
set_option maxHeartbeats 800000000 in
theorem psCon (s : ByteArray) (B i j k : Nat) (w : World) (hs : s.size ≤ 9000) (h : Prs d w B s i) (hi : i < s.size) (hx : nx s i = 58) (hj : i + 1 < j) (hjs : j ≤ s.size) (hx1 : nx s (i + 1) ≠ 58) (y : ByteArray) (hysz : y.size ≤ 1000) (hy : lowS y = ⟨#[99, 111, 110, 116, 97, 105, 110, 115]⟩ ∨ lowS y = ⟨#[99, 111, 110, 116, 97, 105, 110, 115, 111, 119, 110]⟩)
    (hN : ∀ w', Prs d w' B s (i + 1) → Calls Tryz.prog 51 #[.pointer (some ⟨B, 0, none⟩)] w' (NmIs d s B j y w')) (h40 : nx s j = 40) (hnw : NoWs s (j + 1)) (h34 : nx s (j + 1) = 34) (hqr : QRun s (j + 1 + 1) k) (hqk : j + 1 + 1 ≤ k) (hks : k + 1 < s.size) (h41 : nx s (k + 1) = 41) :
    Calls Tryz.prog 45 #[.pointer (some ⟨B, 0, none⟩)] w (PsRead PlainPs d s B (k + 2) w) := by
  obtain ⟨q, hq⟩ : ∃ q, i + 1 = q := ⟨_, rfl⟩
  have hqI : (i : Int) + 1 = (q : Int) := by omega
  rw [hq] at hx1 hN hj
  have hi1 : q < s.size := by omega
  have hR0 : PK d w w B s i := PK.start h
  have HR0 := Lib.hid hR0
  have HN := Lib.hid hN
  obtain ⟨a, ha⟩ : ∃ a, j + 1 = a := ⟨_, rfl⟩
  rw [ha] at hnw h34 hqr hqk
  have has : a < s.size := by omega
  have faa : decide ((s.size : Int) ≤ ((a : Nat) : Int)) = false := by simp; omega
  have fab : decide (s.size ≤ a) = false := by simp; omega
  have fae : ((a : Int) == (s.size : Int)) = false := by simp; omega
  obtain ⟨b, hb⟩ : ∃ b, k + 1 = b := ⟨_, rfl⟩
  rw [hb] at h41 hks
  rw [show k + 2 = b + 1 by omega]
  have e_a : (s[a].toNat : Int) = 34 := by rw [← nx_lt has, h34]
  have HSTR := Lib.hid (show ∀ w' (h' : Prs d w' B s a), Calls Tryz.prog 54 #[.pointer (some ⟨B, 0, none⟩)] w' (StrRead d s B b w') by rw [← hb]; exact fun w' h' => parseString_any s B a k w' hs h' h34 hqr)
  have fba : decide ((s.size : Int) ≤ ((b : Nat) : Int)) = false := by simp; omega
  have fbb : decide (s.size ≤ b) = false := by simp; omega
  have HOP := Lib.hid (show ∀ w' (h' : Prs d w' B s j), Calls Tryz.prog 55 #[.pointer (some ⟨B, 0, none⟩)] w' (TookPost d s B a w') by rw [← ha]; exact fun w' h' => openParen_any s B j w' hs h' (by omega) h40 (by rw [ha]; exact hnw))
  have HCL := Lib.hid (fun w' (h' : Prs d w' B s b) => closeParen_any s B b w' hs h' (by omega) h41)
  have HSK := Lib.hid (fun w' (h' : Prs d w' B s b) => skipWs_any s B b 0 w' hs h' (by omega) (fun j hj => absurd hj (by omega)) (by unfold NoWs; rw [Nat.add_zero, h41]; decide))
  have e58 : (s[i].toNat : Int) = 58 := by rw [← nx_lt hi, hx]
  have e59 : ((s[q].toNat : Int) == 58) = false := by rw [← nx_lt hi1]; simpa using hx1
  have fia : decide ((s.size : Int) ≤ ((i : Nat) : Int)) = false := by simp; omega
  have fib : decide (s.size ≤ i) = false := by simp; omega
  have fja : decide ((s.size : Int) ≤ ((q : Nat) : Int)) = false := by simp; omega
  have fjb : decide (s.size ≤ q) = false := by simp; omega
  clear hR0 h hN hx hx1 h40 hnw h41 h34 hqr
  try clear c0 c1 f1
  have c0 : w.cell? ⟨B, 0, none⟩ = some (.string s) := World.objAt.cell HR0.out.prs (i := 0) rfl
  have c1 : w.cell? ⟨B, 1, none⟩ = some (.int .i64 ((i : Nat) : Int)) := World.objAt.cell HR0.out.prs (i := 1) rfl
  have f1 : w.frozen? ⟨B, 1, none⟩ = false := World.objAt.free HR0.out.prs 1
  go_enter Tryz.func45, Tryz.ntmps45
  go_wp2
  go_quiet (fail)
  obtain ⟨w1, hw1⟩ : ∃ w1, (w.drewN nq) = w1 := ⟨_, rfl⟩
  have HR1 := Lib.hid (show PK d w w1 B s (i) by rw [← hw1]; exact HR0.out.drew nq)
  rw [hw1]
  clear hw1 HR0 nq
  try clear c0 c1 f1
  have c0 : w1.cell? ⟨B, 0, none⟩ = some (.string s) := World.objAt.cell HR1.out.prs (i := 0) rfl
  have c1 : w1.cell? ⟨B, 1, none⟩ = some (.int .i64 ((i : Nat) : Int)) := World.objAt.cell HR1.out.prs (i := 1) rfl
  have f1 : w1.frozen? ⟨B, 1, none⟩ = false := World.objAt.free HR1.out.prs 1
  go_wp2
  go_quiet (fail)
  obtain ⟨w2, hw2⟩ : ∃ w2, (w1.drewN nq) = w2 := ⟨_, rfl⟩
  have HR2 := Lib.hid (show PK d w w2 B s (i) by rw [← hw2]; exact HR1.out.drew nq)
  rw [hw2]
  clear hw2 HR1 nq
  try clear c0 c1 f1
  have c0 : w2.cell? ⟨B, 0, none⟩ = some (.string s) := World.objAt.cell HR2.out.prs (i := 0) rfl
  have c1 : w2.cell? ⟨B, 1, none⟩ = some (.int .i64 ((i : Nat) : Int)) := World.objAt.cell HR2.out.prs (i := 1) rfl
  have f1 : w2.frozen? ⟨B, 1, none⟩ = false := World.objAt.free HR2.out.prs 1

  go_wp2
  have HR3 := Lib.hid (HR2.out.at (q))
  clear HR2 c0 c1 f1
  obtain ⟨ws, hws⟩ : ∃ ws, (w2.setCell ⟨B, 1, none⟩ (.int .i64 (q : Int))) = ws := ⟨_, rfl⟩
  have HRs := Lib.hid (show PK d w ws B s q by rw [← hws]; exact HR3.out)
  rw [hws]
  clear hws HR3
  try clear c0 c1 f1
  have c0 : ws.cell? ⟨B, 0, none⟩ = some (.string s) := World.objAt.cell HRs.out.prs (i := 0) rfl
  have c1 : ws.cell? ⟨B, 1, none⟩ = some (.int .i64 ((q : Nat) : Int)) := World.objAt.cell HRs.out.prs (i := 1) rfl
  have f1 : ws.frozen? ⟨B, 1, none⟩ = false := World.objAt.free HRs.out.prs 1
  go_wp2
  go_quiet (fail)
  obtain ⟨w4, hw4⟩ : ∃ w4, (ws.drewN nq) = w4 := ⟨_, rfl⟩
  have HR4 := Lib.hid (show PK d w w4 B s (q) by rw [← hw4]; exact HRs.out.drew nq)
  rw [hw4]
  clear hw4 HRs nq
  try clear c0 c1 f1
  have c0 : w4.cell? ⟨B, 0, none⟩ = some (.string s) := World.objAt.cell HR4.out.prs (i := 0) rfl
  have c1 : w4.cell? ⟨B, 1, none⟩ = some (.int .i64 ((q : Nat) : Int)) := World.objAt.cell HR4.out.prs (i := 1) rfl
  have f1 : w4.frozen? ⟨B, 1, none⟩ = false := World.objAt.free HR4.out.prs 1
  go_wp2
  go_quiet (fail)
  obtain ⟨w5, hw5⟩ : ∃ w5, (w4.drewN nq) = w5 := ⟨_, rfl⟩
  have HR5 := Lib.hid (show PK d w w5 B s (q) by rw [← hw5]; exact HR4.out.drew nq)
  rw [hw5]
  clear hw5 HR4 nq
  try clear c0 c1 f1
  have c0 : w5.cell? ⟨B, 0, none⟩ = some (.string s) := World.objAt.cell HR5.out.prs (i := 0) rfl
  have c1 : w5.cell? ⟨B, 1, none⟩ = some (.int .i64 ((q : Nat) : Int)) := World.objAt.cell HR5.out.prs (i := 1) rfl
  have f1 : w5.frozen? ⟨B, 1, none⟩ = false := World.objAt.free HR5.out.prs 1
  go_wp2_with fail
  refine (HN.out _ HR5.out.prs).mono ?_
  rintro e w6 ⟨rfl, hp, hk⟩
  have HR6 := Lib.hid (HR5.out.to (show Prs d w6 B s (j) from hp.out) hk.out)
  clear HR5 hp hk
  go_wp2_with fail
  refine (lowA_any y _ (by omega)).mono ?_
  rintro e w7 ⟨rfl, hbw⟩
  have HR7 := Lib.hid (HR6.out.below hbw.out)
  clear HR6 hbw
  obtain ⟨yl, hyl⟩ : ∃ yl, lowS y = yl := ⟨_, rfl⟩
  rw [hyl]
  rw [hyl] at hy
  try clear c0 c1 f1
  have c0 : w7.cell? ⟨B, 0, none⟩ = some (.string s) := World.objAt.cell HR7.out.prs (i := 0) rfl
  have c1 : w7.cell? ⟨B, 1, none⟩ = some (.int .i64 ((j : Nat) : Int)) := World.objAt.cell HR7.out.prs (i := 1) rfl
  have f1 : w7.frozen? ⟨B, 1, none⟩ = false := World.objAt.free HR7.out.prs 1
  rcases hy with rfl | rfl
  · go_wp2_with fail
    refine (HOP.out _ HR7.out.prs).mono ?_
    rintro e w8 ⟨rfl, hp, hk⟩
    have HR8 := Lib.hid (HR7.out.to (show Prs d w8 B s (a) from hp.out) hk.out)
    clear HR7 hp hk
    try clear c0 c1 f1
    have c0 : w8.cell? ⟨B, 0, none⟩ = some (.string s) := World.objAt.cell HR8.out.prs (i := 0) rfl
    have c1 : w8.cell? ⟨B, 1, none⟩ = some (.int .i64 ((a : Nat) : Int)) := World.objAt.cell HR8.out.prs (i := 1) rfl
    have f1 : w8.frozen? ⟨B, 1, none⟩ = false := World.objAt.free HR8.out.prs 1
    go_wp2
    go_quiet (fail)
    obtain ⟨w9, hw9⟩ : ∃ w9, (w8.drewN nq) = w9 := ⟨_, rfl⟩
    have HR9 := Lib.hid (show PK d w w9 B s (a) by rw [← hw9]; exact HR8.out.drew nq)
    rw [hw9]
    clear hw9 HR8 nq
    try clear c0 c1 f1
    have c0 : w9.cell? ⟨B, 0, none⟩ = some (.string s) := World.objAt.cell HR9.out.prs (i := 0) rfl
    have c1 : w9.cell? ⟨B, 1, none⟩ = some (.int .i64 ((a : Nat) : Int)) := World.objAt.cell HR9.out.prs (i := 1) rfl
    have f1 : w9.frozen? ⟨B, 1, none⟩ = false := World.objAt.free HR9.out.prs 1
    go_wp2
    go_quiet (fail)
    obtain ⟨w10, hw10⟩ : ∃ w10, (w9.drewN nq) = w10 := ⟨_, rfl⟩
    have HR10 := Lib.hid (show PK d w w10 B s (a) by rw [← hw10]; exact HR9.out.drew nq)
    rw [hw10]
    clear hw10 HR9 nq
    try clear c0 c1 f1
    have c0 : w10.cell? ⟨B, 0, none⟩ = some (.string s) := World.objAt.cell HR10.out.prs (i := 0) rfl
    have c1 : w10.cell? ⟨B, 1, none⟩ = some (.int .i64 ((a : Nat) : Int)) := World.objAt.cell HR10.out.prs (i := 1) rfl
    have f1 : w10.frozen? ⟨B, 1, none⟩ = false := World.objAt.free HR10.out.prs 1
    go_wp2_with fail
    refine (HSTR.out _ HR10.out.prs).mono ?_
    rintro e w11 ⟨z, rfl, hz, hp, hk⟩
    have HR11 := Lib.hid (HR10.out.to (show Prs d w11 B s (b) from hp.out) hk.out)
    clear HR10 hp hk
    try clear c0 c1 f1
    have c0 : w11.cell? ⟨B, 0, none⟩ = some (.string s) := World.objAt.cell HR11.out.prs (i := 0) rfl
    have c1 : w11.cell? ⟨B, 1, none⟩ = some (.int .i64 ((b : Nat) : Int)) := World.objAt.cell HR11.out.prs (i := 1) rfl
    have f1 : w11.frozen? ⟨B, 1, none⟩ = false := World.objAt.free HR11.out.prs 1
    go_wp2_with fail
    refine (zzLower_any z _ (by omega)).mono ?_
    rintro e w12 ⟨z2, rfl, _, hbw⟩
    have HR12 := Lib.hid (HR11.out.below hbw)
    clear HR11 hbw
  
    try clear c0 c1 f1
    have c0 : w12.cell? ⟨B, 0, none⟩ = some (.string s) := World.objAt.cell HR12.out.prs (i := 0) rfl
    have c1 : w12.cell? ⟨B, 1, none⟩ = some (.int .i64 ((b : Nat) : Int)) := World.objAt.cell HR12.out.prs (i := 1) rfl
    have f1 : w12.frozen? ⟨B, 1, none⟩ = false := World.objAt.free HR12.out.prs 1
    go_wp2_with fail
    refine (HSK.out _ HR12.out.prs).mono ?_
    rintro e w13 ⟨rfl, hp, hk⟩
    have HR13 := Lib.hid (HR12.out.to (show Prs d w13 B s (b) from hp.out) hk.out)
    clear HR12 hp hk
    try clear c0 c1 f1
    have c0 : w13.cell? ⟨B, 0, none⟩ = some (.string s) := World.objAt.cell HR13.out.prs (i := 0) rfl
    have c1 : w13.cell? ⟨B, 1, none⟩ = some (.int .i64 ((b : Nat) : Int)) := World.objAt.cell HR13.out.prs (i := 1) rfl
    have f1 : w13.frozen? ⟨B, 1, none⟩ = false := World.objAt.free HR13.out.prs 1
    go_wp2
    go_quiet (fail)
    obtain ⟨w14, hw14⟩ : ∃ w14, (w13.drewN nq) = w14 := ⟨_, rfl⟩
    have HR14 := Lib.hid (show PK d w w14 B s (b) by rw [← hw14]; exact HR13.out.drew nq)
    rw [hw14]
    clear hw14 HR13 nq
    try clear c0 c1 f1
    have c0 : w14.cell? ⟨B, 0, none⟩ = some (.string s) := World.objAt.cell HR14.out.prs (i := 0) rfl
    have c1 : w14.cell? ⟨B, 1, none⟩ = some (.int .i64 ((b : Nat) : Int)) := World.objAt.cell HR14.out.prs (i := 1) rfl
    have f1 : w14.frozen? ⟨B, 1, none⟩ = false := World.objAt.free HR14.out.prs 1
    go_wp2_with fail
    refine (HCL.out _ HR14.out.prs).mono ?_
    rintro e w15 ⟨rfl, hp, hk⟩
    have HR15 := Lib.hid (HR14.out.to (show Prs d w15 B s (b + 1) from hp.out) hk.out)
    clear HR14 hp hk
    go_wp2
    go_ret3
    exact ⟨_, _, rfl, by unfold PlainPs; simp, Lib.hid HR15.out.prs, Lib.hid HR15.out.keep⟩
  · go_wp2_with fail
    refine (HOP.out _ HR7.out.prs).mono ?_
    rintro e w8 ⟨rfl, hp, hk⟩
    have HR8 := Lib.hid (HR7.out.to (show Prs d w8 B s (a) from hp.out) hk.out)
    clear HR7 hp hk
    try clear c0 c1 f1
    have c0 : w8.cell? ⟨B, 0, none⟩ = some (.string s) := World.objAt.cell HR8.out.prs (i := 0) rfl
    have c1 : w8.cell? ⟨B, 1, none⟩ = some (.int .i64 ((a : Nat) : Int)) := World.objAt.cell HR8.out.prs (i := 1) rfl
    have f1 : w8.frozen? ⟨B, 1, none⟩ = false := World.objAt.free HR8.out.prs 1
    go_wp2
    go_quiet (fail)
    obtain ⟨w9, hw9⟩ : ∃ w9, (w8.drewN nq) = w9 := ⟨_, rfl⟩
    have HR9 := Lib.hid (show PK d w w9 B s (a) by rw [← hw9]; exact HR8.out.drew nq)
    rw [hw9]
    clear hw9 HR8 nq
    try clear c0 c1 f1
    have c0 : w9.cell? ⟨B, 0, none⟩ = some (.string s) := World.objAt.cell HR9.out.prs (i := 0) rfl
    have c1 : w9.cell? ⟨B, 1, none⟩ = some (.int .i64 ((a : Nat) : Int)) := World.objAt.cell HR9.out.prs (i := 1) rfl
    have f1 : w9.frozen? ⟨B, 1, none⟩ = false := World.objAt.free HR9.out.prs 1
    go_wp2
    go_quiet (fail)
    obtain ⟨w10, hw10⟩ : ∃ w10, (w9.drewN nq) = w10 := ⟨_, rfl⟩
    have HR10 := Lib.hid (show PK d w w10 B s (a) by rw [← hw10]; exact HR9.out.drew nq)
    rw [hw10]
    clear hw10 HR9 nq
    try clear c0 c1 f1
    have c0 : w10.cell? ⟨B, 0, none⟩ = some (.string s) := World.objAt.cell HR10.out.prs (i := 0) rfl
    have c1 : w10.cell? ⟨B, 1, none⟩ = some (.int .i64 ((a : Nat) : Int)) := World.objAt.cell HR10.out.prs (i := 1) rfl
    have f1 : w10.frozen? ⟨B, 1, none⟩ = false := World.objAt.free HR10.out.prs 1
    go_wp2_with fail
    refine (HSTR.out _ HR10.out.prs).mono ?_
    rintro e w11 ⟨z, rfl, hz, hp, hk⟩
    have HR11 := Lib.hid (HR10.out.to (show Prs d w11 B s (b) from hp.out) hk.out)
    clear HR10 hp hk
    try clear c0 c1 f1
    have c0 : w11.cell? ⟨B, 0, none⟩ = some (.string s) := World.objAt.cell HR11.out.prs (i := 0) rfl
    have c1 : w11.cell? ⟨B, 1, none⟩ = some (.int .i64 ((b : Nat) : Int)) := World.objAt.cell HR11.out.prs (i := 1) rfl
    have f1 : w11.frozen? ⟨B, 1, none⟩ = false := World.objAt.free HR11.out.prs 1
    go_wp2_with fail
    refine (zzLower_any z _ (by omega)).mono ?_
    rintro e w12 ⟨z2, rfl, _, hbw⟩
    have HR12 := Lib.hid (HR11.out.below hbw)
    clear HR11 hbw
  
    try clear c0 c1 f1
    have c0 : w12.cell? ⟨B, 0, none⟩ = some (.string s) := World.objAt.cell HR12.out.prs (i := 0) rfl
    have c1 : w12.cell? ⟨B, 1, none⟩ = some (.int .i64 ((b : Nat) : Int)) := World.objAt.cell HR12.out.prs (i := 1) rfl
    have f1 : w12.frozen? ⟨B, 1, none⟩ = false := World.objAt.free HR12.out.prs 1
    go_wp2_with fail
    refine (HSK.out _ HR12.out.prs).mono ?_
    rintro e w13 ⟨rfl, hp, hk⟩
    have HR13 := Lib.hid (HR12.out.to (show Prs d w13 B s (b) from hp.out) hk.out)
    clear HR12 hp hk
    try clear c0 c1 f1
    have c0 : w13.cell? ⟨B, 0, none⟩ = some (.string s) := World.objAt.cell HR13.out.prs (i := 0) rfl
    have c1 : w13.cell? ⟨B, 1, none⟩ = some (.int .i64 ((b : Nat) : Int)) := World.objAt.cell HR13.out.prs (i := 1) rfl
    have f1 : w13.frozen? ⟨B, 1, none⟩ = false := World.objAt.free HR13.out.prs 1
    go_wp2
    go_quiet (fail)
    obtain ⟨w14, hw14⟩ : ∃ w14, (w13.drewN nq) = w14 := ⟨_, rfl⟩
    have HR14 := Lib.hid (show PK d w w14 B s (b) by rw [← hw14]; exact HR13.out.drew nq)
    rw [hw14]
    clear hw14 HR13 nq
    try clear c0 c1 f1
    have c0 : w14.cell? ⟨B, 0, none⟩ = some (.string s) := World.objAt.cell HR14.out.prs (i := 0) rfl
    have c1 : w14.cell? ⟨B, 1, none⟩ = some (.int .i64 ((b : Nat) : Int)) := World.objAt.cell HR14.out.prs (i := 1) rfl
    have f1 : w14.frozen? ⟨B, 1, none⟩ = false := World.objAt.free HR14.out.prs 1
    go_wp2_with fail
    refine (HCL.out _ HR14.out.prs).mono ?_
    rintro e w15 ⟨rfl, hp, hk⟩
    have HR15 := Lib.hid (HR14.out.to (show Prs d w15 B s (b + 1) from hp.out) hk.out)
    clear HR14 hp hk
    go_wp2
    go_ret3
    exact ⟨_, _, rfl, by unfold PlainPs; simp, Lib.hid HR15.out.prs, Lib.hid HR15.out.keep⟩
variable {d : Int} {l : List SelD}
theorem nwFirst {s : ByteArray} {i : Nat} (h : FirstOk (nx s i)) : NoWs s i := by
  have := h.no
  exact ⟨by omega, by omega, by omega, by omega, by omega, by omega⟩
theorem nwOf {s : ByteArray} {i : Nat} {x : Int} (h : nx s i = x) (h1 : x ≠ 32) (h2 : x ≠ 9) (h3 : x ≠ 13) (h4 : x ≠ 10) (h5 : x ≠ 12) (h6 : x ≠ 47) : NoWs s i := by
  unfold NoWs
  rw [h]
  exact ⟨h1, h2, h3, h4, h5, h6⟩
section
variable {s : ByteArray} {B i k : Nat}
theorem part_class (hT : SelTree l) (hs : s.size ≤ 9000) (hk : k < l.length) (h : kdS l k = 3) (hA : At s i (T l k)) (hst : Stop s (i + (T l k).length)) : PartCalls d s B i (i + (T l k).length) (S l k) := by
  have hx : (l.getD k default).kind = 3 := h
  have hF := hT.fields k hk
  have hS := S_sim hT hk (by omega)
  have hT2 := T_sim hT hk (by omega)
  unfold simL at hT2
  rw [if_neg (by omega), if_neg (by omega), if_pos hx] at hT2
  rw [hT2] at hA hst ⊢
  rw [hS, h]
  have hlen : i + (46 :: namedF (l.getD k default).val).length = i + 1 + (namedF (l.getD k default).val).length := by simp; omega
  rw [hlen] at hst ⊢
  refine .inr (.inl ⟨hA.head, rfl, fun w hp => ?_⟩)
  exact classA s B i _ w hs hp hA.lt hA.head fun w' hp' => ident_reads hs hF.val0 (hF.valued (.inl hx)) hA.tail hst w' hp'
theorem part_id (hT : SelTree l) (hs : s.size ≤ 9000) (hk : k < l.length) (h : kdS l k = 4) (hv : (l.getD k default).val.size ≤ 1000) (hA : At s i (T l k)) (hst : Stop s (i + (T l k).length)) : PartCalls d s B i (i + (T l k).length) (S l k) := by
  have hx : (l.getD k default).kind = 4 := h
  have hF := hT.fields k hk
  have hS := S_sim hT hk (by omega)
  have hT2 := T_sim hT hk (by omega)
  unfold simL at hT2
  rw [if_neg (by omega), if_neg (by omega), if_neg (by omega), if_pos hx] at hT2
  rw [hT2] at hA hst ⊢
  rw [hS, h]
  have hlen : i + (35 :: namedF (l.getD k default).val).length = i + 1 + (namedF (l.getD k default).val).length := by simp; omega
  rw [hlen] at hst ⊢
  refine .inl ⟨hA.head, rfl, fun w hp => ?_⟩
  exact idA s B i _ w hs hp hA.lt hA.head fun w' hp' => name_reads hs hF.val0 (hF.valued (.inr (.inl hx))) (by omega) hA.tail hst w' hp'
theorem opL_two {op : Int} (h2 : 2 ≤ op) (h8 : op ≤ 8) : (opL op = [61]) ∨ ∃ c : UInt8, opL op = [c, 61] ∧ (c = 33 ∨ c = 126 ∨ c = 124 ∨ c = 94 ∨ c = 36 ∨ c = 42) := by
  unfold opL
  split
  · exact .inl rfl
  · right
    split
    · exact ⟨33, rfl, by simp⟩
    · split
      · exact ⟨126, rfl, by simp⟩
      · split
        · exact ⟨124, rfl, by simp⟩
        · split
          · exact ⟨94, rfl, by simp⟩
          · split
            · exact ⟨36, rfl, by simp⟩
            · exact ⟨42, rfl, by simp⟩
theorem opL_c {c : UInt8} (h : c = 33 ∨ c = 126 ∨ c = 124 ∨ c = 94 ∨ c = 36 ∨ c = 42) {s : ByteArray} {j : Nat} (hx : nx s j = (c.toNat : Int)) : Stop s j ∧ NoWs s j := by
  rcases h with rfl | rfl | rfl | rfl | rfl | rfl
  all_goals
    have hx' := hx
    simp at hx'
    exact ⟨stop_of (by omega), nwOf hx' (by decide) (by decide) (by decide) (by decide) (by decide) (by decide)⟩
theorem ext2 {s : ByteArray} {j : Nat} {a b : UInt8} {r : List UInt8} (h : At s j (a :: b :: r)) : s.extract j (j + 2) = ⟨#[a, b]⟩ := by
  have h2 : At s j ([a, b] ++ r) := h
  exact h2.left.ext
theorem part_attr (hT : SelTree l) (hs : s.size ≤ 9000) (hk : k < l.length) (h : kdS l k = 5) (hA : At s i (T l k)) (hst : Stop s (i + (T l k).length)) : PartCalls d s B i (i + (T l k).length) (S l k) := by
  have hx : (l.getD k default).kind = 5 := h
  have hF := hT.fields k hk
  have hS := S_sim hT hk (by omega)
  have hT2 := T_sim hT hk (by omega)
  have hkey := hF.named (.inr hx)
  obtain ⟨ho1, ho8, hfl⟩ := hF.attr hx
  unfold simL at hT2
  rw [if_neg (by omega), if_neg (by omega), if_neg (by omega), if_neg (by omega), if_pos hx] at hT2
  rw [hT2] at hA hst ⊢
  rw [hS, h]
  clear hT2 hS hst
  obtain ⟨K, hK⟩ : ∃ K, namedF (l.getD k default).key = K := ⟨_, rfl⟩
  obtain ⟨V, hV⟩ : ∃ V, quoL (l.getD k default).val = V := ⟨_, rfl⟩
  by_cases h1 : (l.getD k default).op = 1
  · rw [if_pos h1] at hA ⊢
    have hn := hA.tail.left
    have h93 := hA.tail.right.head
    have hlt := hA.tail.right.lt
    have hnf := name_first hkey hn
    have hlen : i + (91 :: (namedF (l.getD k default).key ++ [93])).length = i + 1 + (namedF (l.getD k default).key).length + 1 := by simp; omega
    rw [hlen]
    have h93' : nx s (i + 1 + (namedF (l.getD k default).key).length) = 93 := h93
    refine .inr (.inr (.inl ⟨hA.head, rfl, fun w hp => ?_⟩))
    exact attrHasA s B i _ w hs hp hA.lt hA.head (nwFirst hnf.2.ok) (by omega) hlt (nwOf h93' (by decide) (by decide) (by decide) (by decide) (by decide) (by decide))
      (fun w' hp' => ident_reads hs hF.key0 hkey hn (stop_of (by omega)) w' hp') h93'
  · rw [if_neg h1] at hA ⊢
    have hn := hA.tail.left
    have hnf := name_first hkey hn
    have h2 := hA.tail.right
    rw [hK] at h2 hn hA ⊢
    rw [hV] at h2 hA ⊢
    obtain ⟨j, hj⟩ : ∃ j, i + 1 + K.length = j := ⟨_, rfl⟩
    rw [hj] at h2
    have hVl : 2 ≤ V.length := by rw [← hV]; simp [quoL]
    have hqr : ∀ a, At s a V → nx s a = 34 ∧ QRun s (a + 1) (a + V.length - 1) := fun a ha => by rw [← hV] at ha ⊢; exact qrun_quo _ hF.val0 ha
    have hnm : Stop s j → ∀ w', Prs d w' B s (i + 1) → Calls Tryz.prog 51 #[.pointer (some ⟨B, 0, none⟩)] w' (NmRead d s B j w') := fun hstp w' hp' => by
      rw [← hj, ← hK] at hstp ⊢
      exact ident_reads hs hF.key0 hkey (by rw [hK]; exact hn) hstp w' hp'
    refine .inr (.inr (.inl ⟨hA.head, rfl, fun w hp => ?_⟩))
    rcases opL_two (by omega) ho8 with ho | ⟨c, ho, hc⟩
    · rw [ho] at h2 ⊢
      have h3 : At s j (61 :: (V ++ ((if (l.getD k default).flag = 1 then [32, 105] else []) ++ [93]))) := h2
      have h61 : nx s j = 61 := h3.head
      have hext : s.extract j (j + 2) = ⟨#[61, 34]⟩ := by
        obtain ⟨r, hr⟩ : ∃ r, V = 34 :: r := ⟨_, by rw [← hV]; rfl⟩
        rw [hr] at h3
        exact ext2 h3
      obtain ⟨h34, hq⟩ := hqr (j + 1) h3.tail.left
      have h4 := h3.tail.right
      obtain ⟨e, he⟩ : ∃ e, j + 1 + V.length - 1 = e := ⟨_, rfl⟩
      rw [he] at hq
      have he1 : j + 1 + V.length = e + 1 := by omega
      rw [he1] at h4
      have hlt := h3.lt
      rcases hfl with hfl | hfl
      · rw [if_neg (by omega)] at h4 ⊢
        have h5 : At s (e + 1) (93 :: []) := h4
        have hlen : i + (91 :: (K ++ ([61] ++ (V ++ ([] ++ [93]))))).length = e + 1 + 1 := by simp; omega
        rw [hlen]
        exact attrEq s B i j e w hs hp hA.lt hA.head (nwFirst hnf.2.ok) (by omega) hlt (nwOf h61 (by decide) (by decide) (by decide) (by decide) (by decide) (by decide)) (hnm (stop_of (by omega))) h61 hext h34 hq (by omega) h5.lt h5.head
      · rw [if_pos hfl] at h4 ⊢
        have h5 : At s (e + 1) (32 :: 105 :: 93 :: []) := h4
        have hlen : i + (91 :: (K ++ ([61] ++ (V ++ ([32, 105] ++ [93]))))).length = e + 3 + 1 := by simp; omega
        rw [hlen]
        exact attrEqI s B i j e w hs hp hA.lt hA.head (nwFirst hnf.2.ok) (by omega) hlt (nwOf h61 (by decide) (by decide) (by decide) (by decide) (by decide) (by decide)) (hnm (stop_of (by omega))) h61 hext h34 hq (by omega) h5.tail.tail.lt h5.head h5.tail.head h5.tail.tail.head
    · rw [ho] at h2 ⊢
      have h3 : At s j (c :: 61 :: (V ++ ((if (l.getD k default).flag = 1 then [32, 105] else []) ++ [93]))) := h2
      have hcj := h3.head
      have hext : s.extract j (j + 2) = ⟨#[c, 61]⟩ := ext2 h3
      obtain ⟨hsj, hnj⟩ := opL_c hc hcj
      have h3' : At s (j + 2) (V ++ ((if (l.getD k default).flag = 1 then [32, 105] else []) ++ [93])) := h3.tail.tail
      obtain ⟨h34, hq⟩ := hqr (j + 2) h3'.left
      have h4 := h3'.right
      obtain ⟨e, he⟩ : ∃ e, j + 2 + V.length - 1 = e := ⟨_, rfl⟩
      rw [he] at hq
      have he1 : j + 2 + V.length = e + 1 := by omega
      rw [he1] at h4
      have hlt := h3.lt
      rcases hfl with hfl | hfl
      · rw [if_neg (by omega)] at h4 ⊢
        have h5 : At s (e + 1) (93 :: []) := h4
        have hlen : i + (91 :: (K ++ ([c, 61] ++ (V ++ ([] ++ [93]))))).length = e + 1 + 1 := by simp; omega
        rw [hlen]
        exact attrOp s B i j e w hs hp hA.lt hA.head (nwFirst hnf.2.ok) (by omega) hlt hnj (hnm hsj) c hc hcj hext h34 hq (by omega) h5.lt h5.head
      · rw [if_pos hfl] at h4 ⊢
        have h5 : At s (e + 1) (32 :: 105 :: 93 :: []) := h4
        have hlen : i + (91 :: (K ++ ([c, 61] ++ (V ++ ([32, 105] ++ [93]))))).length = e + 3 + 1 := by simp; omega
        rw [hlen]
        exact attrOpI s B i j e w hs hp hA.lt hA.head (nwFirst hnf.2.ok) (by omega) hlt hnj (hnm hsj) c hc hcj hext h34 hq (by omega) h5.tail.tail.lt h5.head h5.tail.head h5.tail.tail.head
end
variable {l : List SelD}
theorem chain_at {α : Type} (g : α → List UInt8) (d : α) {s : ByteArray} {i : Nat} {H : List UInt8} {ps : List α} (h : At s i (H ++ (ps.map g).flatten)) :
    ∃ jp : Nat → Nat, jp 0 = i + H.length ∧ At s i H ∧ (∀ m, m < ps.length → At s (jp m) (g (ps.getD m d)) ∧ jp (m + 1) = jp m + (g (ps.getD m d)).length) ∧ jp ps.length = i + (H ++ (ps.map g).flatten).length :=
  ⟨fun m => i + H.length + offs g ps m, by simp [offs_zero], h.left, fun m hm => ⟨flat_at g d ps _ m h.right hm, by have := offs_succ g d ps m hm; show i + H.length + offs g ps (m + 1) = i + H.length + offs g ps m + _; omega⟩, by
    show i + H.length + offs g ps ps.length = _
    rw [offs_all, List.length_append]
    omega⟩
/-- What n selectors, each with a combinator ahead of it, are together. -/
def asum (f : Nat → Tri) : Nat → Tri
  | 0 => f 0
  | m + 1 => triAdd (asum f m) (f (m + 1))
/-- A selector with combinators at a place: its atoms a 0 .. a n, and where each ends. -/
structure SpineAt (l : List SelD) (s : ByteArray) (q i n : Nat) (op : Nat → Int) (a jp : Nat → Nat) : Prop where
  head : a 0 < l.length ∧ Atom (kdS l (a 0)) ∧ zs l (a 0) ≤ zs l q ∧ At s i (T l (a 0)) ∧ jp 0 = i + (T l (a 0)).length
  next : ∀ m, m < n → (1 ≤ op m ∧ op m ≤ 4) ∧ a (m + 1) < l.length ∧ Atom (kdS l (a (m + 1))) ∧ zs l (a (m + 1)) ≤ zs l q ∧ At s (jp m) (combL (op m)) ∧ At s (jp m + (combL (op m)).length) (T l (a (m + 1))) ∧ jp (m + 1) = jp m + (combL (op m)).length + (T l (a (m + 1))).length
  stop : ∀ m, m ≤ n → StopSel s (jp m)
  last : jp n = i + (T l q).length
  ends : EndSel s (jp n)
  spec : S l q = asum (fun m => S l (a m)) n
  fit : ∀ m, m ≤ n → jp m ≤ s.size
theorem asum_take (g : Nat → Tri) (t : Tri) (ps : List (Int × Nat)) (a : Nat → Nat) (h0 : g (a 0) = t) (ha : ∀ m, m < ps.length → a (m + 1) = (ps.getD m (0, 0)).2) : ∀ m, m ≤ ps.length → ((ps.take m).map fun x => g x.2).foldl triAdd t = asum (fun j => g (a j)) m
  | 0, _ => by simp [asum, h0]
  | m + 1, h => by
    rw [take_one (0, 0) ps m (by omega), List.map_append, List.foldl_append, asum_take g t ps a h0 ha m (by omega)]
    simp [asum, ha m (by omega)]
theorem combL_first (op : Int) : ∃ r, combL op = 32 :: r := by
  unfold combL
  split
  · exact ⟨_, rfl⟩
  · split
    · exact ⟨_, rfl⟩
    · split
      · exact ⟨_, rfl⟩
      · exact ⟨_, rfl⟩
theorem spine_at (hT : SelTree l) {s : ByteArray} {q i : Nat} (hq : q < l.length) (hc : Complex (kdS l q)) (h : At s i (T l q)) (hend : EndSel s (i + (T l q).length)) : ∃ n op a jp, SpineAt l s q i n op a jp := by
  obtain ⟨q0, ps, hs⟩ := spine_is hT _ q (Nat.le_refl _) hq hc
  have ht := hs.text hT hq
  have hsp := hs.spec hT hq
  obtain ⟨⟨h1, h2, h3⟩, hall⟩ := hs.all hT hq
  unfold combsL at ht
  have h' := h
  rw [ht] at h'
  obtain ⟨jp, hj0, hA, hjp, hjn⟩ := chain_at (fun x : Int × Nat => combL x.1 ++ T l x.2) (0, 0) h'
  rw [← ht] at hjn
  obtain ⟨a, haa⟩ : ∃ a : Nat → Nat, a = fun m => if m = 0 then q0 else (ps.getD (m - 1) (0, 0)).2 := ⟨_, rfl⟩
  have ha0 : a 0 = q0 := by rw [haa]; rfl
  have has : ∀ m, a (m + 1) = (ps.getD m (0, 0)).2 := fun m => by rw [haa]; simp
  have hmem : ∀ m, m < ps.length → ps.getD m (0, 0) ∈ ps := fun m hm => by
    rw [List.getD_eq_getElem?_getD, List.getElem?_eq_getElem hm, Option.getD_some]
    exact List.getElem_mem hm
  refine ⟨ps.length, fun m => (ps.getD m (0, 0)).1, a, jp, ⟨by rw [ha0]; exact h1, by rw [ha0]; exact h2, by rw [ha0]; exact h3, by rw [ha0]; exact hA, by rw [ha0]; exact hj0⟩, fun m hm => ?_, fun m hm => ?_, hjn, by rw [hjn]; exact hend, ?_, fun m hm => ?_⟩
  · obtain ⟨c1, c2, c3, c4⟩ := hall _ (hmem m hm)
    obtain ⟨d1, d2⟩ := hjp m hm
    rw [has]
    refine ⟨c1, c2, c3, c4, d1.left, d1.right, ?_⟩
    rw [d2, List.length_append]
    omega
  · rcases Nat.lt_or_ge m ps.length with hlt | hge
    · have hA2 := (hjp m hlt).1.left
      obtain ⟨r, hr⟩ := combL_first (ps.getD m (0, 0)).1
      rw [hr] at hA2
      exact .inr ⟨hA2.lt, .inl hA2.head⟩
    · obtain rfl : m = ps.length := by omega
      rw [hjn]
      exact hend.stop
  · rw [hsp]
    have := asum_take (S l) (S l q0) ps a (by rw [ha0]) (fun m _ => has m) ps.length (Nat.le_refl _)
    rw [List.take_length] at this
    exact this
  · rcases Nat.lt_or_ge m ps.length with hlt | hge
    · have := (hjp m hlt).1.le
      omega
    · obtain rfl : m = ps.length := by omega
      rw [hjn]
      exact h.le
theorem joinL_cons (t : List UInt8) : ∀ r : List (List UInt8), joinL (t :: r) = t ++ (r.map fun u => 44 :: 32 :: u).flatten
  | [] => by simp [joinL]
  | u :: r => by
    have := joinL_cons u r
    simp only [joinL, List.map_cons, List.flatten_cons] at this ⊢
    rw [this]
    rfl
/-- A group at a place: its selectors k 0 .. k n; where each begins, and ends. -/
structure GroupAt (l : List SelD) (s : ByteArray) (q i n : Nat) (k bp jp : Nat → Nat) : Prop where
  at_ : ∀ m, m ≤ n → k m < l.length ∧ Complex (kdS l (k m)) ∧ zs l (k m) < zs l q ∧ At s (bp m) (T l (k m)) ∧ jp m = bp m + (T l (k m)).length ∧ EndSel s (jp m)
  first : bp 0 = i
  next : ∀ m, m < n → bp (m + 1) = jp m + 2 ∧ nx s (jp m) = 44 ∧ nx s (jp m + 1) = 32 ∧ jp m + 1 < s.size
  last : jp n = i + (T l q).length
  spec : S l q = pmax (fun m => S l (k m)) (n + 1)
  few : n ≤ 60
theorem group_at (hT : SelTree l) {s : ByteArray} {q i : Nat} (hq : q < l.length) (h23 : kdS l q = 23) (h : At s i (T l q)) (hend : EndSel s (i + (T l q).length)) : ∃ n k bp jp, GroupAt l s q i n k bp jp := by
  have ht := T_group hT hq h23
  have hsp := S_max hT hq (.inr (.inr (.inr h23)))
  obtain ⟨hg1, hg2⟩ := (hT.shape q hq).group h23
  have hkl := hT.kidslen hq
  have hkid : ∀ k ∈ kidsS l q, k < l.length ∧ zs l k < zs l q := fun k hk => ⟨(hT.kid hq hk).1, (hT.kid hq hk).2.2.2⟩
  rw [pmax_all] at hsp
  cases hks : kidsS l q with
  | nil => rw [hks] at hg1; simp at hg1
  | cons k0 r =>
    rw [hks] at ht hsp hg2 hkid hkl
    rw [List.map_cons, joinL_cons, List.map_map] at ht
    have h' := h
    rw [ht] at h'
    obtain ⟨jp, hj0, hA, hjp, hjn⟩ := chain_at ((fun u => (44 : UInt8) :: 32 :: u) ∘ T l) 0 h'
    rw [← ht] at hjn
    have hmem : ∀ m, m ≤ r.length → (k0 :: r).getD m 0 ∈ k0 :: r := fun m hm => getD_mem0 (by simp; omega)
    have hsucc : ∀ m, (k0 :: r).getD (m + 1) 0 = r.getD m 0 := fun m => by simp
    have hcom : ∀ m, m < r.length → nx s (jp m) = 44 ∧ nx s (jp m + 1) = 32 ∧ jp m + 1 < s.size ∧ At s (jp m + 2) (T l (r.getD m 0)) ∧ jp (m + 1) = jp m + 2 + (T l (r.getD m 0)).length := fun m hm => by
      obtain ⟨d1, d2⟩ := hjp m hm
      have d1' : At s (jp m) (44 :: 32 :: T l (r.getD m 0)) := d1
      have d2' : jp (m + 1) = jp m + (44 :: 32 :: T l (r.getD m 0)).length := d2
      refine ⟨d1'.head, d1'.tail.head, d1'.tail.lt, d1'.tail.tail, ?_⟩
      rw [d2']
      simp
      omega
    have hends : ∀ m, m ≤ r.length → EndSel s (jp m) := fun m hm => by
      rcases Nat.lt_or_ge m r.length with hlt | hge
      · obtain ⟨c1, _, c3, _⟩ := hcom m hlt
        exact .inr ⟨by omega, .inl c1⟩
      · obtain rfl : m = r.length := by omega
        rw [hjn]
        exact hend
    obtain ⟨bp, hbp⟩ : ∃ bp : Nat → Nat, bp = fun m => if m = 0 then i else jp (m - 1) + 2 := ⟨_, rfl⟩
    have hb0 : bp 0 = i := by rw [hbp]; rfl
    have hbs : ∀ m, bp (m + 1) = jp m + 2 := fun m => by rw [hbp]; simp
    refine ⟨r.length, fun m => (k0 :: r).getD m 0, bp, jp, fun m hm => ?_, hb0, fun m hm => ?_, hjn, hsp, by simp at hkl; omega⟩
    · obtain ⟨e1, e2⟩ := hkid _ (hmem m hm)
      refine ⟨e1, hg2 _ (hmem m hm), e2, ?_⟩
      cases m with
      | zero => exact ⟨by rw [hb0]; exact hA, by rw [hb0]; exact hj0, hends 0 hm⟩
      | succ m =>
        obtain ⟨_, _, _, c4, c5⟩ := hcom m (by omega)
        exact ⟨by rw [hbs]; exact c4, by rw [hbs]; exact c5, hends _ hm⟩
    · obtain ⟨c1, c2, c3, _⟩ := hcom m hm
      exact ⟨hbs m, c1, c2, c3⟩
theorem sel_first (hT : SelTree l) {s : ByteArray} {q i : Nat} (hq : q < l.length) (hc : Complex (kdS l q)) (h : At s i (T l q)) (hend : EndSel s (i + (T l q).length)) : i < s.size ∧ FirstOk (nx s i) := by
  obtain ⟨n, op, a, jp, hs⟩ := spine_at hT hq hc h hend
  obtain ⟨h1, h2, _, h4, h5⟩ := hs.head
  obtain ⟨h0, pos, hs2⟩ := seq_at hT h1 h2 h4 (by rw [← h5]; exact hs.stop 0 (by omega))
  exact hs2.first
theorem group_first (hT : SelTree l) {s : ByteArray} {q i : Nat} (hq : q < l.length) (hc : kdS l q = 23) (h : At s i (T l q)) (hend : EndSel s (i + (T l q).length)) : i < s.size ∧ FirstOk (nx s i) := by
  obtain ⟨n, k, bp, jp, hs⟩ := group_at hT hq hc h hend
  obtain ⟨h1, h2, _, h4, h5, h6⟩ := hs.at_ 0 (by omega)
  rw [hs.first] at h4 h5
  exact sel_first hT h1 h2 h4 (by rw [← h5]; exact h6)
theorem triMax_zero (t : Tri) : triMax (0, 0, 0) t = t := by
  obtain ⟨a, b, c⟩ := t
  have key : ∀ x : Bool, triLess (0, 0, 0) (a, b, c) = x → (x = false → a = 0 ∧ b = 0 ∧ c = 0) := by
    intro x hx h0
    subst h0
    unfold triLess at hx
    simp only at hx
    split at hx
    · rename_i h
      simp only [decide_eq_false_iff_not] at hx
      omega
    · rename_i h
      split at hx
      · simp only [decide_eq_false_iff_not] at hx
        omega
      · simp only [decide_eq_false_iff_not] at hx
        omega
  unfold triMax
  cases hx : triLess (0, 0, 0) (a, b, c)
  · obtain ⟨rfl, rfl, rfl⟩ := key _ hx rfl
    simp
  · simp
end Go.Proofs.YtoanofdomhnafaaGreatDoor
