/- Parts of a proof: PdType, PdAttrA, PdPseA, SelSem, SpecComb. -/
import Derived.Test.YtoanofdomhnafaaGreatDoorG21
import Derived.Test.YtoanofdomhnafaaGreatDoorG24
import Derived.Test.YtoanofdomhnafaaGreatDoorG17
import Derived.Test.YtoanofdomhnafaaGreatDoorG22
import Derived.Test.YtoanofdomhnafaaGreatDoorG08
import Derived.Test.YtoanofdomhnafaaGreatDoorG03
import Derived.Deep.RegionWith
set_option linter.unusedVariables false
set_option linter.unusedSimpArgs false
namespace Go.Proofs.YtoanofdomhnafaaGreatDoor
open Go.RowKit
variable {d : Int}
set_option maxRecDepth 100000 in
set_option maxHeartbeats 8000000 in
theorem typeA (s : ByteArray) (B i j : Nat) (w : World) (hs : s.size ≤ 9000) (h : Prs d w B s i)
    (hN : ∀ w', Prs d w' B s i → Calls Tryz.prog 51 #[.pointer (some ⟨B, 0, none⟩)] w' (NmRead d s B j w')) :
    Calls Tryz.prog 41 #[.pointer (some ⟨B, 0, none⟩)] w (OneRead d s B j w) := by
  have hr0 := RPair.start h #[.string ⟨#[]⟩] 73
  obtain ⟨w0, hw0⟩ : ∃ w0, w.alloc (.cells #[.string ⟨#[]⟩] 73) = w0 := ⟨_, rfl⟩
  obtain ⟨O, hO⟩ : ∃ O, w.heap.size = O := ⟨_, rfl⟩
  rw [hw0] at hr0
  rw [hO] at hr0
  have HR0 := Lib.hid hr0
  have HN := Lib.hid hN
  clear hr0 h hN
  go_enter Tryz.func41, Tryz.ntmps41
  go_wp2_with fail
  refine (HN.out _ HR0.out.prs).mono ?_
  rintro e w3 ⟨z, rfl, hz, hp3, hk3⟩
  have HR4 := Lib.hid (HR0.out.to hp3.out hk3.out)
  have HL := Lib.hid (lowA_any z w3 (by omega))
  clear HR0 HN hp3 hk3 hw0
  go_wp2_with fail
  refine HL.out.mono ?_
  rintro e w5 ⟨rfl, hb5⟩
  have HR5 := Lib.hid (HR4.out.to (World.objAt.below HR4.out.prs hb5.out (World.objAt.lt HR4.out.prs)) (Keep.of hb5.out (Nat.le_of_lt (World.objAt.lt HR4.out.prs))))
  obtain ⟨y, hy⟩ : ∃ y, lowS z = y := ⟨_, rfl⟩
  rw [hy]
  have o0 : w5.cell? ⟨O, 0, none⟩ = some (.string ⟨#[]⟩) := World.objAt.cell HR5.out.res (i := 0) rfl
  have of : w5.frozen? ⟨O, 0, none⟩ = false := World.objAt.free HR5.out.res 0
  clear HR4 HL hb5 hy
  go_wp2
  refine bodyPost_ret (v := .tuple #[.agg #[.string y], .nilIface]) ?_ rfl ?_
  · rw [results_cell_tmp rfl]
    go_simp
  · exact ⟨y, rfl, Lib.hid (HR5.out.store 0 (.string y)).prs, Lib.hid (HR5.out.store 0 (.string y)).keep⟩
variable {d : Int}
/-- A selector of an attribute is read. -/
def AttrRead (d : Int) (s : ByteArray) (B j : Nat) (w : World) (e : Ending) (w' : World) : Prop :=
  ∃ v, e = .returned (.tuple #[.agg v, .nilIface]) ∧ Hid (Prs d w' B s j) ∧ Hid (Keep B w w')
set_option maxRecDepth 100000 in
set_option maxHeartbeats 800000000 in
theorem attrHasA (s : ByteArray) (B i j : Nat) (w : World) (hs : s.size ≤ 9000) (h : Prs d w B s i) (hi : i < s.size) (hx : nx s i = 91) (hnw1 : NoWs s (i + 1)) (hij : i + 1 ≤ j) (hj : j < s.size) (hnw2 : NoWs s j)
    (hN : ∀ w', Prs d w' B s (i + 1) → Calls Tryz.prog 51 #[.pointer (some ⟨B, 0, none⟩)] w' (NmRead d s B j w')) (h93 : nx s j = 93) :
    Calls Tryz.prog 44 #[.pointer (some ⟨B, 0, none⟩)] w (AttrRead d s B (j + 1) w) := by
  have e93 : (s[j].toNat : Int) = 93 := by rw [← nx_lt hj, h93]
  clear h93
  have hr0 := RPair.start h #[.string ⟨#[]⟩, .string ⟨#[]⟩, .string ⟨#[]⟩, .bool false] 85
  obtain ⟨w0, hw0⟩ : ∃ w0, w.alloc (.cells #[.string ⟨#[]⟩, .string ⟨#[]⟩, .string ⟨#[]⟩, .bool false] 85) = w0 := ⟨_, rfl⟩
  obtain ⟨O, hO⟩ : ∃ O, w.heap.size = O := ⟨_, rfl⟩
  rw [hw0] at hr0
  rw [hO] at hr0
  have HR0 := Lib.hid hr0
  have HN := Lib.hid hN
  have e91 : (s[i].toNat : Int) = 91 := by rw [← nx_lt hi, hx]
  have HS1 := Lib.hid (fun w' (h' : Prs d w' B s (i + 1)) => skipWs_any s B (i + 1) 0 w' hs h' (by omega) (fun j hj => absurd hj (by omega)) hnw1)
  have HS2 := Lib.hid (fun w' (h' : Prs d w' B s j) => skipWs_any s B j 0 w' hs h' (by omega) (fun j hj => absurd hj (by omega)) hnw2)
  have fia : decide ((s.size : Int) ≤ ((i : Nat) : Int)) = false := by simp; omega
  have fib : decide (s.size ≤ i) = false := by simp; omega
  have fja : decide ((s.size : Int) ≤ ((j : Nat) : Int)) = false := by simp; omega
  have fjb : decide (s.size ≤ j) = false := by simp; omega
  clear hr0 h hN hx hnw1 hnw2
  try clear c0 c1 f1
  have c0 : w0.cell? ⟨B, 0, none⟩ = some (.string s) := World.objAt.cell HR0.out.prs (i := 0) rfl
  have c1 : w0.cell? ⟨B, 1, none⟩ = some (.int .i64 ((i : Nat) : Int)) := World.objAt.cell HR0.out.prs (i := 1) rfl
  have f1 : w0.frozen? ⟨B, 1, none⟩ = false := World.objAt.free HR0.out.prs 1
  go_enter Tryz.func44, Tryz.ntmps44
  go_wp2
  go_quiet (fail)
  obtain ⟨w1, hw1⟩ : ∃ w1, w0.drewN nq = w1 := ⟨_, rfl⟩
  have HR1 := Lib.hid (show RPair d 85 #[.string ⟨#[]⟩, .string ⟨#[]⟩, .string ⟨#[]⟩, .bool false] w w1 B O s (i) by rw [← hw1]; exact HR0.out.drew nq)
  rw [hw1]
  clear hw1 HR0 nq
  try clear c0 c1 f1
  have c0 : w1.cell? ⟨B, 0, none⟩ = some (.string s) := World.objAt.cell HR1.out.prs (i := 0) rfl
  have c1 : w1.cell? ⟨B, 1, none⟩ = some (.int .i64 ((i : Nat) : Int)) := World.objAt.cell HR1.out.prs (i := 1) rfl
  have f1 : w1.frozen? ⟨B, 1, none⟩ = false := World.objAt.free HR1.out.prs 1
  go_wp2
  try clear hw0
  go_quiet (fail)
  obtain ⟨w2, hw2⟩ : ∃ w2, w1.drewN nq = w2 := ⟨_, rfl⟩
  have HR2 := Lib.hid (show RPair d 85 #[.string ⟨#[]⟩, .string ⟨#[]⟩, .string ⟨#[]⟩, .bool false] w w2 B O s (i) by rw [← hw2]; exact HR1.out.drew nq)
  rw [hw2]
  clear hw2 HR1 nq
  try clear c0 c1 f1
  have c0 : w2.cell? ⟨B, 0, none⟩ = some (.string s) := World.objAt.cell HR2.out.prs (i := 0) rfl
  have c1 : w2.cell? ⟨B, 1, none⟩ = some (.int .i64 ((i : Nat) : Int)) := World.objAt.cell HR2.out.prs (i := 1) rfl
  have f1 : w2.frozen? ⟨B, 1, none⟩ = false := World.objAt.free HR2.out.prs 1
  go_wp2_with fail
  have HR3 := Lib.hid (HR2.out.at (i + 1))
  clear HR2 c0 c1 f1
  refine (HS1.out _ HR3.out.prs).mono ?_
  rintro e w4 ⟨rfl, hp, hk⟩
  have HR4 := Lib.hid (HR3.out.to (show Prs d w4 B s (i + 1) from hp.out) hk.out)
  clear HR3 hp hk
  try clear c0 c1 f1
  have c0 : w4.cell? ⟨B, 0, none⟩ = some (.string s) := World.objAt.cell HR4.out.prs (i := 0) rfl
  have c1 : w4.cell? ⟨B, 1, none⟩ = some (.int .i64 ((i + 1 : Nat) : Int)) := World.objAt.cell HR4.out.prs (i := 1) rfl
  have f1 : w4.frozen? ⟨B, 1, none⟩ = false := World.objAt.free HR4.out.prs 1
  go_wp2_with fail
  refine (HN.out _ HR4.out.prs).mono ?_
  rintro e w5 ⟨z, rfl, hz, hp, hk⟩
  have HR5 := Lib.hid (HR4.out.to (show Prs d w5 B s (j) from hp.out) hk.out)
  clear HR4 hp hk
  go_wp2_with fail
  refine (lowA_any z _ (by omega)).mono ?_
  rintro e w6 ⟨rfl, hb⟩
  have HR6 := Lib.hid (HR5.out.to (World.objAt.below HR5.out.prs hb.out (World.objAt.lt HR5.out.prs)) (Keep.of hb.out (Nat.le_of_lt (World.objAt.lt HR5.out.prs))))
  clear HR5 hb
  obtain ⟨y, hy⟩ : ∃ y, lowS z = y := ⟨_, rfl⟩
  rw [hy]
  clear hy hz
  go_wp2_with fail
  refine (HS2.out _ HR6.out.prs).mono ?_
  rintro e w7 ⟨rfl, hp, hk⟩
  have HR7 := Lib.hid (HR6.out.to (show Prs d w7 B s (j) from hp.out) hk.out)
  clear HR6 hp hk
  try clear c0 c1 f1
  have c0 : w7.cell? ⟨B, 0, none⟩ = some (.string s) := World.objAt.cell HR7.out.prs (i := 0) rfl
  have c1 : w7.cell? ⟨B, 1, none⟩ = some (.int .i64 ((j : Nat) : Int)) := World.objAt.cell HR7.out.prs (i := 1) rfl
  have f1 : w7.frozen? ⟨B, 1, none⟩ = false := World.objAt.free HR7.out.prs 1
  go_wp2
  go_quiet (fail)
  obtain ⟨w8, hw8⟩ : ∃ w8, w7.drewN nq = w8 := ⟨_, rfl⟩
  have HR8 := Lib.hid (show RPair d 85 #[.string ⟨#[]⟩, .string ⟨#[]⟩, .string ⟨#[]⟩, .bool false] w w8 B O s (j) by rw [← hw8]; exact HR7.out.drew nq)
  rw [hw8]
  clear hw8 HR7 nq
  try clear c0 c1 f1
  have c0 : w8.cell? ⟨B, 0, none⟩ = some (.string s) := World.objAt.cell HR8.out.prs (i := 0) rfl
  have c1 : w8.cell? ⟨B, 1, none⟩ = some (.int .i64 ((j : Nat) : Int)) := World.objAt.cell HR8.out.prs (i := 1) rfl
  have f1 : w8.frozen? ⟨B, 1, none⟩ = false := World.objAt.free HR8.out.prs 1
  go_wp2
  go_quiet (fail)
  obtain ⟨w9, hw9⟩ : ∃ w9, w8.drewN nq = w9 := ⟨_, rfl⟩
  have HR9 := Lib.hid (show RPair d 85 #[.string ⟨#[]⟩, .string ⟨#[]⟩, .string ⟨#[]⟩, .bool false] w w9 B O s (j) by rw [← hw9]; exact HR8.out.drew nq)
  rw [hw9]
  clear hw9 HR8 nq
  try clear c0 c1 f1
  have c0 : w9.cell? ⟨B, 0, none⟩ = some (.string s) := World.objAt.cell HR9.out.prs (i := 0) rfl
  have c1 : w9.cell? ⟨B, 1, none⟩ = some (.int .i64 ((j : Nat) : Int)) := World.objAt.cell HR9.out.prs (i := 1) rfl
  have f1 : w9.frozen? ⟨B, 1, none⟩ = false := World.objAt.free HR9.out.prs 1

  have o0 : w9.cell? ⟨O, 0, none⟩ = some (.string ⟨#[]⟩) := World.objAt.cell HR9.out.res (i := 0) rfl
  have of0 : w9.frozen? ⟨O, 0, none⟩ = false := World.objAt.free HR9.out.res 0
  have o1 : w9.cell? ⟨O, 1, none⟩ = some (.string ⟨#[]⟩) := World.objAt.cell HR9.out.res (i := 1) rfl
  have of1 : w9.frozen? ⟨O, 1, none⟩ = false := World.objAt.free HR9.out.res 1
  have o2 : w9.cell? ⟨O, 2, none⟩ = some (.string ⟨#[]⟩) := World.objAt.cell HR9.out.res (i := 2) rfl
  have of2 : w9.frozen? ⟨O, 2, none⟩ = false := World.objAt.free HR9.out.res 2
  have o3 : w9.cell? ⟨O, 3, none⟩ = some (.bool false) := World.objAt.cell HR9.out.res (i := 3) rfl
  have of3 : w9.frozen? ⟨O, 3, none⟩ = false := World.objAt.free HR9.out.res 3
  have hBO : ¬ B = O := by have := HR9.out.lt; omega
  have hOB : ¬ O = B := by have := HR9.out.lt; omega
  go_wp2
  have HR10 := Lib.hid (HR9.out.at (j + 1))
  clear HR9 c0 c1 f1
  refine bodyPost_ret (v := .tuple #[.agg #[.string y, .string ⟨#[]⟩, .string ⟨#[]⟩, .bool false], .nilIface]) ?_ rfl ?_
  · rw [results_cell_tmp rfl]
    go_simp
  · exact ⟨_, rfl, Lib.hid ((((HR10.out.store 0 (.string y)).store 1 (.string ⟨#[]⟩)).store 2 (.string ⟨#[]⟩)).store 3 (.bool false)).prs, Lib.hid ((((HR10.out.store 0 (.string y)).store 1 (.string ⟨#[]⟩)).store 2 (.string ⟨#[]⟩)).store 3 (.bool false)).keep⟩
variable {d : Int}
/-- A name is read: this one. -/
def NmIs (d : Int) (s : ByteArray) (B j : Nat) (y : ByteArray) (w : World) (e : Ending) (w' : World) : Prop :=
  e = .returned (.tuple #[.string y, .nilIface]) ∧ Hid (Prs d w' B s j) ∧ Hid (Keep B w w')
/-- A parser, and what was kept since W. -/
structure PK (d : Int) (W w : World) (B : Nat) (s : ByteArray) (k : Nat) : Prop where
  prs : Prs d w B s k
  keep : Keep B W w
section
variable {W w : World} {B : Nat} {s : ByteArray} {k : Nat}
theorem PK.start (h : Prs d W B s k) : PK d W W B s k := ⟨h, Keep.refl B W⟩
theorem PK.drew (h : PK d W w B s k) (q : Nat) : PK d W (w.drewN q) B s k := ⟨h.prs.drew q, keep_drewN h.keep q⟩
theorem PK.at (h : PK d W w B s k) (m : Nat) : PK d W (w.setCell ⟨B, 1, none⟩ (.int .i64 (m : Int))) B s m :=
  ⟨h.prs.at m, World.objAt.setKeep h.prs 1 _ h.keep (Nat.le_refl _)⟩
theorem PK.to (h : PK d W w B s k) {w' : World} {k' : Nat} (hp : Prs d w' B s k') (hk : Keep B w w') : PK d W w' B s k' := ⟨hp, h.keep.trans hk⟩
theorem PK.below (h : PK d W w B s k) {w' : World} (hb : Below w.heap.size w w') : PK d W w' B s k :=
  have hlt := World.objAt.lt h.prs
  h.to (World.objAt.below h.prs hb hlt) (Keep.of hb (Nat.le_of_lt hlt))
end
/-- The pseudo-classes without a selector within: their types and values. -/
def PlainPs (T : TypeId) (v : Value) : Prop :=
  (T = 110 ∧ ∃ b, v = .agg #[.bool b]) ∨
  (T = 112 ∧ v = .agg #[]) ∨
  (T = 113 ∧ v = .agg #[]) ∨
  (T = 114 ∧ v = .agg #[]) ∨
  (T = 115 ∧ v = .agg #[]) ∨
  (T = 118 ∧ v = .agg #[]) ∨
  (T = 119 ∧ v = .agg #[]) ∨
  (T = 120 ∧ v = .agg #[]) ∨
  (T = 117 ∧ ∃ z, v = .agg #[.string z]) ∨
  (T = 104 ∧ ∃ z b, v = .agg #[.string z, .bool b]) ∨
  (T = 108 ∧ ∃ a b p q, v = .agg #[.int .i64 a, .int .i64 b, .bool p, .bool q])
/-- A pseudo-class is read. -/
def PsRead (Q : TypeId → Value → Prop) (d : Int) (s : ByteArray) (B j : Nat) (w : World) (e : Ending) (w' : World) : Prop :=
  ∃ T v, e = .returned (.tuple #[.iface T v, .string ⟨#[]⟩, .nilIface]) ∧ Q T v ∧ Hid (Prs d w' B s j) ∧ Hid (Keep B w w')
/-- A pseudo-class of a group is read. -/
def RelRead (R : Value → World → World → Prop) (d : Int) (s : ByteArray) (B j : Nat) (w : World) (e : Ending) (w' : World) : Prop :=
  ∃ z v, e = .returned (.tuple #[.iface 100 (.agg #[.string z, v]), .string ⟨#[]⟩, .nilIface]) ∧ (∃ wa wb, Hid (Keep B w wa) ∧ R v wa wb ∧ Hid (Keep B wb w')) ∧ Hid (Prs d w' B s j) ∧ Hid (Keep B w w')
/-- A group is read. -/
def GrpRead (R : Value → World → World → Prop) (d : Int) (s : ByteArray) (B j : Nat) (w : World) (e : Ending) (w' : World) : Prop :=
  ∃ A n c, e = .returned (.tuple #[.slice (some ⟨A, 0, none⟩) n c, .nilIface]) ∧ R (.slice (some ⟨A, 0, none⟩) n c) w w' ∧ Hid (Prs d w' B s j) ∧ Hid (Keep B w w')
set_option maxRecDepth 100000 in
set_option maxHeartbeats 800000000 in
theorem psPlain (s : ByteArray) (B i j : Nat) (w : World) (hs : s.size ≤ 9000) (h : Prs d w B s i) (hi : i < s.size) (hx : nx s i = 58) (hj : i + 1 < j) (hjs : j ≤ s.size) (hx1 : nx s (i + 1) ≠ 58) (y : ByteArray) (hysz : y.size ≤ 1000) (hy : lowS y = ⟨#[111, 110, 108, 121, 45, 99, 104, 105, 108, 100]⟩ ∨ lowS y = ⟨#[111, 110, 108, 121, 45, 111, 102, 45, 116, 121, 112, 101]⟩ ∨ lowS y = ⟨#[101, 109, 112, 116, 121]⟩ ∨ lowS y = ⟨#[114, 111, 111, 116]⟩ ∨ lowS y = ⟨#[105, 110, 112, 117, 116]⟩ ∨ lowS y = ⟨#[108, 105, 110, 107]⟩ ∨ lowS y = ⟨#[101, 110, 97, 98, 108, 101, 100]⟩ ∨ lowS y = ⟨#[100, 105, 115, 97, 98, 108, 101, 100]⟩ ∨ lowS y = ⟨#[99, 104, 101, 99, 107, 101, 100]⟩)
    (hN : ∀ w', Prs d w' B s (i + 1) → Calls Tryz.prog 51 #[.pointer (some ⟨B, 0, none⟩)] w' (NmIs d s B j y w')) :
    Calls Tryz.prog 45 #[.pointer (some ⟨B, 0, none⟩)] w (PsRead PlainPs d s B (j) w) := by
  obtain ⟨q, hq⟩ : ∃ q, i + 1 = q := ⟨_, rfl⟩
  have hqI : (i : Int) + 1 = (q : Int) := by omega
  rw [hq] at hx1 hN hj
  have hi1 : q < s.size := by omega
  have hR0 : PK d w w B s i := PK.start h
  have HR0 := Lib.hid hR0
  have HN := Lib.hid hN
  have e58 : (s[i].toNat : Int) = 58 := by rw [← nx_lt hi, hx]
  have e59 : ((s[q].toNat : Int) == 58) = false := by rw [← nx_lt hi1]; simpa using hx1
  have fia : decide ((s.size : Int) ≤ ((i : Nat) : Int)) = false := by simp; omega
  have fib : decide (s.size ≤ i) = false := by simp; omega
  have fja : decide ((s.size : Int) ≤ ((q : Nat) : Int)) = false := by simp; omega
  have fjb : decide (s.size ≤ q) = false := by simp; omega
  clear hR0 h hN hx hx1
  try clear c0 c1 f1
  have c0 : w.cell? ⟨B, 0, none⟩ = some (.string s) := World.objAt.cell HR0.out.prs (i := 0) rfl
  have c1 : w.cell? ⟨B, 1, none⟩ = some (.int .i64 ((i : Nat) : Int)) := World.objAt.cell HR0.out.prs (i := 1) rfl
  have f1 : w.frozen? ⟨B, 1, none⟩ = false := World.objAt.free HR0.out.prs 1
  go_enter Tryz.func45, Tryz.ntmps45
  go_wp2
  go_quiet (fail)
  obtain ⟨w1, hw1⟩ : ∃ w1, (w.drewN nq) = w1 := ⟨_, rfl⟩
  have HR1 := Lib.hid (show PK d w w1 B s (i) by rw [← hw1]; exact HR0.out.drew nq)
  rw [hw1]
  clear hw1 HR0 nq
  try clear c0 c1 f1
  have c0 : w1.cell? ⟨B, 0, none⟩ = some (.string s) := World.objAt.cell HR1.out.prs (i := 0) rfl
  have c1 : w1.cell? ⟨B, 1, none⟩ = some (.int .i64 ((i : Nat) : Int)) := World.objAt.cell HR1.out.prs (i := 1) rfl
  have f1 : w1.frozen? ⟨B, 1, none⟩ = false := World.objAt.free HR1.out.prs 1
  go_wp2
  go_quiet (fail)
  obtain ⟨w2, hw2⟩ : ∃ w2, (w1.drewN nq) = w2 := ⟨_, rfl⟩
  have HR2 := Lib.hid (show PK d w w2 B s (i) by rw [← hw2]; exact HR1.out.drew nq)
  rw [hw2]
  clear hw2 HR1 nq
  try clear c0 c1 f1
  have c0 : w2.cell? ⟨B, 0, none⟩ = some (.string s) := World.objAt.cell HR2.out.prs (i := 0) rfl
  have c1 : w2.cell? ⟨B, 1, none⟩ = some (.int .i64 ((i : Nat) : Int)) := World.objAt.cell HR2.out.prs (i := 1) rfl
  have f1 : w2.frozen? ⟨B, 1, none⟩ = false := World.objAt.free HR2.out.prs 1

  go_wp2
  have HR3 := Lib.hid (HR2.out.at (q))
  clear HR2 c0 c1 f1
  obtain ⟨ws, hws⟩ : ∃ ws, (w2.setCell ⟨B, 1, none⟩ (.int .i64 (q : Int))) = ws := ⟨_, rfl⟩
  have HRs := Lib.hid (show PK d w ws B s q by rw [← hws]; exact HR3.out)
  rw [hws]
  clear hws HR3
  try clear c0 c1 f1
  have c0 : ws.cell? ⟨B, 0, none⟩ = some (.string s) := World.objAt.cell HRs.out.prs (i := 0) rfl
  have c1 : ws.cell? ⟨B, 1, none⟩ = some (.int .i64 ((q : Nat) : Int)) := World.objAt.cell HRs.out.prs (i := 1) rfl
  have f1 : ws.frozen? ⟨B, 1, none⟩ = false := World.objAt.free HRs.out.prs 1
  go_wp2
  go_quiet (fail)
  obtain ⟨w4, hw4⟩ : ∃ w4, (ws.drewN nq) = w4 := ⟨_, rfl⟩
  have HR4 := Lib.hid (show PK d w w4 B s (q) by rw [← hw4]; exact HRs.out.drew nq)
  rw [hw4]
  clear hw4 HRs nq
  try clear c0 c1 f1
  have c0 : w4.cell? ⟨B, 0, none⟩ = some (.string s) := World.objAt.cell HR4.out.prs (i := 0) rfl
  have c1 : w4.cell? ⟨B, 1, none⟩ = some (.int .i64 ((q : Nat) : Int)) := World.objAt.cell HR4.out.prs (i := 1) rfl
  have f1 : w4.frozen? ⟨B, 1, none⟩ = false := World.objAt.free HR4.out.prs 1
  go_wp2
  go_quiet (fail)
  obtain ⟨w5, hw5⟩ : ∃ w5, (w4.drewN nq) = w5 := ⟨_, rfl⟩
  have HR5 := Lib.hid (show PK d w w5 B s (q) by rw [← hw5]; exact HR4.out.drew nq)
  rw [hw5]
  clear hw5 HR4 nq
  try clear c0 c1 f1
  have c0 : w5.cell? ⟨B, 0, none⟩ = some (.string s) := World.objAt.cell HR5.out.prs (i := 0) rfl
  have c1 : w5.cell? ⟨B, 1, none⟩ = some (.int .i64 ((q : Nat) : Int)) := World.objAt.cell HR5.out.prs (i := 1) rfl
  have f1 : w5.frozen? ⟨B, 1, none⟩ = false := World.objAt.free HR5.out.prs 1
  go_wp2_with fail
  refine (HN.out _ HR5.out.prs).mono ?_
  rintro e w6 ⟨rfl, hp, hk⟩
  have HR6 := Lib.hid (HR5.out.to (show Prs d w6 B s (j) from hp.out) hk.out)
  clear HR5 hp hk
  go_wp2_with fail
  refine (lowA_any y _ (by omega)).mono ?_
  rintro e w7 ⟨rfl, hbw⟩
  have HR7 := Lib.hid (HR6.out.below hbw.out)
  clear HR6 hbw
  obtain ⟨yl, hyl⟩ : ∃ yl, lowS y = yl := ⟨_, rfl⟩
  rw [hyl]
  rw [hyl] at hy
  try clear c0 c1 f1
  have c0 : w7.cell? ⟨B, 0, none⟩ = some (.string s) := World.objAt.cell HR7.out.prs (i := 0) rfl
  have c1 : w7.cell? ⟨B, 1, none⟩ = some (.int .i64 ((j : Nat) : Int)) := World.objAt.cell HR7.out.prs (i := 1) rfl
  have f1 : w7.frozen? ⟨B, 1, none⟩ = false := World.objAt.free HR7.out.prs 1
  rcases hy with rfl | rfl | rfl | rfl | rfl | rfl | rfl | rfl | rfl
  · go_wp2
    go_ret3
    exact ⟨_, _, rfl, by unfold PlainPs; simp, Lib.hid HR7.out.prs, Lib.hid HR7.out.keep⟩
  · go_wp2
    go_ret3
    exact ⟨_, _, rfl, by unfold PlainPs; simp, Lib.hid HR7.out.prs, Lib.hid HR7.out.keep⟩
  · go_wp2
    go_ret3
    exact ⟨_, _, rfl, by unfold PlainPs; simp, Lib.hid HR7.out.prs, Lib.hid HR7.out.keep⟩
  · go_wp2
    go_ret3
    exact ⟨_, _, rfl, by unfold PlainPs; simp, Lib.hid HR7.out.prs, Lib.hid HR7.out.keep⟩
  · go_wp2
    go_ret3
    exact ⟨_, _, rfl, by unfold PlainPs; simp, Lib.hid HR7.out.prs, Lib.hid HR7.out.keep⟩
  · go_wp2
    go_ret3
    exact ⟨_, _, rfl, by unfold PlainPs; simp, Lib.hid HR7.out.prs, Lib.hid HR7.out.keep⟩
  · go_wp2
    go_ret3
    exact ⟨_, _, rfl, by unfold PlainPs; simp, Lib.hid HR7.out.prs, Lib.hid HR7.out.keep⟩
  · go_wp2
    go_ret3
    exact ⟨_, _, rfl, by unfold PlainPs; simp, Lib.hid HR7.out.prs, Lib.hid HR7.out.keep⟩
  · go_wp2
    go_ret3
    exact ⟨_, _, rfl, by unfold PlainPs; simp, Lib.hid HR7.out.prs, Lib.hid HR7.out.keep⟩
set_option maxRecDepth 100000 in
set_option maxHeartbeats 800000000 in
theorem psLang (s : ByteArray) (B i j k : Nat) (w : World) (hs : s.size ≤ 9000) (h : Prs d w B s i) (hi : i < s.size) (hx : nx s i = 58) (hj : i + 1 < j) (hjs : j ≤ s.size) (hx1 : nx s (i + 1) ≠ 58) (y : ByteArray) (hysz : y.size ≤ 1000) (hy : lowS y = ⟨#[108, 97, 110, 103]⟩)
    (hN : ∀ w', Prs d w' B s (i + 1) → Calls Tryz.prog 51 #[.pointer (some ⟨B, 0, none⟩)] w' (NmIs d s B j y w')) (h40 : nx s j = 40) (hnw : NoWs s (j + 1)) (hk : j + 1 < k) (hks : k < s.size) (h41 : nx s k = 41)
    (hL : ∀ w', Prs d w' B s (j + 1) → Calls Tryz.prog 51 #[.pointer (some ⟨B, 0, none⟩)] w' (NmRead d s B k w')) :
    Calls Tryz.prog 45 #[.pointer (some ⟨B, 0, none⟩)] w (PsRead PlainPs d s B (k + 1) w) := by
  obtain ⟨q, hq⟩ : ∃ q, i + 1 = q := ⟨_, rfl⟩
  have hqI : (i : Int) + 1 = (q : Int) := by omega
  rw [hq] at hx1 hN hj
  have hi1 : q < s.size := by omega
  have hR0 : PK d w w B s i := PK.start h
  have HR0 := Lib.hid hR0
  have HN := Lib.hid hN
  obtain ⟨a, ha⟩ : ∃ a, j + 1 = a := ⟨_, rfl⟩
  rw [ha] at hnw hL
  have has : a < s.size := by omega
  have faa : decide ((s.size : Int) ≤ ((a : Nat) : Int)) = false := by simp; omega
  have fab : decide (s.size ≤ a) = false := by simp; omega
  have fae : ((a : Int) == (s.size : Int)) = false := by simp; omega
  have HL := Lib.hid hL
  have fba : decide ((s.size : Int) ≤ ((k : Nat) : Int)) = false := by simp; omega
  have fbb : decide (s.size ≤ k) = false := by simp; omega
  have HOP := Lib.hid (show ∀ w' (h' : Prs d w' B s j), Calls Tryz.prog 55 #[.pointer (some ⟨B, 0, none⟩)] w' (TookPost d s B a w') by rw [← ha]; exact fun w' h' => openParen_any s B j w' hs h' (by omega) h40 (by rw [ha]; exact hnw))
  have HCL := Lib.hid (fun w' (h' : Prs d w' B s k) => closeParen_any s B k w' hs h' (by omega) h41)
  have HSK := Lib.hid (fun w' (h' : Prs d w' B s k) => skipWs_any s B k 0 w' hs h' (by omega) (fun j hj => absurd hj (by omega)) (by unfold NoWs; rw [Nat.add_zero, h41]; decide))
  have e58 : (s[i].toNat : Int) = 58 := by rw [← nx_lt hi, hx]
  have e59 : ((s[q].toNat : Int) == 58) = false := by rw [← nx_lt hi1]; simpa using hx1
  have fia : decide ((s.size : Int) ≤ ((i : Nat) : Int)) = false := by simp; omega
  have fib : decide (s.size ≤ i) = false := by simp; omega
  have fja : decide ((s.size : Int) ≤ ((q : Nat) : Int)) = false := by simp; omega
  have fjb : decide (s.size ≤ q) = false := by simp; omega
  clear hR0 h hN hx hx1 h40 hnw h41 hL
  try clear c0 c1 f1
  have c0 : w.cell? ⟨B, 0, none⟩ = some (.string s) := World.objAt.cell HR0.out.prs (i := 0) rfl
  have c1 : w.cell? ⟨B, 1, none⟩ = some (.int .i64 ((i : Nat) : Int)) := World.objAt.cell HR0.out.prs (i := 1) rfl
  have f1 : w.frozen? ⟨B, 1, none⟩ = false := World.objAt.free HR0.out.prs 1
  go_enter Tryz.func45, Tryz.ntmps45
  go_wp2
  go_quiet (fail)
  obtain ⟨w1, hw1⟩ : ∃ w1, (w.drewN nq) = w1 := ⟨_, rfl⟩
  have HR1 := Lib.hid (show PK d w w1 B s (i) by rw [← hw1]; exact HR0.out.drew nq)
  rw [hw1]
  clear hw1 HR0 nq
  try clear c0 c1 f1
  have c0 : w1.cell? ⟨B, 0, none⟩ = some (.string s) := World.objAt.cell HR1.out.prs (i := 0) rfl
  have c1 : w1.cell? ⟨B, 1, none⟩ = some (.int .i64 ((i : Nat) : Int)) := World.objAt.cell HR1.out.prs (i := 1) rfl
  have f1 : w1.frozen? ⟨B, 1, none⟩ = false := World.objAt.free HR1.out.prs 1
  go_wp2
  go_quiet (fail)
  obtain ⟨w2, hw2⟩ : ∃ w2, (w1.drewN nq) = w2 := ⟨_, rfl⟩
  have HR2 := Lib.hid (show PK d w w2 B s (i) by rw [← hw2]; exact HR1.out.drew nq)
  rw [hw2]
  clear hw2 HR1 nq
  try clear c0 c1 f1
  have c0 : w2.cell? ⟨B, 0, none⟩ = some (.string s) := World.objAt.cell HR2.out.prs (i := 0) rfl
  have c1 : w2.cell? ⟨B, 1, none⟩ = some (.int .i64 ((i : Nat) : Int)) := World.objAt.cell HR2.out.prs (i := 1) rfl
  have f1 : w2.frozen? ⟨B, 1, none⟩ = false := World.objAt.free HR2.out.prs 1

  go_wp2
  have HR3 := Lib.hid (HR2.out.at (q))
  clear HR2 c0 c1 f1
  obtain ⟨ws, hws⟩ : ∃ ws, (w2.setCell ⟨B, 1, none⟩ (.int .i64 (q : Int))) = ws := ⟨_, rfl⟩
  have HRs := Lib.hid (show PK d w ws B s q by rw [← hws]; exact HR3.out)
  rw [hws]
  clear hws HR3
  try clear c0 c1 f1
  have c0 : ws.cell? ⟨B, 0, none⟩ = some (.string s) := World.objAt.cell HRs.out.prs (i := 0) rfl
  have c1 : ws.cell? ⟨B, 1, none⟩ = some (.int .i64 ((q : Nat) : Int)) := World.objAt.cell HRs.out.prs (i := 1) rfl
  have f1 : ws.frozen? ⟨B, 1, none⟩ = false := World.objAt.free HRs.out.prs 1
  go_wp2
  go_quiet (fail)
  obtain ⟨w4, hw4⟩ : ∃ w4, (ws.drewN nq) = w4 := ⟨_, rfl⟩
  have HR4 := Lib.hid (show PK d w w4 B s (q) by rw [← hw4]; exact HRs.out.drew nq)
  rw [hw4]
  clear hw4 HRs nq
  try clear c0 c1 f1
  have c0 : w4.cell? ⟨B, 0, none⟩ = some (.string s) := World.objAt.cell HR4.out.prs (i := 0) rfl
  have c1 : w4.cell? ⟨B, 1, none⟩ = some (.int .i64 ((q : Nat) : Int)) := World.objAt.cell HR4.out.prs (i := 1) rfl
  have f1 : w4.frozen? ⟨B, 1, none⟩ = false := World.objAt.free HR4.out.prs 1
  go_wp2
  go_quiet (fail)
  obtain ⟨w5, hw5⟩ : ∃ w5, (w4.drewN nq) = w5 := ⟨_, rfl⟩
  have HR5 := Lib.hid (show PK d w w5 B s (q) by rw [← hw5]; exact HR4.out.drew nq)
  rw [hw5]
  clear hw5 HR4 nq
  try clear c0 c1 f1
  have c0 : w5.cell? ⟨B, 0, none⟩ = some (.string s) := World.objAt.cell HR5.out.prs (i := 0) rfl
  have c1 : w5.cell? ⟨B, 1, none⟩ = some (.int .i64 ((q : Nat) : Int)) := World.objAt.cell HR5.out.prs (i := 1) rfl
  have f1 : w5.frozen? ⟨B, 1, none⟩ = false := World.objAt.free HR5.out.prs 1
  go_wp2_with fail
  refine (HN.out _ HR5.out.prs).mono ?_
  rintro e w6 ⟨rfl, hp, hk⟩
  have HR6 := Lib.hid (HR5.out.to (show Prs d w6 B s (j) from hp.out) hk.out)
  clear HR5 hp hk
  go_wp2_with fail
  refine (lowA_any y _ (by omega)).mono ?_
  rintro e w7 ⟨rfl, hbw⟩
  have HR7 := Lib.hid (HR6.out.below hbw.out)
  clear HR6 hbw
  obtain ⟨yl, hyl⟩ : ∃ yl, lowS y = yl := ⟨_, rfl⟩
  rw [hyl]
  rw [hyl] at hy
  try clear c0 c1 f1
  have c0 : w7.cell? ⟨B, 0, none⟩ = some (.string s) := World.objAt.cell HR7.out.prs (i := 0) rfl
  have c1 : w7.cell? ⟨B, 1, none⟩ = some (.int .i64 ((j : Nat) : Int)) := World.objAt.cell HR7.out.prs (i := 1) rfl
  have f1 : w7.frozen? ⟨B, 1, none⟩ = false := World.objAt.free HR7.out.prs 1
  subst hy
  go_wp2_with fail
  refine (HOP.out _ HR7.out.prs).mono ?_
  rintro e w8 ⟨rfl, hp, hk⟩
  have HR8 := Lib.hid (HR7.out.to (show Prs d w8 B s (a) from hp.out) hk.out)
  clear HR7 hp hk
  try clear c0 c1 f1
  have c0 : w8.cell? ⟨B, 0, none⟩ = some (.string s) := World.objAt.cell HR8.out.prs (i := 0) rfl
  have c1 : w8.cell? ⟨B, 1, none⟩ = some (.int .i64 ((a : Nat) : Int)) := World.objAt.cell HR8.out.prs (i := 1) rfl
  have f1 : w8.frozen? ⟨B, 1, none⟩ = false := World.objAt.free HR8.out.prs 1
  go_wp2
  go_quiet (fail)
  obtain ⟨w9, hw9⟩ : ∃ w9, (w8.drewN nq) = w9 := ⟨_, rfl⟩
  have HR9 := Lib.hid (show PK d w w9 B s (a) by rw [← hw9]; exact HR8.out.drew nq)
  rw [hw9]
  clear hw9 HR8 nq
  try clear c0 c1 f1
  have c0 : w9.cell? ⟨B, 0, none⟩ = some (.string s) := World.objAt.cell HR9.out.prs (i := 0) rfl
  have c1 : w9.cell? ⟨B, 1, none⟩ = some (.int .i64 ((a : Nat) : Int)) := World.objAt.cell HR9.out.prs (i := 1) rfl
  have f1 : w9.frozen? ⟨B, 1, none⟩ = false := World.objAt.free HR9.out.prs 1
  go_wp2_with fail
  refine (HL.out _ HR9.out.prs).mono ?_
  rintro e w10 ⟨z, rfl, hz, hp, hk⟩
  have HR10 := Lib.hid (HR9.out.to (show Prs d w10 B s (k) from hp.out) hk.out)
  clear HR9 hp hk
  try clear c0 c1 f1
  have c0 : w10.cell? ⟨B, 0, none⟩ = some (.string s) := World.objAt.cell HR10.out.prs (i := 0) rfl
  have c1 : w10.cell? ⟨B, 1, none⟩ = some (.int .i64 ((k : Nat) : Int)) := World.objAt.cell HR10.out.prs (i := 1) rfl
  have f1 : w10.frozen? ⟨B, 1, none⟩ = false := World.objAt.free HR10.out.prs 1
  go_wp2_with fail
  refine (zzLower_any z _ (by omega)).mono ?_
  rintro e w11 ⟨z2, rfl, _, hbw⟩
  have HR11 := Lib.hid (HR10.out.below hbw)
  clear HR10 hbw

  try clear c0 c1 f1
  have c0 : w11.cell? ⟨B, 0, none⟩ = some (.string s) := World.objAt.cell HR11.out.prs (i := 0) rfl
  have c1 : w11.cell? ⟨B, 1, none⟩ = some (.int .i64 ((k : Nat) : Int)) := World.objAt.cell HR11.out.prs (i := 1) rfl
  have f1 : w11.frozen? ⟨B, 1, none⟩ = false := World.objAt.free HR11.out.prs 1
  go_wp2_with fail
  refine (HSK.out _ HR11.out.prs).mono ?_
  rintro e w12 ⟨rfl, hp, hk⟩
  have HR12 := Lib.hid (HR11.out.to (show Prs d w12 B s (k) from hp.out) hk.out)
  clear HR11 hp hk
  try clear c0 c1 f1
  have c0 : w12.cell? ⟨B, 0, none⟩ = some (.string s) := World.objAt.cell HR12.out.prs (i := 0) rfl
  have c1 : w12.cell? ⟨B, 1, none⟩ = some (.int .i64 ((k : Nat) : Int)) := World.objAt.cell HR12.out.prs (i := 1) rfl
  have f1 : w12.frozen? ⟨B, 1, none⟩ = false := World.objAt.free HR12.out.prs 1
  go_wp2
  go_quiet (fail)
  obtain ⟨w13, hw13⟩ : ∃ w13, (w12.drewN nq) = w13 := ⟨_, rfl⟩
  have HR13 := Lib.hid (show PK d w w13 B s (k) by rw [← hw13]; exact HR12.out.drew nq)
  rw [hw13]
  clear hw13 HR12 nq
  try clear c0 c1 f1
  have c0 : w13.cell? ⟨B, 0, none⟩ = some (.string s) := World.objAt.cell HR13.out.prs (i := 0) rfl
  have c1 : w13.cell? ⟨B, 1, none⟩ = some (.int .i64 ((k : Nat) : Int)) := World.objAt.cell HR13.out.prs (i := 1) rfl
  have f1 : w13.frozen? ⟨B, 1, none⟩ = false := World.objAt.free HR13.out.prs 1
  go_wp2_with fail
  refine (HCL.out _ HR13.out.prs).mono ?_
  rintro e w14 ⟨rfl, hp, hk⟩
  have HR14 := Lib.hid (HR13.out.to (show Prs d w14 B s (k + 1) from hp.out) hk.out)
  clear HR13 hp hk
  go_wp2
  go_ret3
  exact ⟨_, _, rfl, by unfold PlainPs; simp, Lib.hid HR14.out.prs, Lib.hid HR14.out.keep⟩
/-- A specificity as a value. -/
def triV (t : Tri) : Value := .agg #[.int .i64 (t.1 : Int), .int .i64 (t.2.1 : Int), .int .i64 (t.2.2 : Int)]
theorem objAt_off {w : World} {b : Nat} {cs : Array Value} {t : TypeId} (h : World.objAt w b cs t) (p : Addr) (hp : b ≠ p.block) (v : Value) : World.objAt (w.setCell p v) b cs t := by
  unfold World.objAt at h ⊢
  rw [Below.heap_setCell _ _ _ _ hp]
  exact h
def SpecPost (t : Tri) (w : World) (e : Ending) (w' : World) : Prop := e = .returned (triV t) ∧ Hid (Below w.heap.size w w')
/-- A value's specificity, in any world in which the blocks of F are as in w. -/
def SelSem (w : World) (F : Nat → Prop) (v : Value) (t : Tri) : Prop :=
  (∀ b, F b → b < w.heap.size) ∧ ∃ T x K y, v = .iface T x ∧ (∀ w' : World, (method 297 T x "Specificity").run Tryz.prog w' = .ok (K, y) w') ∧ (∀ w' : World, (callFunc K #[y]).run Tryz.prog w' = .ok (.enter K #[y]) w') ∧
    ∀ w' : World, (∀ b, F b → w'.heap[b]? = w.heap[b]?) → Calls Tryz.prog K #[y] w' (SpecPost t w')
theorem SelSem.keep {w w' : World} {F : Nat → Prop} {v : Value} {t : Tri} (h : SelSem w F v t) (ha : ∀ b, F b → w'.heap[b]? = w.heap[b]?) : SelSem w' F v t := by
  obtain ⟨hF, T, x, K, y, hv, hm, hn, hc⟩ := h
  refine ⟨fun b hb => ?_, T, x, K, y, hv, hm, hn, fun w2 h2 => hc w2 fun b hb => (h2 b hb).trans (ha b hb)⟩
  have h1 := hF b hb
  have h2 := ha b hb
  rw [Array.getElem?_eq_getElem h1] at h2
  exact (Array.getElem?_eq_some_iff.mp h2).1
/-- Behind a call that only made memory. -/
theorem SelSem.below {w w' : World} {F : Nat → Prop} {v : Value} {t : Tri} (h : SelSem w F v t) (hb : Below w.heap.size w w') : SelSem w' F v t :=
  h.keep fun b h1 => hb.block b (h.1 b h1)
set_option maxRecDepth 100000 in
set_option maxHeartbeats 8000000 in
theorem tagSpec (z : ByteArray) (w : World) : Calls Tryz.prog 130 #[.agg #[.string z]] w (SpecPost (0, 0, 1) w) := by
  go_enter Tryz.func130, Tryz.ntmps130
  go_wp2
  refine bodyPost_ret (v := triV (0, 0, 1)) ?_ rfl ?_
  · rw [results_cell1 rfl]
    go_simp
    rfl
  · exact ⟨rfl, Lib.hid (((Below.refl w.heap.size w).alloc (Nat.le_refl _) _).alloc (by simp) _)⟩
set_option maxRecDepth 100000 in
set_option maxHeartbeats 8000000 in
theorem idSpec (z : ByteArray) (w : World) : Calls Tryz.prog 134 #[.agg #[.string z]] w (SpecPost (1, 0, 0) w) := by
  go_enter Tryz.func134, Tryz.ntmps134
  go_wp2
  refine bodyPost_ret (v := triV (1, 0, 0)) ?_ rfl ?_
  · rw [results_cell1 rfl]
    go_simp
    rfl
  · exact ⟨rfl, Lib.hid (((Below.refl w.heap.size w).alloc (Nat.le_refl _) _).alloc (by simp) _)⟩
set_option maxRecDepth 100000 in
set_option maxHeartbeats 8000000 in
theorem classSpec (z : ByteArray) (w : World) : Calls Tryz.prog 138 #[.agg #[.string z]] w (SpecPost (0, 1, 0) w) := by
  go_enter Tryz.func138, Tryz.ntmps138
  go_wp2
  refine bodyPost_ret (v := triV (0, 1, 0)) ?_ rfl ?_
  · rw [results_cell1 rfl]
    go_simp
    rfl
  · exact ⟨rfl, Lib.hid (((Below.refl w.heap.size w).alloc (Nat.le_refl _) _).alloc (by simp) _)⟩
set_option maxRecDepth 100000 in
set_option maxHeartbeats 8000000 in
theorem attrSpec (x : Array Value) (w : World) : Calls Tryz.prog 142 #[.agg x] w (SpecPost (0, 1, 0) w) := by
  go_enter Tryz.func142, Tryz.ntmps142
  go_wp2
  refine bodyPost_ret (v := triV (0, 1, 0)) ?_ rfl ?_
  · rw [results_cell1 rfl]
    go_simp
    rfl
  · exact ⟨rfl, Lib.hid (((Below.refl w.heap.size w).alloc (Nat.le_refl _) _).alloc (by simp) _)⟩
set_option maxRecDepth 100000 in
set_option maxHeartbeats 8000000 in
theorem abstractSpec (w : World) : Calls Tryz.prog 155 #[.agg #[]] w (SpecPost (0, 1, 0) w) := by
  go_enter Tryz.func155, Tryz.ntmps155
  go_wp2
  refine bodyPost_ret (v := triV (0, 1, 0)) ?_ rfl ?_
  · rw [results_cell1 rfl]
    go_simp
    rfl
  · exact ⟨rfl, Lib.hid (((Below.refl w.heap.size w).alloc (Nat.le_refl _) _).alloc (by simp) _)⟩
set_option maxRecDepth 100000 in
set_option maxHeartbeats 8000000 in
theorem specAdd (x y : Tri) (w : World) (hx : x.1 ≤ 1000000000 ∧ x.2.1 ≤ 1000000000 ∧ x.2.2 ≤ 1000000000) (hy : y.1 ≤ 1000000000 ∧ y.2.1 ≤ 1000000000 ∧ y.2.2 ≤ 1000000000) :
    Calls Tryz.prog 126 #[triV x, triV y] w (SpecPost (triAdd x y) w) := by
  obtain ⟨x0, x1, x2⟩ := x
  obtain ⟨y0, y1, y2⟩ := y
  obtain ⟨hx0, hx1, hx2⟩ := hx
  obtain ⟨hy0, hy1, hy2⟩ := hy
  simp only at hx0 hx1 hx2 hy0 hy1 hy2
  unfold triV
  go_enter Tryz.func126, Tryz.ntmps126
  go_wp2
  obtain ⟨S, hS⟩ : ∃ S, w.heap.size = S := ⟨_, rfl⟩
  have hS0 : w.heap.size ≤ S := by omega
  obtain ⟨w1, hw1⟩ : ∃ w1, (((w.alloc (.cells #[.int .i64 (x0 : Int), .int .i64 (x1 : Int), .int .i64 (x2 : Int)] 41)).alloc (.cells #[.int .i64 (y0 : Int), .int .i64 (y1 : Int), .int .i64 (y2 : Int)] 41)).alloc (.cells #[.int .i64 0, .int .i64 0, .int .i64 0] 41)) = w1 := ⟨_, rfl⟩
  have hA : World.objAt w1 S #[.int .i64 (x0 : Int), .int .i64 (x1 : Int), .int .i64 (x2 : Int)] 41 := by
    rw [← hw1, ← hS]
    exact World.objAt.below (World.objAt.below (objAt_alloc_new w _ _) ((Below.refl (w.heap.size + 1) _).alloc (by simp) _) (by omega)) ((Below.refl (w.heap.size + 1) _).alloc (by simp) _) (by omega)
  have hR : World.objAt w1 (S + 1 + 1) #[.int .i64 0, .int .i64 0, .int .i64 0] 41 := by
    rw [← hw1, ← hS]
    have := objAt_alloc_new ((w.alloc (.cells #[.int .i64 (x0 : Int), .int .i64 (x1 : Int), .int .i64 (x2 : Int)] 41)).alloc (.cells #[.int .i64 (y0 : Int), .int .i64 (y1 : Int), .int .i64 (y2 : Int)] 41)) #[.int .i64 0, .int .i64 0, .int .i64 0] 41
    simpa using this
  have hB : Below w.heap.size w w1 := by
    rw [← hw1]
    exact (((Below.refl w.heap.size w).alloc (Nat.le_refl _) _).alloc (by simp) _).alloc (by simp; omega) _
  rw [hw1]
  have H0 := Lib.hid (And.intro hA (And.intro hR hB))
  clear hA hR hB hw1
  try rw [hS]
  have hi0 : ∀ w, (Instr.index 41 (.agg #[.int .i64 (y0 : Int), .int .i64 (y1 : Int), .int .i64 (y2 : Int)]) (.int .i64 0)).run Tryz.prog w = .ok (.int .i64 (y0 : Int)) w := fun _ => by kernel_rfl
  have hi1 : ∀ w, (Instr.index 41 (.agg #[.int .i64 (y0 : Int), .int .i64 (y1 : Int), .int .i64 (y2 : Int)]) (.int .i64 1)).run Tryz.prog w = .ok (.int .i64 (y1 : Int)) w := fun _ => by kernel_rfl
  have hi2 : ∀ w, (Instr.index 41 (.agg #[.int .i64 (y0 : Int), .int .i64 (y1 : Int), .int .i64 (y2 : Int)]) (.int .i64 2)).run Tryz.prog w = .ok (.int .i64 (y2 : Int)) w := fun _ => by kernel_rfl
  go_loopw [8] (fun i wr => (i = .int .i64 0 ∧ Hid (World.objAt wr S #[.int .i64 ((x0 : Int)), .int .i64 ((x1 : Int)), .int .i64 ((x2 : Int))] 41 ∧ World.objAt wr (S + 1 + 1) #[.int .i64 0, .int .i64 0, .int .i64 0] 41 ∧ Below w.heap.size w wr)) ∨ (i = .int .i64 1 ∧ Hid (World.objAt wr S #[.int .i64 ((x0 : Int) + y0), .int .i64 ((x1 : Int)), .int .i64 ((x2 : Int))] 41 ∧ World.objAt wr (S + 1 + 1) #[.int .i64 0, .int .i64 0, .int .i64 0] 41 ∧ Below w.heap.size w wr)) ∨ (i = .int .i64 2 ∧ Hid (World.objAt wr S #[.int .i64 ((x0 : Int) + y0), .int .i64 ((x1 : Int) + y1), .int .i64 ((x2 : Int))] 41 ∧ World.objAt wr (S + 1 + 1) #[.int .i64 0, .int .i64 0, .int .i64 0] 41 ∧ Below w.heap.size w wr)) ∨ (i = .int .i64 3 ∧ Hid (World.objAt wr S #[.int .i64 ((x0 : Int) + y0), .int .i64 ((x1 : Int) + y1), .int .i64 ((x2 : Int) + y2)] 41 ∧ World.objAt wr (S + 1 + 1) #[.int .i64 0, .int .i64 0, .int .i64 0] 41 ∧ Below w.heap.size w wr))) (fun i _ => 3 - (intOf i).toNat)
  case atStart => exact .inl ⟨rfl, H0⟩
  case round =>
    rcases hrel with ⟨rfl, hH⟩ | ⟨rfl, hH⟩ | ⟨rfl, hH⟩ | ⟨rfl, hH⟩
    · have d0 : wr.cell? ⟨S, 0, none⟩ = some (.int .i64 ((x0 : Int))) := World.objAt.cell hH.out.1 (i := 0) rfl
      have f0 : wr.frozen? ⟨S, 0, none⟩ = false := World.objAt.free hH.out.1 0
      have d1 : wr.cell? ⟨S, 1, none⟩ = some (.int .i64 ((x1 : Int))) := World.objAt.cell hH.out.1 (i := 1) rfl
      have f1 : wr.frozen? ⟨S, 1, none⟩ = false := World.objAt.free hH.out.1 1
      have d2 : wr.cell? ⟨S, 2, none⟩ = some (.int .i64 ((x2 : Int))) := World.objAt.cell hH.out.1 (i := 2) rfl
      have f2 : wr.frozen? ⟨S, 2, none⟩ = false := World.objAt.free hH.out.1 2
      go_wp2
      go_roundw
      case rel =>
        have HH := And.intro (World.objAt.set hH.out.1 0 (.int .i64 ((x0 : Int) + y0))) (And.intro (objAt_off hH.out.2.1 ⟨S, 0, none⟩ (by simp; omega) (.int .i64 ((x0 : Int) + y0))) (hH.out.2.2.setCell (p := ⟨S, 0, none⟩) hS0 (.int .i64 ((x0 : Int) + y0))))
        exact .inr (.inl ⟨by go_num, Lib.hid HH⟩)
      case measure => simp [intOf]
    · have d0 : wr.cell? ⟨S, 0, none⟩ = some (.int .i64 ((x0 : Int) + y0)) := World.objAt.cell hH.out.1 (i := 0) rfl
      have f0 : wr.frozen? ⟨S, 0, none⟩ = false := World.objAt.free hH.out.1 0
      have d1 : wr.cell? ⟨S, 1, none⟩ = some (.int .i64 ((x1 : Int))) := World.objAt.cell hH.out.1 (i := 1) rfl
      have f1 : wr.frozen? ⟨S, 1, none⟩ = false := World.objAt.free hH.out.1 1
      have d2 : wr.cell? ⟨S, 2, none⟩ = some (.int .i64 ((x2 : Int))) := World.objAt.cell hH.out.1 (i := 2) rfl
      have f2 : wr.frozen? ⟨S, 2, none⟩ = false := World.objAt.free hH.out.1 2
      go_wp2
      go_roundw
      case rel =>
        have HH := And.intro (World.objAt.set hH.out.1 1 (.int .i64 ((x1 : Int) + y1))) (And.intro (objAt_off hH.out.2.1 ⟨S, 1, none⟩ (by simp; omega) (.int .i64 ((x1 : Int) + y1))) (hH.out.2.2.setCell (p := ⟨S, 1, none⟩) hS0 (.int .i64 ((x1 : Int) + y1))))
        exact .inr (.inr (.inl ⟨by go_num, Lib.hid HH⟩))
      case measure => simp [intOf]
    · have d0 : wr.cell? ⟨S, 0, none⟩ = some (.int .i64 ((x0 : Int) + y0)) := World.objAt.cell hH.out.1 (i := 0) rfl
      have f0 : wr.frozen? ⟨S, 0, none⟩ = false := World.objAt.free hH.out.1 0
      have d1 : wr.cell? ⟨S, 1, none⟩ = some (.int .i64 ((x1 : Int) + y1)) := World.objAt.cell hH.out.1 (i := 1) rfl
      have f1 : wr.frozen? ⟨S, 1, none⟩ = false := World.objAt.free hH.out.1 1
      have d2 : wr.cell? ⟨S, 2, none⟩ = some (.int .i64 ((x2 : Int))) := World.objAt.cell hH.out.1 (i := 2) rfl
      have f2 : wr.frozen? ⟨S, 2, none⟩ = false := World.objAt.free hH.out.1 2
      go_wp2
      go_roundw
      case rel =>
        have HH := And.intro (World.objAt.set hH.out.1 2 (.int .i64 ((x2 : Int) + y2))) (And.intro (objAt_off hH.out.2.1 ⟨S, 2, none⟩ (by simp; omega) (.int .i64 ((x2 : Int) + y2))) (hH.out.2.2.setCell (p := ⟨S, 2, none⟩) hS0 (.int .i64 ((x2 : Int) + y2))))
        exact .inr (.inr (.inr ⟨by go_num, Lib.hid HH⟩))
      case measure => simp [intOf]
    · have d0 : wr.cell? ⟨S, 0, none⟩ = some (.int .i64 ((x0 : Int) + y0)) := World.objAt.cell hH.out.1 (i := 0) rfl
      have f0 : wr.frozen? ⟨S, 0, none⟩ = false := World.objAt.free hH.out.1 0
      have d1 : wr.cell? ⟨S, 1, none⟩ = some (.int .i64 ((x1 : Int) + y1)) := World.objAt.cell hH.out.1 (i := 1) rfl
      have f1 : wr.frozen? ⟨S, 1, none⟩ = false := World.objAt.free hH.out.1 1
      have d2 : wr.cell? ⟨S, 2, none⟩ = some (.int .i64 ((x2 : Int) + y2)) := World.objAt.cell hH.out.1 (i := 2) rfl
      have f2 : wr.frozen? ⟨S, 2, none⟩ = false := World.objAt.free hH.out.1 2
      have r0 : wr.cell? ⟨S + 1 + 1, 0, none⟩ = some (.int .i64 0) := World.objAt.cell hH.out.2.1 (i := 0) rfl
      have g0 : wr.frozen? ⟨S + 1 + 1, 0, none⟩ = false := World.objAt.free hH.out.2.1 0
      have r1 : wr.cell? ⟨S + 1 + 1, 1, none⟩ = some (.int .i64 0) := World.objAt.cell hH.out.2.1 (i := 1) rfl
      have g1 : wr.frozen? ⟨S + 1 + 1, 1, none⟩ = false := World.objAt.free hH.out.2.1 1
      have r2 : wr.cell? ⟨S + 1 + 1, 2, none⟩ = some (.int .i64 0) := World.objAt.cell hH.out.2.1 (i := 2) rfl
      have g2 : wr.frozen? ⟨S + 1 + 1, 2, none⟩ = false := World.objAt.free hH.out.2.1 2
      go_wp2
      refine bodyPost_ret (v := triV (triAdd (x0, x1, x2) (y0, y1, y2))) ?_ rfl ?_
      · rw [results_cell1 rfl]
        go_simp
        rfl
      · exact ⟨rfl, Lib.hid (((hH.out.2.2.setCell (p := ⟨S + 1 + 1, 0, none⟩) (by show _ ≤ S + 1 + 1; omega) _).setCell (p := ⟨S + 1 + 1, 1, none⟩) (by show _ ≤ S + 1 + 1; omega) _).setCell (p := ⟨S + 1 + 1, 2, none⟩) (by show _ ≤ S + 1 + 1; omega) _)⟩
set_option maxRecDepth 100000 in
set_option maxHeartbeats 8000000 in
theorem combSpec (w : World) (F1 F2 : Nat → Prop) (v1 v2 : Value) (c : Int) (t1 t2 : Tri) (h1 : SelSem w F1 v1 t1) (h2 : SelSem w F2 v2 t2)
    (b1 : t1.1 ≤ 1000000000 ∧ t1.2.1 ≤ 1000000000 ∧ t1.2.2 ≤ 1000000000) (b2 : t2.1 ≤ 1000000000 ∧ t2.2.1 ≤ 1000000000 ∧ t2.2.2 ≤ 1000000000) :
    Calls Tryz.prog 124 #[.agg #[v1, .int .u8 c, v2]] w (SpecPost (triAdd t1 t2) w) := by
  obtain ⟨hF1, T1, x1, K1, y1, rfl, hm1, hn1, hc1⟩ := h1
  obtain ⟨hF2, T2, x2, K2, y2, rfl, hm2, hn2, hc2⟩ := h2
  go_enter Tryz.func124, Tryz.ntmps124
  go_wp2
  obtain ⟨S, hS⟩ : ∃ S, w.heap.size = S := ⟨_, rfl⟩
  obtain ⟨w1, hw1⟩ : ∃ w1, ((w.alloc (.cells #[.iface T1 x1, .int .u8 c, .iface T2 x2] 60)).alloc (.cells #[.int .i64 0, .int .i64 0, .int .i64 0] 41)) = w1 := ⟨_, rfl⟩
  have hA : World.objAt w1 S #[.iface T1 x1, .int .u8 c, .iface T2 x2] 60 := by
    rw [← hw1, ← hS]
    exact World.objAt.below (objAt_alloc_new w _ _) ((Below.refl (w.heap.size + 1) _).alloc (by simp) _) (by omega)
  have hR : World.objAt w1 (S + 1) #[.int .i64 0, .int .i64 0, .int .i64 0] 41 := by
    rw [← hw1, ← hS]
    have := objAt_alloc_new (w.alloc (.cells #[.iface T1 x1, .int .u8 c, .iface T2 x2] 60)) #[.int .i64 0, .int .i64 0, .int .i64 0] 41
    simpa using this
  have hB : Below w.heap.size w w1 := by
    rw [← hw1]
    exact ((Below.refl w.heap.size w).alloc (Nat.le_refl _) _).alloc (by simp) _
  have hz : w1.heap.size = S + 2 := by rw [← hw1, ← hS]; simp
  rw [hw1]
  try rw [hS]
  have H1 := Lib.hid (And.intro hA (And.intro hR (And.intro hB hz)))
  have HC1 := Lib.hid hc1
  have HC2 := Lib.hid hc2
  have HF := Lib.hid (And.intro hF1 hF2)
  clear hA hR hB hz hc1 hc2 hF1 hF2 hw1
  go_wp2_with fail
  refine (HC1.out w1 fun b hb => H1.out.2.2.1.block b (HF.out.1 b hb)).mono ?_
  rintro e w2 ⟨rfl, hb2⟩
  obtain ⟨w3, hw3⟩ : ∃ w3, (w2.alloc (.cells #[.int .i64 (t1.1 : Int), .int .i64 (t1.2.1 : Int), .int .i64 (t1.2.2 : Int)] 41)) = w3 := ⟨_, rfl⟩
  have hbA : Below w1.heap.size w1 w3 := by rw [← hw3]; exact hb2.out.alloc hb2.out.size _
  have hlt := H1.out.2.2.2
  have hA3 := World.objAt.below H1.out.1 hbA (by omega)
  have hR3 := World.objAt.below H1.out.2.1 hbA (by omega)
  have hT3 : World.objAt w3 w2.heap.size #[.int .i64 (t1.1 : Int), .int .i64 (t1.2.1 : Int), .int .i64 (t1.2.2 : Int)] 41 := by rw [← hw3]; exact objAt_alloc_new w2 _ _
  have hB3 : Below w.heap.size w w3 := H1.out.2.2.1.trans (hbA.mono (by have := H1.out.2.2.1.size; omega))
  have hz3 : S + 2 ≤ w2.heap.size := by have := hb2.out.size; omega
  have hz4 : w3.heap.size = w2.heap.size + 1 := by rw [← hw3]; simp
  have p2 : w3.cell? ⟨S, 2, none⟩ = some (.iface T2 x2) := World.objAt.cell hA3 (i := 2) rfl
  rw [← hw3] at p2
  have H3 := Lib.hid (And.intro hA3 (And.intro hR3 (And.intro hT3 (And.intro hB3 (And.intro hz3 hz4)))))
  clear hbA hlt hA3 hR3 hT3 hB3 hz3 hz4 H1 hb2
  have HW3 := Lib.hid hw3
  clear hw3
  unfold triV
  go_wp2
  rw [HW3.out]
  obtain ⟨Q, hQ⟩ : ∃ Q, w2.heap.size = Q := ⟨_, rfl⟩
  rw [hQ] at H3
  rw [HW3.out] at p2
  rw [hQ]
  have q0 : w3.cell? ⟨Q, 0, none⟩ = some (.int .i64 (t1.1 : Int)) := World.objAt.cell H3.out.2.2.1 (i := 0) rfl
  have q1 : w3.cell? ⟨Q, 1, none⟩ = some (.int .i64 (t1.2.1 : Int)) := World.objAt.cell H3.out.2.2.1 (i := 1) rfl
  have q2 : w3.cell? ⟨Q, 2, none⟩ = some (.int .i64 (t1.2.2 : Int)) := World.objAt.cell H3.out.2.2.1 (i := 2) rfl
  clear HW3 hQ w2
  have HAdd := Lib.hid (fun w' => specAdd t1 t2 w' b1 b2)
  go_region_with (first
    | (go_at_call 126
       refine (HAdd.out _).mono ?_
       rintro e w5 ⟨rfl, hb5⟩
       unfold triV
       have hT5 := World.objAt.below H4.out.1 hb5.out (World.objAt.lt H4.out.1)
       have hR5 := World.objAt.below H4.out.2.1 hb5.out (World.objAt.lt H4.out.2.1)
       have hB5 : Below w.heap.size w w5 := H4.out.2.2.trans (hb5.out.mono H4.out.2.2.size)
       have n0 : w5.frozen? ⟨Q, 0, none⟩ = false := World.objAt.free hT5 0
       have n1 : w5.frozen? ⟨Q, 1, none⟩ = false := World.objAt.free hT5 1
       have n2 : w5.frozen? ⟨Q, 2, none⟩ = false := World.objAt.free hT5 2
       have q0 : w5.cell? ⟨Q, 0, none⟩ = some (.int .i64 (t1.1 : Int)) := World.objAt.cell hT5 (i := 0) rfl
       have q1 : w5.cell? ⟨Q, 1, none⟩ = some (.int .i64 (t1.2.1 : Int)) := World.objAt.cell hT5 (i := 1) rfl
       have q2 : w5.cell? ⟨Q, 2, none⟩ = some (.int .i64 (t1.2.2 : Int)) := World.objAt.cell hT5 (i := 2) rfl
       have r0 : w5.cell? ⟨S + 1, 0, none⟩ = some (.int .i64 0) := World.objAt.cell hR5 (i := 0) rfl
       have r1 : w5.cell? ⟨S + 1, 1, none⟩ = some (.int .i64 0) := World.objAt.cell hR5 (i := 1) rfl
       have r2 : w5.cell? ⟨S + 1, 2, none⟩ = some (.int .i64 0) := World.objAt.cell hR5 (i := 2) rfl
       have m0 : w5.frozen? ⟨S + 1, 0, none⟩ = false := World.objAt.free hR5 0
       have m1 : w5.frozen? ⟨S + 1, 1, none⟩ = false := World.objAt.free hR5 1
       have m2 : w5.frozen? ⟨S + 1, 2, none⟩ = false := World.objAt.free hR5 2
       have HB5 := Lib.hid hB5
       clear hT5 hR5 hB5 hb5)
    | (refine (HC2.out (World.drew w3) (fun b hb => H3.out.2.2.2.1.block b (HF.out.2 b hb))).mono ?_
       rintro e w4 ⟨rfl, hb4⟩
       unfold triV
       have hT4 := World.objAt.below (show World.objAt (World.drew w3) Q _ _ from H3.out.2.2.1) hb4.out (World.objAt.lt H3.out.2.2.1)
       have hR4 := World.objAt.below (show World.objAt (World.drew w3) (S + 1) _ _ from H3.out.2.1) hb4.out (World.objAt.lt H3.out.2.1)
       have hB4 : Below w.heap.size w w4 := (H3.out.2.2.2.1.drew).trans (hb4.out.mono (by have := H3.out.2.2.2.1.size; show _ ≤ w3.heap.size; omega))
       have q0 : w4.cell? ⟨Q, 0, none⟩ = some (.int .i64 (t1.1 : Int)) := World.objAt.cell hT4 (i := 0) rfl
       have q1 : w4.cell? ⟨Q, 1, none⟩ = some (.int .i64 (t1.2.1 : Int)) := World.objAt.cell hT4 (i := 1) rfl
       have q2 : w4.cell? ⟨Q, 2, none⟩ = some (.int .i64 (t1.2.2 : Int)) := World.objAt.cell hT4 (i := 2) rfl
       have H4 := Lib.hid (And.intro hT4 (And.intro hR4 hB4))
       clear hT4 hR4 hB4 hb4))
  all_goals
    have hQS : ¬ Q = S + 1 := by have := H3.out.2.2.2.2.1; omega
    have hSQ : ¬ S + 1 = Q := by omega
    go_wp2
  all_goals
    refine bodyPost_ret (v := triV (triAdd t1 t2)) ?_ rfl ?_
    · rw [results_cell1 rfl]
      go_simp
      rfl
    · have hq1 : w.heap.size ≤ Q := by have := H3.out.2.2.2.2.1; omega
      have hq2 : w.heap.size ≤ S + 1 := by omega
      exact ⟨rfl, Lib.hid ((((((HB5.out.setCell (p := ⟨Q, 0, none⟩) hq1 _).setCell (p := ⟨Q, 1, none⟩) hq1 _).setCell (p := ⟨Q, 2, none⟩) hq1 _).setCell (p := ⟨S + 1, 0, none⟩) hq2 _).setCell (p := ⟨S + 1, 1, none⟩) hq2 _).setCell (p := ⟨S + 1, 2, none⟩) hq2 _)⟩
end Go.Proofs.YtoanofdomhnafaaGreatDoor
