/- cascadia.Take of an id; impl.selNode of it; impl.read. -/
import Derived.Test.YtbikpalfhlgnoaaGreatDoorParseId
import Derived.Test.YtbikpalfhlgnoaaGreatDoorResCells
namespace Go.Proofs.YtbikpalfhlgnoaaGreatDoor
open Go.RowKit
set_option linter.unusedVariables false
set_option linter.unusedSimpArgs false

/-- An id as a Part. -/
def partId (z : ByteArray) : Value := .agg #[.int .i64 3, .string ⟨#[]⟩, .string z, .string ⟨#[]⟩, .int .i64 0, .int .i64 0, .bool false, .bool false, .bool false, .bool false, .slice none 0 0]
/-- An id as a Sel. -/
def selId (z : ByteArray) (n : Int) : Value := .agg #[.int .i64 4, .int .i64 0, .string ⟨#[]⟩, .string z, .int .i64 0, .int .i64 0, .int .i64 0, .int .i64 n]
/-- No Sel. -/
def selNo : Value := .agg #[.int .i64 0, .int .i64 0, .string ⟨#[]⟩, .string ⟨#[]⟩, .int .i64 0, .int .i64 0, .int .i64 0, .int .i64 0]

theorem as_tag (v : Value) (w : World) : (Instr.typeAssert (.iface 54 v) 33 65 true).run Tryz.prog w = .ok (.tuple #[.agg #[.string ⟨#[]⟩], .bool false]) w := by kernel_rfl
theorem as_class (v : Value) (w : World) : (Instr.typeAssert (.iface 54 v) 33 67 true).run Tryz.prog w = .ok (.tuple #[.agg #[.string ⟨#[]⟩], .bool false]) w := by kernel_rfl
theorem as_id (v : Value) (w : World) : (Instr.typeAssert (.iface 54 v) 33 54 true).run Tryz.prog w = .ok (.tuple #[v, .bool true]) w := by kernel_rfl

set_option maxRecDepth 100000 in
set_option maxHeartbeats 4000000 in
theorem take_any (z : ByteArray) (w : World) : Calls Tryz.prog 14 #[.iface 54 (.agg #[.string z])] w (Gives (partId z) w) := by
  have h1 := as_tag
  have h2 := as_class
  have h3 := as_id
  go_enter Tryz.func14, Tryz.ntmps14
  go_wp2
  refine bodyPost_ret (v := partId z) ?_ rfl ?_
  · rw [results_cell1 rfl]
    go_simp
    rfl
  · refine ⟨rfl, ?_⟩
    repeat' (first | exact Below.refl _ _ | refine Below.alloc ?_ (by simp <;> omega) _)

set_option maxRecDepth 100000 in
set_option maxHeartbeats 4000000 in
theorem selNode_any (z : ByteArray) (w : World) : Calls Tryz.prog 13 #[partId z] w (Gives (selId z 0) w) := by
  unfold partId
  go_enter Tryz.func13, Tryz.ntmps13
  go_wp2
  refine bodyPost_ret (v := selId z 0) ?_ rfl ?_
  · rw [results_cell1 rfl]
    go_simp
    rfl
  · refine ⟨rfl, ?_⟩
    repeat' (first | exact Below.refl _ _ | refine Below.alloc ?_ (by simp <;> omega) _)

set_option maxRecDepth 100000 in
set_option maxHeartbeats 4000000 in
theorem read_no (v : Value) (j : Int) (t : TypeId) (q : Value) (w : World) : Calls Tryz.prog 8 #[v, .int .i64 j, .iface t q] w (Gives (.tuple #[selNo, .int .i64 0, .bool false]) w) := by
  go_enter Tryz.func8, Tryz.ntmps8
  go_wp2
  refine bodyPost_ret (v := .tuple #[selNo, .int .i64 0, .bool false]) ?_ rfl ?_
  · rw [results_cell3 rfl]
    go_simp
    rfl
  · refine ⟨rfl, ?_⟩
    repeat' (first | exact Below.refl _ _ | refine Below.alloc ?_ (by simp <;> omega) _)

set_option maxRecDepth 100000 in
set_option maxHeartbeats 4000000 in
theorem read_ok (z : ByteArray) (j : Int) (w : World) : Calls Tryz.prog 8 #[.iface 54 (.agg #[.string z]), .int .i64 j, .nilIface] w (Gives (.tuple #[selId z 1, .int .i64 j, .bool true]) w) := by
  have hb0 : Below w.heap.size w (w.alloc (.cells #[.int .i64 0, .int .i64 0, .string ⟨#[]⟩, .string ⟨#[]⟩, .int .i64 0, .int .i64 0, .int .i64 0, .int .i64 0] 23)) := (Below.refl _ _).alloc (Nat.le_refl _) _
  have ho0 := objAt_alloc_new w #[.int .i64 0, .int .i64 0, .string ⟨#[]⟩, .string ⟨#[]⟩, .int .i64 0, .int .i64 0, .int .i64 0, .int .i64 0] 23
  obtain ⟨w0, hw0⟩ : ∃ w0, w.alloc (.cells #[.int .i64 0, .int .i64 0, .string ⟨#[]⟩, .string ⟨#[]⟩, .int .i64 0, .int .i64 0, .int .i64 0, .int .i64 0] 23) = w0 := ⟨_, rfl⟩
  rw [hw0] at hb0 ho0
  have HB := Lib.hid (And.intro hb0 ho0)
  clear hb0 ho0
  go_enter Tryz.func8, Tryz.ntmps8
  go_wp2_with fail
  refine (take_any z w0).mono ?_
  rintro e w1 ⟨rfl, hb1⟩
  go_wp2_with fail
  refine (selNode_any z w1).mono ?_
  rintro e w2 ⟨rfl, hb2⟩
  have hb3 := hb1.trans (hb2.mono hb1.size)
  have ho2 : World.objAt w2 w.heap.size _ 23 := World.objAt.below HB.out.2 hb3 (World.objAt.lt HB.out.2)
  have hfin := HB.out.1.trans (hb3.mono HB.out.1.size)
  have hwl : w.heap.size < w2.heap.size := World.objAt.lt ho2
  have k0 : w2.cell? ⟨w.heap.size, 0, none⟩ = some (.int .i64 0) := World.objAt.cell ho2 (i := 0) rfl
  have k1 : w2.cell? ⟨w.heap.size, 1, none⟩ = some (.int .i64 0) := World.objAt.cell ho2 (i := 1) rfl
  have k2 : w2.cell? ⟨w.heap.size, 2, none⟩ = some (.string ⟨#[]⟩) := World.objAt.cell ho2 (i := 2) rfl
  have k3 : w2.cell? ⟨w.heap.size, 3, none⟩ = some (.string ⟨#[]⟩) := World.objAt.cell ho2 (i := 3) rfl
  have k4 : w2.cell? ⟨w.heap.size, 4, none⟩ = some (.int .i64 0) := World.objAt.cell ho2 (i := 4) rfl
  have k5 : w2.cell? ⟨w.heap.size, 5, none⟩ = some (.int .i64 0) := World.objAt.cell ho2 (i := 5) rfl
  have k6 : w2.cell? ⟨w.heap.size, 6, none⟩ = some (.int .i64 0) := World.objAt.cell ho2 (i := 6) rfl
  have k7 : w2.cell? ⟨w.heap.size, 7, none⟩ = some (.int .i64 0) := World.objAt.cell ho2 (i := 7) rfl
  have f0 := fun o => World.objAt.free ho2 o
  have HF := Lib.hid (And.intro hfin ho2)
  clear hb1 hb2 hb3 ho2 hfin hw0 HB
  unfold selId
  go_wp2
  refine bodyPost_ret (v := .tuple #[selId z 1, .int .i64 j, .bool true]) ?_ rfl ?_
  · rw [results_cell3 rfl]
    go_simp
    try rfl
  · refine ⟨rfl, ?_⟩
    have hh : ∀ {x : World} (h : Below w.heap.size w x) (o : Nat) (v : Value), Below w.heap.size w (x.setCell ⟨w.heap.size, o, none⟩ v) := fun h o v => Below.setCell h (Nat.le_refl _) v
    have h8 := hh (hh (hh (hh (hh (hh (hh (hh HF.out.1 0 (.int .i64 4)) 1 (.int .i64 0)) 2 (.string ⟨#[]⟩)) 3 (.string z)) 4 (.int .i64 0)) 5 (.int .i64 0)) 6 (.int .i64 0)) 7 (.int .i64 1)
    exact h8.alloc h8.size _

end Go.Proofs.YtbikpalfhlgnoaaGreatDoor
