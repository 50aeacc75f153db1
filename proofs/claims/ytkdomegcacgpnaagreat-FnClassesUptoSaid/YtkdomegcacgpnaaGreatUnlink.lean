/- html: RemoveChild, InsertBefore: which nodes are turned, and how. (Printed by gen_unlink.py.) -/
import Derived.Test.YtkdomegcacgpnaaGreatPtrAll
import Derived.StillTailTactics
namespace Go.Proofs.YtkdomegcacgpnaaGreat
open Go.RowKit
set_option linter.unusedVariables false
set_option linter.unusedSimpArgs false

theorem alive_putN {w : World} {b k : Nat} {r : NRec} (h : Alive w k) (hb : World.nodeAt w b r) (r' : NRec) : Alive (World.putN w b r') k := by
  by_cases e : k = b
  · subst e
    exact (hb.put r').alive
  · obtain ⟨c, t, h⟩ := h
    exact ⟨c, t, (World.heap_putN_other r' e).trans h⟩

theorem neq_same (w : World) (b : Nat) : (binOp .neq 75 (.pointer (some ⟨b, 0, none⟩)) (.pointer (some ⟨b, 0, none⟩))).run Tryz.prog w = .ok (.bool false) w := by
  obtain ⟨j, hj, _⟩ := Tryz.node_info
  have h : ∀ d : Nat, (Op.equalIn (d + 1) 75 (.pointer (some ⟨b, 0, none⟩)) (.pointer (some ⟨b, 0, none⟩))).run Tryz.prog w = .ok true w := fun d => by
    simp [Op.equalIn, run_underlying Tryz.underlying75, sizeOf, typeInfo, hj, run_sameAddr_same]
  simp only [binOp]
  simp [Op.equal, Op.maxDepth, h 9999]

set_option maxRecDepth 100000 in
set_option maxHeartbeats 1000000 in
theorem removeChild_nn (P X : Nat) (rp rx : NRec) (w : World) (hp : World.nodeAt w P rp) (hx : World.nodeAt w X rx) (nPX : P ≠ X) (h1 : rp.fst = some X) (h2 : rp.lst = some X) (h0 : rx.par = some P) (h3 : rx.prv = none) (h4 : rx.nxt = none) :
    Calls Tryz.prog 87 #[.pointer (some ⟨P, 0, none⟩), .pointer (some ⟨X, 0, none⟩)] w fun e w' => e = .returned (.tuple #[]) ∧
      ∃ w1, World.putN w P { rp with fst := none, lst := none } = w1 ∧ World.putN w1 X { rx with par := none, prv := none, nxt := none } = w' := by
  have k0P := hp
  have fP := hp.free
  have k0X := hx
  have fX := hx.free
  have s0 : (w.setCell ⟨P, 1, none⟩ (.pointer none)) = World.putN w P { rp with fst := none } := setCell_fst k0P none
  have k1P : World.nodeAt (w.setCell ⟨P, 1, none⟩ (.pointer none)) P { rp with fst := none } := by rw [s0]; exact k0P.put _
  have k1X : World.nodeAt (w.setCell ⟨P, 1, none⟩ (.pointer none)) X rx := by rw [s0]; exact k0X.other _ nPX.symm
  have s1 : ((w.setCell ⟨P, 1, none⟩ (.pointer none)).setCell ⟨P, 2, none⟩ (.pointer none)) = World.putN (w.setCell ⟨P, 1, none⟩ (.pointer none)) P { rp with fst := none, lst := none } := setCell_lst k1P none
  have k2P : World.nodeAt ((w.setCell ⟨P, 1, none⟩ (.pointer none)).setCell ⟨P, 2, none⟩ (.pointer none)) P { rp with fst := none, lst := none } := by rw [s1]; exact k1P.put _
  have k2X : World.nodeAt ((w.setCell ⟨P, 1, none⟩ (.pointer none)).setCell ⟨P, 2, none⟩ (.pointer none)) X rx := by rw [s1]; exact k1X.other _ nPX.symm
  have s2 : (((w.setCell ⟨P, 1, none⟩ (.pointer none)).setCell ⟨P, 2, none⟩ (.pointer none)).setCell ⟨X, 0, none⟩ (.pointer none)) = World.putN ((w.setCell ⟨P, 1, none⟩ (.pointer none)).setCell ⟨P, 2, none⟩ (.pointer none)) X { rx with par := none } := setCell_par k2X none
  have k3P : World.nodeAt (((w.setCell ⟨P, 1, none⟩ (.pointer none)).setCell ⟨P, 2, none⟩ (.pointer none)).setCell ⟨X, 0, none⟩ (.pointer none)) P { rp with fst := none, lst := none } := by rw [s2]; exact k2P.other _ nPX
  have k3X : World.nodeAt (((w.setCell ⟨P, 1, none⟩ (.pointer none)).setCell ⟨P, 2, none⟩ (.pointer none)).setCell ⟨X, 0, none⟩ (.pointer none)) X { rx with par := none } := by rw [s2]; exact k2X.put _
  have s3 : ((((w.setCell ⟨P, 1, none⟩ (.pointer none)).setCell ⟨P, 2, none⟩ (.pointer none)).setCell ⟨X, 0, none⟩ (.pointer none)).setCell ⟨X, 3, none⟩ (.pointer none)) = World.putN (((w.setCell ⟨P, 1, none⟩ (.pointer none)).setCell ⟨P, 2, none⟩ (.pointer none)).setCell ⟨X, 0, none⟩ (.pointer none)) X { rx with par := none, prv := none } := setCell_prv k3X none
  have k4P : World.nodeAt ((((w.setCell ⟨P, 1, none⟩ (.pointer none)).setCell ⟨P, 2, none⟩ (.pointer none)).setCell ⟨X, 0, none⟩ (.pointer none)).setCell ⟨X, 3, none⟩ (.pointer none)) P { rp with fst := none, lst := none } := by rw [s3]; exact k3P.other _ nPX
  have k4X : World.nodeAt ((((w.setCell ⟨P, 1, none⟩ (.pointer none)).setCell ⟨P, 2, none⟩ (.pointer none)).setCell ⟨X, 0, none⟩ (.pointer none)).setCell ⟨X, 3, none⟩ (.pointer none)) X { rx with par := none, prv := none } := by rw [s3]; exact k3X.put _
  have s4 : (((((w.setCell ⟨P, 1, none⟩ (.pointer none)).setCell ⟨P, 2, none⟩ (.pointer none)).setCell ⟨X, 0, none⟩ (.pointer none)).setCell ⟨X, 3, none⟩ (.pointer none)).setCell ⟨X, 4, none⟩ (.pointer none)) = World.putN ((((w.setCell ⟨P, 1, none⟩ (.pointer none)).setCell ⟨P, 2, none⟩ (.pointer none)).setCell ⟨X, 0, none⟩ (.pointer none)).setCell ⟨X, 3, none⟩ (.pointer none)) X { rx with par := none, prv := none, nxt := none } := setCell_nxt k4X none
  have k5P : World.nodeAt (((((w.setCell ⟨P, 1, none⟩ (.pointer none)).setCell ⟨P, 2, none⟩ (.pointer none)).setCell ⟨X, 0, none⟩ (.pointer none)).setCell ⟨X, 3, none⟩ (.pointer none)).setCell ⟨X, 4, none⟩ (.pointer none)) P { rp with fst := none, lst := none } := by rw [s4]; exact k4P.other _ nPX
  have k5X : World.nodeAt (((((w.setCell ⟨P, 1, none⟩ (.pointer none)).setCell ⟨P, 2, none⟩ (.pointer none)).setCell ⟨X, 0, none⟩ (.pointer none)).setCell ⟨X, 3, none⟩ (.pointer none)).setCell ⟨X, 4, none⟩ (.pointer none)) X { rx with par := none, prv := none, nxt := none } := by rw [s4]; exact k4X.put _
  have c0Xpar : w.cell? ⟨X, 0, none⟩ = some (.pointer (some ⟨P, 0, none⟩)) := by
    have hh := k0X.par
    simp only [h0] at hh
    exact hh
  have c0Xprv : w.cell? ⟨X, 3, none⟩ = some (.pointer none) := by
    have hh := k0X.prv
    simp only [h3] at hh
    exact hh
  have c0Xnxt : w.cell? ⟨X, 4, none⟩ = some (.pointer none) := by
    have hh := k0X.nxt
    simp only [h4] at hh
    exact hh
  have c0Pfst : w.cell? ⟨P, 1, none⟩ = some (.pointer (some ⟨X, 0, none⟩)) := by
    have hh := k0P.fst
    simp only [h1] at hh
    exact hh
  have c0Plst : w.cell? ⟨P, 2, none⟩ = some (.pointer (some ⟨X, 0, none⟩)) := by
    have hh := k0P.lst
    simp only [h2] at hh
    exact hh
  have q9 := neq_same w P
  have q0 := eql_same w X
  have q1 := eql_same (w.setCell ⟨P, 1, none⟩ (.pointer none)) X
  have fin : (((((w.setCell ⟨P, 1, none⟩ (.pointer none)).setCell ⟨P, 2, none⟩ (.pointer none)).setCell ⟨X, 0, none⟩ (.pointer none)).setCell ⟨X, 3, none⟩ (.pointer none)).setCell ⟨X, 4, none⟩ (.pointer none)) = World.putN (World.putN w P { rp with fst := none, lst := none }) X { rx with par := none, prv := none, nxt := none } := by
    rw [s4, s3, s2, s1, s0]
    simp only [World.putN_putN]
    try rfl
  have FIN := Lib.hid fin
  clear fin hp hx k0P k0X k1P k1X k2P k2X k3P k3X k4P k4X k5P k5X s0 s1 s2 s3 s4 h0 h3 h4 h2 h1
  go_enter Tryz.func87, Tryz.ntmps87
  go_wp2
  go_end0
  exact ⟨rfl, _, rfl, FIN.out.symm⟩

set_option maxRecDepth 100000 in
set_option maxHeartbeats 1000000 in
theorem removeChild_ns (P X R : Nat) (rp rx rr : NRec) (w : World) (hp : World.nodeAt w P rp) (hx : World.nodeAt w X rx) (hr : World.nodeAt w R rr) (nPX : P ≠ X) (nPR : P ≠ R) (nXR : X ≠ R) (h1 : rp.fst = some X) (l : Nat) (al : Alive w l) (nl : l ≠ X) (h2 : rp.lst = some l) (h0 : rx.par = some P) (h3 : rx.prv = none) (h4 : rx.nxt = some R) :
    Calls Tryz.prog 87 #[.pointer (some ⟨P, 0, none⟩), .pointer (some ⟨X, 0, none⟩)] w fun e w' => e = .returned (.tuple #[]) ∧
      ∃ w1, World.putN w P { rp with fst := some R } = w1 ∧ ∃ w2, (World.putN w1 R { rr with prv := none }).drew = w2 ∧ World.putN w2 X { rx with par := none, prv := none, nxt := none } = w' := by
  have k0P := hp
  have fP := hp.free
  have k0X := hx
  have fX := hx.free
  have k0R := hr
  have fR := hr.free
  have s0 : (w.setCell ⟨P, 1, none⟩ (.pointer (some ⟨R, 0, none⟩))) = World.putN w P { rp with fst := some R } := setCell_fst k0P (some R)
  have k1P : World.nodeAt (w.setCell ⟨P, 1, none⟩ (.pointer (some ⟨R, 0, none⟩))) P { rp with fst := some R } := by rw [s0]; exact k0P.put _
  have k1X : World.nodeAt (w.setCell ⟨P, 1, none⟩ (.pointer (some ⟨R, 0, none⟩))) X rx := by rw [s0]; exact k0X.other _ nPX.symm
  have k1R : World.nodeAt (w.setCell ⟨P, 1, none⟩ (.pointer (some ⟨R, 0, none⟩))) R rr := by rw [s0]; exact k0R.other _ nPR.symm
  have s1 : ((w.setCell ⟨P, 1, none⟩ (.pointer (some ⟨R, 0, none⟩))).setCell ⟨R, 3, none⟩ (.pointer none)).drew = (World.putN (w.setCell ⟨P, 1, none⟩ (.pointer (some ⟨R, 0, none⟩))) R { rr with prv := none }).drew := congrArg World.drew (setCell_prv k1R none)
  have k2P : World.nodeAt ((w.setCell ⟨P, 1, none⟩ (.pointer (some ⟨R, 0, none⟩))).setCell ⟨R, 3, none⟩ (.pointer none)).drew P { rp with fst := some R } := by rw [s1]; exact k1P.other _ nPR
  have k2X : World.nodeAt ((w.setCell ⟨P, 1, none⟩ (.pointer (some ⟨R, 0, none⟩))).setCell ⟨R, 3, none⟩ (.pointer none)).drew X rx := by rw [s1]; exact k1X.other _ nXR
  have k2R : World.nodeAt ((w.setCell ⟨P, 1, none⟩ (.pointer (some ⟨R, 0, none⟩))).setCell ⟨R, 3, none⟩ (.pointer none)).drew R { rr with prv := none } := by rw [s1]; exact k1R.put _
  have s2 : (((w.setCell ⟨P, 1, none⟩ (.pointer (some ⟨R, 0, none⟩))).setCell ⟨R, 3, none⟩ (.pointer none)).drew.setCell ⟨X, 0, none⟩ (.pointer none)) = World.putN ((w.setCell ⟨P, 1, none⟩ (.pointer (some ⟨R, 0, none⟩))).setCell ⟨R, 3, none⟩ (.pointer none)).drew X { rx with par := none } := setCell_par k2X none
  have k3P : World.nodeAt (((w.setCell ⟨P, 1, none⟩ (.pointer (some ⟨R, 0, none⟩))).setCell ⟨R, 3, none⟩ (.pointer none)).drew.setCell ⟨X, 0, none⟩ (.pointer none)) P { rp with fst := some R } := by rw [s2]; exact k2P.other _ nPX
  have k3X : World.nodeAt (((w.setCell ⟨P, 1, none⟩ (.pointer (some ⟨R, 0, none⟩))).setCell ⟨R, 3, none⟩ (.pointer none)).drew.setCell ⟨X, 0, none⟩ (.pointer none)) X { rx with par := none } := by rw [s2]; exact k2X.put _
  have k3R : World.nodeAt (((w.setCell ⟨P, 1, none⟩ (.pointer (some ⟨R, 0, none⟩))).setCell ⟨R, 3, none⟩ (.pointer none)).drew.setCell ⟨X, 0, none⟩ (.pointer none)) R { rr with prv := none } := by rw [s2]; exact k2R.other _ nXR.symm
  have s3 : ((((w.setCell ⟨P, 1, none⟩ (.pointer (some ⟨R, 0, none⟩))).setCell ⟨R, 3, none⟩ (.pointer none)).drew.setCell ⟨X, 0, none⟩ (.pointer none)).setCell ⟨X, 3, none⟩ (.pointer none)) = World.putN (((w.setCell ⟨P, 1, none⟩ (.pointer (some ⟨R, 0, none⟩))).setCell ⟨R, 3, none⟩ (.pointer none)).drew.setCell ⟨X, 0, none⟩ (.pointer none)) X { rx with par := none, prv := none } := setCell_prv k3X none
  have k4P : World.nodeAt ((((w.setCell ⟨P, 1, none⟩ (.pointer (some ⟨R, 0, none⟩))).setCell ⟨R, 3, none⟩ (.pointer none)).drew.setCell ⟨X, 0, none⟩ (.pointer none)).setCell ⟨X, 3, none⟩ (.pointer none)) P { rp with fst := some R } := by rw [s3]; exact k3P.other _ nPX
  have k4X : World.nodeAt ((((w.setCell ⟨P, 1, none⟩ (.pointer (some ⟨R, 0, none⟩))).setCell ⟨R, 3, none⟩ (.pointer none)).drew.setCell ⟨X, 0, none⟩ (.pointer none)).setCell ⟨X, 3, none⟩ (.pointer none)) X { rx with par := none, prv := none } := by rw [s3]; exact k3X.put _
  have k4R : World.nodeAt ((((w.setCell ⟨P, 1, none⟩ (.pointer (some ⟨R, 0, none⟩))).setCell ⟨R, 3, none⟩ (.pointer none)).drew.setCell ⟨X, 0, none⟩ (.pointer none)).setCell ⟨X, 3, none⟩ (.pointer none)) R { rr with prv := none } := by rw [s3]; exact k3R.other _ nXR.symm
  have s4 : (((((w.setCell ⟨P, 1, none⟩ (.pointer (some ⟨R, 0, none⟩))).setCell ⟨R, 3, none⟩ (.pointer none)).drew.setCell ⟨X, 0, none⟩ (.pointer none)).setCell ⟨X, 3, none⟩ (.pointer none)).setCell ⟨X, 4, none⟩ (.pointer none)) = World.putN ((((w.setCell ⟨P, 1, none⟩ (.pointer (some ⟨R, 0, none⟩))).setCell ⟨R, 3, none⟩ (.pointer none)).drew.setCell ⟨X, 0, none⟩ (.pointer none)).setCell ⟨X, 3, none⟩ (.pointer none)) X { rx with par := none, prv := none, nxt := none } := setCell_nxt k4X none
  have k5P : World.nodeAt (((((w.setCell ⟨P, 1, none⟩ (.pointer (some ⟨R, 0, none⟩))).setCell ⟨R, 3, none⟩ (.pointer none)).drew.setCell ⟨X, 0, none⟩ (.pointer none)).setCell ⟨X, 3, none⟩ (.pointer none)).setCell ⟨X, 4, none⟩ (.pointer none)) P { rp with fst := some R } := by rw [s4]; exact k4P.other _ nPX
  have k5X : World.nodeAt (((((w.setCell ⟨P, 1, none⟩ (.pointer (some ⟨R, 0, none⟩))).setCell ⟨R, 3, none⟩ (.pointer none)).drew.setCell ⟨X, 0, none⟩ (.pointer none)).setCell ⟨X, 3, none⟩ (.pointer none)).setCell ⟨X, 4, none⟩ (.pointer none)) X { rx with par := none, prv := none, nxt := none } := by rw [s4]; exact k4X.put _
  have k5R : World.nodeAt (((((w.setCell ⟨P, 1, none⟩ (.pointer (some ⟨R, 0, none⟩))).setCell ⟨R, 3, none⟩ (.pointer none)).drew.setCell ⟨X, 0, none⟩ (.pointer none)).setCell ⟨X, 3, none⟩ (.pointer none)).setCell ⟨X, 4, none⟩ (.pointer none)) R { rr with prv := none } := by rw [s4]; exact k4R.other _ nXR.symm
  have c0Xpar : w.cell? ⟨X, 0, none⟩ = some (.pointer (some ⟨P, 0, none⟩)) := by
    have hh := k0X.par
    simp only [h0] at hh
    exact hh
  have c0Xprv : w.cell? ⟨X, 3, none⟩ = some (.pointer none) := by
    have hh := k0X.prv
    simp only [h3] at hh
    exact hh
  have c0Xnxt : w.cell? ⟨X, 4, none⟩ = some (.pointer (some ⟨R, 0, none⟩)) := by
    have hh := k0X.nxt
    simp only [h4] at hh
    exact hh
  have c0Pfst : w.cell? ⟨P, 1, none⟩ = some (.pointer (some ⟨X, 0, none⟩)) := by
    have hh := k0P.fst
    simp only [h1] at hh
    exact hh
  have c0Plst : w.cell? ⟨P, 2, none⟩ = some (.pointer (some ⟨l, 0, none⟩)) := by
    have hh := k0P.lst
    simp only [h2] at hh
    exact hh
  obtain ⟨z0Rprv, c0Rprv⟩ : ∃ z, w.cell? ⟨R, 3, none⟩ = some z := ⟨_, k0R.prv⟩
  have c1Xpar : (w.setCell ⟨P, 1, none⟩ (.pointer (some ⟨R, 0, none⟩))).cell? ⟨X, 0, none⟩ = some (.pointer (some ⟨P, 0, none⟩)) := by
    have hh := k1X.par
    simp only [h0] at hh
    exact hh
  have c1Xprv : (w.setCell ⟨P, 1, none⟩ (.pointer (some ⟨R, 0, none⟩))).cell? ⟨X, 3, none⟩ = some (.pointer none) := by
    have hh := k1X.prv
    simp only [h3] at hh
    exact hh
  have c1Xnxt : (w.setCell ⟨P, 1, none⟩ (.pointer (some ⟨R, 0, none⟩))).cell? ⟨X, 4, none⟩ = some (.pointer (some ⟨R, 0, none⟩)) := by
    have hh := k1X.nxt
    simp only [h4] at hh
    exact hh
  have c1Pfst : (w.setCell ⟨P, 1, none⟩ (.pointer (some ⟨R, 0, none⟩))).cell? ⟨P, 1, none⟩ = some (.pointer (some ⟨R, 0, none⟩)) := by
    have hh := k1P.fst
    exact hh
  have c1Plst : (w.setCell ⟨P, 1, none⟩ (.pointer (some ⟨R, 0, none⟩))).cell? ⟨P, 2, none⟩ = some (.pointer (some ⟨l, 0, none⟩)) := by
    have hh := k1P.lst
    simp only [h2] at hh
    exact hh
  obtain ⟨z1Rprv, c1Rprv⟩ : ∃ z, (w.setCell ⟨P, 1, none⟩ (.pointer (some ⟨R, 0, none⟩))).cell? ⟨R, 3, none⟩ = some z := ⟨_, k1R.prv⟩
  have f1P := k1P.free
  have f1X := k1X.free
  have f1R := k1R.free
  have q9 := neq_same w P
  have q0 := eql_same w X
  have q1 : (binOp .eql 75 (.pointer (some ⟨l, 0, none⟩)) (.pointer (some ⟨X, 0, none⟩))).run Tryz.prog ((w.setCell ⟨P, 1, none⟩ (.pointer (some ⟨R, 0, none⟩))).setCell ⟨R, 3, none⟩ (.pointer none)).drew = .ok (.bool false) ((w.setCell ⟨P, 1, none⟩ (.pointer (some ⟨R, 0, none⟩))).setCell ⟨R, 3, none⟩ (.pointer none)).drew := by
    refine eql_other ?_ k2X.alive nl
    rw [s1]
    refine alive_putN (w := (w.setCell ⟨P, 1, none⟩ (.pointer (some ⟨R, 0, none⟩)))) ?_ k1R _
    rw [s0]
    refine alive_putN (w := w) ?_ k0P _
    exact al
  have fin : (((((w.setCell ⟨P, 1, none⟩ (.pointer (some ⟨R, 0, none⟩))).setCell ⟨R, 3, none⟩ (.pointer none)).drew.setCell ⟨X, 0, none⟩ (.pointer none)).setCell ⟨X, 3, none⟩ (.pointer none)).setCell ⟨X, 4, none⟩ (.pointer none)) = World.putN (World.putN (World.putN w P { rp with fst := some R }) R { rr with prv := none }).drew X { rx with par := none, prv := none, nxt := none } := by
    rw [s4, s3, s2, s1, s0]
    simp only [World.putN_putN]
    try rfl
  have FIN := Lib.hid fin
  clear fin hp hx hr k0P k0X k0R k1P k1X k1R k2P k2X k2R k3P k3X k3R k4P k4X k4R k5P k5X k5R s0 s1 s2 s3 s4 h0 h3 h4 h2 h1 al
  go_enter Tryz.func87, Tryz.ntmps87
  go_wp2
  generalize hwz1 : (w.setCell ⟨P, 1, none⟩ (.pointer (some ⟨R, 0, none⟩))) = wz1 at *
  go_still_tail 10, (by kernel_rfl)
  go_wp2
  go_end0
  exact ⟨rfl, _, rfl, _, rfl, FIN.out.symm⟩

set_option maxRecDepth 100000 in
set_option maxHeartbeats 1000000 in
theorem removeChild_sn (P X Q : Nat) (rp rx rq : NRec) (w : World) (hp : World.nodeAt w P rp) (hx : World.nodeAt w X rx) (hq : World.nodeAt w Q rq) (nPX : P ≠ X) (nPQ : P ≠ Q) (nXQ : X ≠ Q) (f : Nat) (af : Alive w f) (nf : f ≠ X) (h1 : rp.fst = some f) (h2 : rp.lst = some X) (h0 : rx.par = some P) (h3 : rx.prv = some Q) (h4 : rx.nxt = none) :
    Calls Tryz.prog 87 #[.pointer (some ⟨P, 0, none⟩), .pointer (some ⟨X, 0, none⟩)] w fun e w' => e = .returned (.tuple #[]) ∧
      ∃ w1, World.putN w P { rp with lst := some Q } = w1 ∧ ∃ w2, (World.putN w1 Q { rq with nxt := none }).drew = w2 ∧ World.putN w2 X { rx with par := none, prv := none, nxt := none } = w' := by
  have k0P := hp
  have fP := hp.free
  have k0X := hx
  have fX := hx.free
  have k0Q := hq
  have fQ := hq.free
  have s0 : (w.setCell ⟨P, 2, none⟩ (.pointer (some ⟨Q, 0, none⟩))) = World.putN w P { rp with lst := some Q } := setCell_lst k0P (some Q)
  have k1P : World.nodeAt (w.setCell ⟨P, 2, none⟩ (.pointer (some ⟨Q, 0, none⟩))) P { rp with lst := some Q } := by rw [s0]; exact k0P.put _
  have k1X : World.nodeAt (w.setCell ⟨P, 2, none⟩ (.pointer (some ⟨Q, 0, none⟩))) X rx := by rw [s0]; exact k0X.other _ nPX.symm
  have k1Q : World.nodeAt (w.setCell ⟨P, 2, none⟩ (.pointer (some ⟨Q, 0, none⟩))) Q rq := by rw [s0]; exact k0Q.other _ nPQ.symm
  have s1 : ((w.setCell ⟨P, 2, none⟩ (.pointer (some ⟨Q, 0, none⟩))).setCell ⟨Q, 4, none⟩ (.pointer none)).drew = (World.putN (w.setCell ⟨P, 2, none⟩ (.pointer (some ⟨Q, 0, none⟩))) Q { rq with nxt := none }).drew := congrArg World.drew (setCell_nxt k1Q none)
  have k2P : World.nodeAt ((w.setCell ⟨P, 2, none⟩ (.pointer (some ⟨Q, 0, none⟩))).setCell ⟨Q, 4, none⟩ (.pointer none)).drew P { rp with lst := some Q } := by rw [s1]; exact k1P.other _ nPQ
  have k2X : World.nodeAt ((w.setCell ⟨P, 2, none⟩ (.pointer (some ⟨Q, 0, none⟩))).setCell ⟨Q, 4, none⟩ (.pointer none)).drew X rx := by rw [s1]; exact k1X.other _ nXQ
  have k2Q : World.nodeAt ((w.setCell ⟨P, 2, none⟩ (.pointer (some ⟨Q, 0, none⟩))).setCell ⟨Q, 4, none⟩ (.pointer none)).drew Q { rq with nxt := none } := by rw [s1]; exact k1Q.put _
  have s2 : (((w.setCell ⟨P, 2, none⟩ (.pointer (some ⟨Q, 0, none⟩))).setCell ⟨Q, 4, none⟩ (.pointer none)).drew.setCell ⟨X, 0, none⟩ (.pointer none)) = World.putN ((w.setCell ⟨P, 2, none⟩ (.pointer (some ⟨Q, 0, none⟩))).setCell ⟨Q, 4, none⟩ (.pointer none)).drew X { rx with par := none } := setCell_par k2X none
  have k3P : World.nodeAt (((w.setCell ⟨P, 2, none⟩ (.pointer (some ⟨Q, 0, none⟩))).setCell ⟨Q, 4, none⟩ (.pointer none)).drew.setCell ⟨X, 0, none⟩ (.pointer none)) P { rp with lst := some Q } := by rw [s2]; exact k2P.other _ nPX
  have k3X : World.nodeAt (((w.setCell ⟨P, 2, none⟩ (.pointer (some ⟨Q, 0, none⟩))).setCell ⟨Q, 4, none⟩ (.pointer none)).drew.setCell ⟨X, 0, none⟩ (.pointer none)) X { rx with par := none } := by rw [s2]; exact k2X.put _
  have k3Q : World.nodeAt (((w.setCell ⟨P, 2, none⟩ (.pointer (some ⟨Q, 0, none⟩))).setCell ⟨Q, 4, none⟩ (.pointer none)).drew.setCell ⟨X, 0, none⟩ (.pointer none)) Q { rq with nxt := none } := by rw [s2]; exact k2Q.other _ nXQ.symm
  have s3 : ((((w.setCell ⟨P, 2, none⟩ (.pointer (some ⟨Q, 0, none⟩))).setCell ⟨Q, 4, none⟩ (.pointer none)).drew.setCell ⟨X, 0, none⟩ (.pointer none)).setCell ⟨X, 3, none⟩ (.pointer none)) = World.putN (((w.setCell ⟨P, 2, none⟩ (.pointer (some ⟨Q, 0, none⟩))).setCell ⟨Q, 4, none⟩ (.pointer none)).drew.setCell ⟨X, 0, none⟩ (.pointer none)) X { rx with par := none, prv := none } := setCell_prv k3X none
  have k4P : World.nodeAt ((((w.setCell ⟨P, 2, none⟩ (.pointer (some ⟨Q, 0, none⟩))).setCell ⟨Q, 4, none⟩ (.pointer none)).drew.setCell ⟨X, 0, none⟩ (.pointer none)).setCell ⟨X, 3, none⟩ (.pointer none)) P { rp with lst := some Q } := by rw [s3]; exact k3P.other _ nPX
  have k4X : World.nodeAt ((((w.setCell ⟨P, 2, none⟩ (.pointer (some ⟨Q, 0, none⟩))).setCell ⟨Q, 4, none⟩ (.pointer none)).drew.setCell ⟨X, 0, none⟩ (.pointer none)).setCell ⟨X, 3, none⟩ (.pointer none)) X { rx with par := none, prv := none } := by rw [s3]; exact k3X.put _
  have k4Q : World.nodeAt ((((w.setCell ⟨P, 2, none⟩ (.pointer (some ⟨Q, 0, none⟩))).setCell ⟨Q, 4, none⟩ (.pointer none)).drew.setCell ⟨X, 0, none⟩ (.pointer none)).setCell ⟨X, 3, none⟩ (.pointer none)) Q { rq with nxt := none } := by rw [s3]; exact k3Q.other _ nXQ.symm
  have s4 : (((((w.setCell ⟨P, 2, none⟩ (.pointer (some ⟨Q, 0, none⟩))).setCell ⟨Q, 4, none⟩ (.pointer none)).drew.setCell ⟨X, 0, none⟩ (.pointer none)).setCell ⟨X, 3, none⟩ (.pointer none)).setCell ⟨X, 4, none⟩ (.pointer none)) = World.putN ((((w.setCell ⟨P, 2, none⟩ (.pointer (some ⟨Q, 0, none⟩))).setCell ⟨Q, 4, none⟩ (.pointer none)).drew.setCell ⟨X, 0, none⟩ (.pointer none)).setCell ⟨X, 3, none⟩ (.pointer none)) X { rx with par := none, prv := none, nxt := none } := setCell_nxt k4X none
  have k5P : World.nodeAt (((((w.setCell ⟨P, 2, none⟩ (.pointer (some ⟨Q, 0, none⟩))).setCell ⟨Q, 4, none⟩ (.pointer none)).drew.setCell ⟨X, 0, none⟩ (.pointer none)).setCell ⟨X, 3, none⟩ (.pointer none)).setCell ⟨X, 4, none⟩ (.pointer none)) P { rp with lst := some Q } := by rw [s4]; exact k4P.other _ nPX
  have k5X : World.nodeAt (((((w.setCell ⟨P, 2, none⟩ (.pointer (some ⟨Q, 0, none⟩))).setCell ⟨Q, 4, none⟩ (.pointer none)).drew.setCell ⟨X, 0, none⟩ (.pointer none)).setCell ⟨X, 3, none⟩ (.pointer none)).setCell ⟨X, 4, none⟩ (.pointer none)) X { rx with par := none, prv := none, nxt := none } := by rw [s4]; exact k4X.put _
  have k5Q : World.nodeAt (((((w.setCell ⟨P, 2, none⟩ (.pointer (some ⟨Q, 0, none⟩))).setCell ⟨Q, 4, none⟩ (.pointer none)).drew.setCell ⟨X, 0, none⟩ (.pointer none)).setCell ⟨X, 3, none⟩ (.pointer none)).setCell ⟨X, 4, none⟩ (.pointer none)) Q { rq with nxt := none } := by rw [s4]; exact k4Q.other _ nXQ.symm
  have c0Xpar : w.cell? ⟨X, 0, none⟩ = some (.pointer (some ⟨P, 0, none⟩)) := by
    have hh := k0X.par
    simp only [h0] at hh
    exact hh
  have c0Xprv : w.cell? ⟨X, 3, none⟩ = some (.pointer (some ⟨Q, 0, none⟩)) := by
    have hh := k0X.prv
    simp only [h3] at hh
    exact hh
  have c0Xnxt : w.cell? ⟨X, 4, none⟩ = some (.pointer none) := by
    have hh := k0X.nxt
    simp only [h4] at hh
    exact hh
  have c0Pfst : w.cell? ⟨P, 1, none⟩ = some (.pointer (some ⟨f, 0, none⟩)) := by
    have hh := k0P.fst
    simp only [h1] at hh
    exact hh
  have c0Plst : w.cell? ⟨P, 2, none⟩ = some (.pointer (some ⟨X, 0, none⟩)) := by
    have hh := k0P.lst
    simp only [h2] at hh
    exact hh
  obtain ⟨z0Qnxt, c0Qnxt⟩ : ∃ z, w.cell? ⟨Q, 4, none⟩ = some z := ⟨_, k0Q.nxt⟩
  have c1Xpar : (w.setCell ⟨P, 2, none⟩ (.pointer (some ⟨Q, 0, none⟩))).cell? ⟨X, 0, none⟩ = some (.pointer (some ⟨P, 0, none⟩)) := by
    have hh := k1X.par
    simp only [h0] at hh
    exact hh
  have c1Xprv : (w.setCell ⟨P, 2, none⟩ (.pointer (some ⟨Q, 0, none⟩))).cell? ⟨X, 3, none⟩ = some (.pointer (some ⟨Q, 0, none⟩)) := by
    have hh := k1X.prv
    simp only [h3] at hh
    exact hh
  have c1Xnxt : (w.setCell ⟨P, 2, none⟩ (.pointer (some ⟨Q, 0, none⟩))).cell? ⟨X, 4, none⟩ = some (.pointer none) := by
    have hh := k1X.nxt
    simp only [h4] at hh
    exact hh
  have c1Pfst : (w.setCell ⟨P, 2, none⟩ (.pointer (some ⟨Q, 0, none⟩))).cell? ⟨P, 1, none⟩ = some (.pointer (some ⟨f, 0, none⟩)) := by
    have hh := k1P.fst
    simp only [h1] at hh
    exact hh
  have c1Plst : (w.setCell ⟨P, 2, none⟩ (.pointer (some ⟨Q, 0, none⟩))).cell? ⟨P, 2, none⟩ = some (.pointer (some ⟨Q, 0, none⟩)) := by
    have hh := k1P.lst
    exact hh
  obtain ⟨z1Qnxt, c1Qnxt⟩ : ∃ z, (w.setCell ⟨P, 2, none⟩ (.pointer (some ⟨Q, 0, none⟩))).cell? ⟨Q, 4, none⟩ = some z := ⟨_, k1Q.nxt⟩
  have f1P := k1P.free
  have f1X := k1X.free
  have f1Q := k1Q.free
  have q9 := neq_same w P
  have q0 : (binOp .eql 75 (.pointer (some ⟨f, 0, none⟩)) (.pointer (some ⟨X, 0, none⟩))).run Tryz.prog w = .ok (.bool false) w := by
    refine eql_other ?_ k0X.alive nf
    exact af
  have q1 := eql_same w X
  have fin : (((((w.setCell ⟨P, 2, none⟩ (.pointer (some ⟨Q, 0, none⟩))).setCell ⟨Q, 4, none⟩ (.pointer none)).drew.setCell ⟨X, 0, none⟩ (.pointer none)).setCell ⟨X, 3, none⟩ (.pointer none)).setCell ⟨X, 4, none⟩ (.pointer none)) = World.putN (World.putN (World.putN w P { rp with lst := some Q }) Q { rq with nxt := none }).drew X { rx with par := none, prv := none, nxt := none } := by
    rw [s4, s3, s2, s1, s0]
    simp only [World.putN_putN]
    try rfl
  have FIN := Lib.hid fin
  clear fin hp hx hq k0P k0X k0Q k1P k1X k1Q k2P k2X k2Q k3P k3X k3Q k4P k4X k4Q k5P k5X k5Q s0 s1 s2 s3 s4 h0 h3 h4 h2 h1 af
  go_enter Tryz.func87, Tryz.ntmps87
  go_wp2
  generalize hwz1 : (w.setCell ⟨P, 2, none⟩ (.pointer (some ⟨Q, 0, none⟩))) = wz1 at *
  go_still_tail 10, (by kernel_rfl)
  go_wp2
  go_end0
  exact ⟨rfl, _, rfl, _, rfl, FIN.out.symm⟩

set_option maxRecDepth 100000 in
set_option maxHeartbeats 1000000 in
theorem removeChild_ss (P X Q R : Nat) (rp rx rq rr : NRec) (w : World) (hp : World.nodeAt w P rp) (hx : World.nodeAt w X rx) (hq : World.nodeAt w Q rq) (hr : World.nodeAt w R rr) (nPX : P ≠ X) (nPQ : P ≠ Q) (nPR : P ≠ R) (nXQ : X ≠ Q) (nXR : X ≠ R) (nQR : Q ≠ R) (f : Nat) (af : Alive w f) (nf : f ≠ X) (h1 : rp.fst = some f) (l : Nat) (al : Alive w l) (nl : l ≠ X) (h2 : rp.lst = some l) (h0 : rx.par = some P) (h3 : rx.prv = some Q) (h4 : rx.nxt = some R) :
    Calls Tryz.prog 87 #[.pointer (some ⟨P, 0, none⟩), .pointer (some ⟨X, 0, none⟩)] w fun e w' => e = .returned (.tuple #[]) ∧
      ∃ w1, (World.putN w R { rr with prv := some Q }).drew = w1 ∧ ∃ w2, (World.putN w1 Q { rq with nxt := some R }).drew = w2 ∧ World.putN w2 X { rx with par := none, prv := none, nxt := none } = w' := by
  have k0P := hp
  have fP := hp.free
  have k0X := hx
  have fX := hx.free
  have k0Q := hq
  have fQ := hq.free
  have k0R := hr
  have fR := hr.free
  have s0 : (w.setCell ⟨R, 3, none⟩ (.pointer (some ⟨Q, 0, none⟩))).drew = (World.putN w R { rr with prv := some Q }).drew := congrArg World.drew (setCell_prv k0R (some Q))
  have k1P : World.nodeAt (w.setCell ⟨R, 3, none⟩ (.pointer (some ⟨Q, 0, none⟩))).drew P rp := by rw [s0]; exact k0P.other _ nPR
  have k1X : World.nodeAt (w.setCell ⟨R, 3, none⟩ (.pointer (some ⟨Q, 0, none⟩))).drew X rx := by rw [s0]; exact k0X.other _ nXR
  have k1Q : World.nodeAt (w.setCell ⟨R, 3, none⟩ (.pointer (some ⟨Q, 0, none⟩))).drew Q rq := by rw [s0]; exact k0Q.other _ nQR
  have k1R : World.nodeAt (w.setCell ⟨R, 3, none⟩ (.pointer (some ⟨Q, 0, none⟩))).drew R { rr with prv := some Q } := by rw [s0]; exact k0R.put _
  have s1 : ((w.setCell ⟨R, 3, none⟩ (.pointer (some ⟨Q, 0, none⟩))).drew.setCell ⟨Q, 4, none⟩ (.pointer (some ⟨R, 0, none⟩))).drew = (World.putN (w.setCell ⟨R, 3, none⟩ (.pointer (some ⟨Q, 0, none⟩))).drew Q { rq with nxt := some R }).drew := congrArg World.drew (setCell_nxt k1Q (some R))
  have k2P : World.nodeAt ((w.setCell ⟨R, 3, none⟩ (.pointer (some ⟨Q, 0, none⟩))).drew.setCell ⟨Q, 4, none⟩ (.pointer (some ⟨R, 0, none⟩))).drew P rp := by rw [s1]; exact k1P.other _ nPQ
  have k2X : World.nodeAt ((w.setCell ⟨R, 3, none⟩ (.pointer (some ⟨Q, 0, none⟩))).drew.setCell ⟨Q, 4, none⟩ (.pointer (some ⟨R, 0, none⟩))).drew X rx := by rw [s1]; exact k1X.other _ nXQ
  have k2Q : World.nodeAt ((w.setCell ⟨R, 3, none⟩ (.pointer (some ⟨Q, 0, none⟩))).drew.setCell ⟨Q, 4, none⟩ (.pointer (some ⟨R, 0, none⟩))).drew Q { rq with nxt := some R } := by rw [s1]; exact k1Q.put _
  have k2R : World.nodeAt ((w.setCell ⟨R, 3, none⟩ (.pointer (some ⟨Q, 0, none⟩))).drew.setCell ⟨Q, 4, none⟩ (.pointer (some ⟨R, 0, none⟩))).drew R { rr with prv := some Q } := by rw [s1]; exact k1R.other _ nQR.symm
  have s2 : (((w.setCell ⟨R, 3, none⟩ (.pointer (some ⟨Q, 0, none⟩))).drew.setCell ⟨Q, 4, none⟩ (.pointer (some ⟨R, 0, none⟩))).drew.setCell ⟨X, 0, none⟩ (.pointer none)) = World.putN ((w.setCell ⟨R, 3, none⟩ (.pointer (some ⟨Q, 0, none⟩))).drew.setCell ⟨Q, 4, none⟩ (.pointer (some ⟨R, 0, none⟩))).drew X { rx with par := none } := setCell_par k2X none
  have k3P : World.nodeAt (((w.setCell ⟨R, 3, none⟩ (.pointer (some ⟨Q, 0, none⟩))).drew.setCell ⟨Q, 4, none⟩ (.pointer (some ⟨R, 0, none⟩))).drew.setCell ⟨X, 0, none⟩ (.pointer none)) P rp := by rw [s2]; exact k2P.other _ nPX
  have k3X : World.nodeAt (((w.setCell ⟨R, 3, none⟩ (.pointer (some ⟨Q, 0, none⟩))).drew.setCell ⟨Q, 4, none⟩ (.pointer (some ⟨R, 0, none⟩))).drew.setCell ⟨X, 0, none⟩ (.pointer none)) X { rx with par := none } := by rw [s2]; exact k2X.put _
  have k3Q : World.nodeAt (((w.setCell ⟨R, 3, none⟩ (.pointer (some ⟨Q, 0, none⟩))).drew.setCell ⟨Q, 4, none⟩ (.pointer (some ⟨R, 0, none⟩))).drew.setCell ⟨X, 0, none⟩ (.pointer none)) Q { rq with nxt := some R } := by rw [s2]; exact k2Q.other _ nXQ.symm
  have k3R : World.nodeAt (((w.setCell ⟨R, 3, none⟩ (.pointer (some ⟨Q, 0, none⟩))).drew.setCell ⟨Q, 4, none⟩ (.pointer (some ⟨R, 0, none⟩))).drew.setCell ⟨X, 0, none⟩ (.pointer none)) R { rr with prv := some Q } := by rw [s2]; exact k2R.other _ nXR.symm
  have s3 : ((((w.setCell ⟨R, 3, none⟩ (.pointer (some ⟨Q, 0, none⟩))).drew.setCell ⟨Q, 4, none⟩ (.pointer (some ⟨R, 0, none⟩))).drew.setCell ⟨X, 0, none⟩ (.pointer none)).setCell ⟨X, 3, none⟩ (.pointer none)) = World.putN (((w.setCell ⟨R, 3, none⟩ (.pointer (some ⟨Q, 0, none⟩))).drew.setCell ⟨Q, 4, none⟩ (.pointer (some ⟨R, 0, none⟩))).drew.setCell ⟨X, 0, none⟩ (.pointer none)) X { rx with par := none, prv := none } := setCell_prv k3X none
  have k4P : World.nodeAt ((((w.setCell ⟨R, 3, none⟩ (.pointer (some ⟨Q, 0, none⟩))).drew.setCell ⟨Q, 4, none⟩ (.pointer (some ⟨R, 0, none⟩))).drew.setCell ⟨X, 0, none⟩ (.pointer none)).setCell ⟨X, 3, none⟩ (.pointer none)) P rp := by rw [s3]; exact k3P.other _ nPX
  have k4X : World.nodeAt ((((w.setCell ⟨R, 3, none⟩ (.pointer (some ⟨Q, 0, none⟩))).drew.setCell ⟨Q, 4, none⟩ (.pointer (some ⟨R, 0, none⟩))).drew.setCell ⟨X, 0, none⟩ (.pointer none)).setCell ⟨X, 3, none⟩ (.pointer none)) X { rx with par := none, prv := none } := by rw [s3]; exact k3X.put _
  have k4Q : World.nodeAt ((((w.setCell ⟨R, 3, none⟩ (.pointer (some ⟨Q, 0, none⟩))).drew.setCell ⟨Q, 4, none⟩ (.pointer (some ⟨R, 0, none⟩))).drew.setCell ⟨X, 0, none⟩ (.pointer none)).setCell ⟨X, 3, none⟩ (.pointer none)) Q { rq with nxt := some R } := by rw [s3]; exact k3Q.other _ nXQ.symm
  have k4R : World.nodeAt ((((w.setCell ⟨R, 3, none⟩ (.pointer (some ⟨Q, 0, none⟩))).drew.setCell ⟨Q, 4, none⟩ (.pointer (some ⟨R, 0, none⟩))).drew.setCell ⟨X, 0, none⟩ (.pointer none)).setCell ⟨X, 3, none⟩ (.pointer none)) R { rr with prv := some Q } := by rw [s3]; exact k3R.other _ nXR.symm
  have s4 : (((((w.setCell ⟨R, 3, none⟩ (.pointer (some ⟨Q, 0, none⟩))).drew.setCell ⟨Q, 4, none⟩ (.pointer (some ⟨R, 0, none⟩))).drew.setCell ⟨X, 0, none⟩ (.pointer none)).setCell ⟨X, 3, none⟩ (.pointer none)).setCell ⟨X, 4, none⟩ (.pointer none)) = World.putN ((((w.setCell ⟨R, 3, none⟩ (.pointer (some ⟨Q, 0, none⟩))).drew.setCell ⟨Q, 4, none⟩ (.pointer (some ⟨R, 0, none⟩))).drew.setCell ⟨X, 0, none⟩ (.pointer none)).setCell ⟨X, 3, none⟩ (.pointer none)) X { rx with par := none, prv := none, nxt := none } := setCell_nxt k4X none
  have k5P : World.nodeAt (((((w.setCell ⟨R, 3, none⟩ (.pointer (some ⟨Q, 0, none⟩))).drew.setCell ⟨Q, 4, none⟩ (.pointer (some ⟨R, 0, none⟩))).drew.setCell ⟨X, 0, none⟩ (.pointer none)).setCell ⟨X, 3, none⟩ (.pointer none)).setCell ⟨X, 4, none⟩ (.pointer none)) P rp := by rw [s4]; exact k4P.other _ nPX
  have k5X : World.nodeAt (((((w.setCell ⟨R, 3, none⟩ (.pointer (some ⟨Q, 0, none⟩))).drew.setCell ⟨Q, 4, none⟩ (.pointer (some ⟨R, 0, none⟩))).drew.setCell ⟨X, 0, none⟩ (.pointer none)).setCell ⟨X, 3, none⟩ (.pointer none)).setCell ⟨X, 4, none⟩ (.pointer none)) X { rx with par := none, prv := none, nxt := none } := by rw [s4]; exact k4X.put _
  have k5Q : World.nodeAt (((((w.setCell ⟨R, 3, none⟩ (.pointer (some ⟨Q, 0, none⟩))).drew.setCell ⟨Q, 4, none⟩ (.pointer (some ⟨R, 0, none⟩))).drew.setCell ⟨X, 0, none⟩ (.pointer none)).setCell ⟨X, 3, none⟩ (.pointer none)).setCell ⟨X, 4, none⟩ (.pointer none)) Q { rq with nxt := some R } := by rw [s4]; exact k4Q.other _ nXQ.symm
  have k5R : World.nodeAt (((((w.setCell ⟨R, 3, none⟩ (.pointer (some ⟨Q, 0, none⟩))).drew.setCell ⟨Q, 4, none⟩ (.pointer (some ⟨R, 0, none⟩))).drew.setCell ⟨X, 0, none⟩ (.pointer none)).setCell ⟨X, 3, none⟩ (.pointer none)).setCell ⟨X, 4, none⟩ (.pointer none)) R { rr with prv := some Q } := by rw [s4]; exact k4R.other _ nXR.symm
  have c0Xpar : w.cell? ⟨X, 0, none⟩ = some (.pointer (some ⟨P, 0, none⟩)) := by
    have hh := k0X.par
    simp only [h0] at hh
    exact hh
  have c0Xprv : w.cell? ⟨X, 3, none⟩ = some (.pointer (some ⟨Q, 0, none⟩)) := by
    have hh := k0X.prv
    simp only [h3] at hh
    exact hh
  have c0Xnxt : w.cell? ⟨X, 4, none⟩ = some (.pointer (some ⟨R, 0, none⟩)) := by
    have hh := k0X.nxt
    simp only [h4] at hh
    exact hh
  have c0Pfst : w.cell? ⟨P, 1, none⟩ = some (.pointer (some ⟨f, 0, none⟩)) := by
    have hh := k0P.fst
    simp only [h1] at hh
    exact hh
  have c0Plst : w.cell? ⟨P, 2, none⟩ = some (.pointer (some ⟨l, 0, none⟩)) := by
    have hh := k0P.lst
    simp only [h2] at hh
    exact hh
  obtain ⟨z0Rprv, c0Rprv⟩ : ∃ z, w.cell? ⟨R, 3, none⟩ = some z := ⟨_, k0R.prv⟩
  obtain ⟨z0Qnxt, c0Qnxt⟩ : ∃ z, w.cell? ⟨Q, 4, none⟩ = some z := ⟨_, k0Q.nxt⟩
  have c1Xpar : (w.setCell ⟨R, 3, none⟩ (.pointer (some ⟨Q, 0, none⟩))).drew.cell? ⟨X, 0, none⟩ = some (.pointer (some ⟨P, 0, none⟩)) := by
    have hh := k1X.par
    simp only [h0] at hh
    exact hh
  have c1Xprv : (w.setCell ⟨R, 3, none⟩ (.pointer (some ⟨Q, 0, none⟩))).drew.cell? ⟨X, 3, none⟩ = some (.pointer (some ⟨Q, 0, none⟩)) := by
    have hh := k1X.prv
    simp only [h3] at hh
    exact hh
  have c1Xnxt : (w.setCell ⟨R, 3, none⟩ (.pointer (some ⟨Q, 0, none⟩))).drew.cell? ⟨X, 4, none⟩ = some (.pointer (some ⟨R, 0, none⟩)) := by
    have hh := k1X.nxt
    simp only [h4] at hh
    exact hh
  have c1Pfst : (w.setCell ⟨R, 3, none⟩ (.pointer (some ⟨Q, 0, none⟩))).drew.cell? ⟨P, 1, none⟩ = some (.pointer (some ⟨f, 0, none⟩)) := by
    have hh := k1P.fst
    simp only [h1] at hh
    exact hh
  have c1Plst : (w.setCell ⟨R, 3, none⟩ (.pointer (some ⟨Q, 0, none⟩))).drew.cell? ⟨P, 2, none⟩ = some (.pointer (some ⟨l, 0, none⟩)) := by
    have hh := k1P.lst
    simp only [h2] at hh
    exact hh
  have c1Rprv : (w.setCell ⟨R, 3, none⟩ (.pointer (some ⟨Q, 0, none⟩))).drew.cell? ⟨R, 3, none⟩ = some (.pointer (some ⟨Q, 0, none⟩)) := by
    have hh := k1R.prv
    exact hh
  obtain ⟨z1Qnxt, c1Qnxt⟩ : ∃ z, (w.setCell ⟨R, 3, none⟩ (.pointer (some ⟨Q, 0, none⟩))).drew.cell? ⟨Q, 4, none⟩ = some z := ⟨_, k1Q.nxt⟩
  have f1P := k1P.free
  have f1X := k1X.free
  have f1Q := k1Q.free
  have f1R := k1R.free
  have q9 := neq_same w P
  have q0 : (binOp .eql 75 (.pointer (some ⟨f, 0, none⟩)) (.pointer (some ⟨X, 0, none⟩))).run Tryz.prog w = .ok (.bool false) w := by
    refine eql_other ?_ k0X.alive nf
    exact af
  have q1 : (binOp .eql 75 (.pointer (some ⟨l, 0, none⟩)) (.pointer (some ⟨X, 0, none⟩))).run Tryz.prog (w.setCell ⟨R, 3, none⟩ (.pointer (some ⟨Q, 0, none⟩))).drew = .ok (.bool false) (w.setCell ⟨R, 3, none⟩ (.pointer (some ⟨Q, 0, none⟩))).drew := by
    refine eql_other ?_ k1X.alive nl
    rw [s0]
    refine alive_putN (w := w) ?_ k0R _
    exact al
  have fin : (((((w.setCell ⟨R, 3, none⟩ (.pointer (some ⟨Q, 0, none⟩))).drew.setCell ⟨Q, 4, none⟩ (.pointer (some ⟨R, 0, none⟩))).drew.setCell ⟨X, 0, none⟩ (.pointer none)).setCell ⟨X, 3, none⟩ (.pointer none)).setCell ⟨X, 4, none⟩ (.pointer none)) = World.putN (World.putN (World.putN w R { rr with prv := some Q }).drew Q { rq with nxt := some R }).drew X { rx with par := none, prv := none, nxt := none } := by
    rw [s4, s3, s2, s1, s0]
    simp only [World.putN_putN]
    try rfl
  have FIN := Lib.hid fin
  clear fin hp hx hq hr k0P k0X k0Q k0R k1P k1X k1Q k1R k2P k2X k2Q k2R k3P k3X k3Q k3R k4P k4X k4Q k4R k5P k5X k5Q k5R s0 s1 s2 s3 s4 h0 h3 h4 h2 h1 af al
  go_enter Tryz.func87, Tryz.ntmps87
  go_wp2
  go_still_tail 10, (by kernel_rfl)
  go_wp2
  generalize hwz1 : (w.setCell ⟨R, 3, none⟩ (.pointer (some ⟨Q, 0, none⟩))).drew = wz1 at *
  go_still_tail 10, (by kernel_rfl)
  go_wp2
  go_end0
  exact ⟨rfl, _, rfl, _, rfl, FIN.out.symm⟩

set_option maxRecDepth 100000 in
set_option maxHeartbeats 1000000 in
theorem insertBefore_nn (P X : Nat) (rp rx : NRec) (w : World) (hp : World.nodeAt w P rp) (hx : World.nodeAt w X rx) (nPX : P ≠ X) (h0 : rx.par = none) (h3 : rx.prv = none) (h4 : rx.nxt = none) (h2 : rp.lst = none) :
    Calls Tryz.prog 84 #[.pointer (some ⟨P, 0, none⟩), .pointer (some ⟨X, 0, none⟩), .pointer none] w fun e w' => e = .returned (.tuple #[]) ∧
      ∃ w1, World.putN w P { rp with fst := some X, lst := some X } = w1 ∧ World.putN w1 X { rx with par := some P, prv := none, nxt := none } = w' := by
  have k0P := hp
  have fP := hp.free
  have k0X := hx
  have fX := hx.free
  have s0 : (w.setCell ⟨P, 1, none⟩ (.pointer (some ⟨X, 0, none⟩))) = World.putN w P { rp with fst := some X } := setCell_fst k0P (some X)
  have k1P : World.nodeAt (w.setCell ⟨P, 1, none⟩ (.pointer (some ⟨X, 0, none⟩))) P { rp with fst := some X } := by rw [s0]; exact k0P.put _
  have k1X : World.nodeAt (w.setCell ⟨P, 1, none⟩ (.pointer (some ⟨X, 0, none⟩))) X rx := by rw [s0]; exact k0X.other _ nPX.symm
  have s1 : ((w.setCell ⟨P, 1, none⟩ (.pointer (some ⟨X, 0, none⟩))).setCell ⟨P, 2, none⟩ (.pointer (some ⟨X, 0, none⟩))) = World.putN (w.setCell ⟨P, 1, none⟩ (.pointer (some ⟨X, 0, none⟩))) P { rp with fst := some X, lst := some X } := setCell_lst k1P (some X)
  have k2P : World.nodeAt ((w.setCell ⟨P, 1, none⟩ (.pointer (some ⟨X, 0, none⟩))).setCell ⟨P, 2, none⟩ (.pointer (some ⟨X, 0, none⟩))) P { rp with fst := some X, lst := some X } := by rw [s1]; exact k1P.put _
  have k2X : World.nodeAt ((w.setCell ⟨P, 1, none⟩ (.pointer (some ⟨X, 0, none⟩))).setCell ⟨P, 2, none⟩ (.pointer (some ⟨X, 0, none⟩))) X rx := by rw [s1]; exact k1X.other _ nPX.symm
  have s2 : (((w.setCell ⟨P, 1, none⟩ (.pointer (some ⟨X, 0, none⟩))).setCell ⟨P, 2, none⟩ (.pointer (some ⟨X, 0, none⟩))).setCell ⟨X, 0, none⟩ (.pointer (some ⟨P, 0, none⟩))) = World.putN ((w.setCell ⟨P, 1, none⟩ (.pointer (some ⟨X, 0, none⟩))).setCell ⟨P, 2, none⟩ (.pointer (some ⟨X, 0, none⟩))) X { rx with par := some P } := setCell_par k2X (some P)
  have k3P : World.nodeAt (((w.setCell ⟨P, 1, none⟩ (.pointer (some ⟨X, 0, none⟩))).setCell ⟨P, 2, none⟩ (.pointer (some ⟨X, 0, none⟩))).setCell ⟨X, 0, none⟩ (.pointer (some ⟨P, 0, none⟩))) P { rp with fst := some X, lst := some X } := by rw [s2]; exact k2P.other _ nPX
  have k3X : World.nodeAt (((w.setCell ⟨P, 1, none⟩ (.pointer (some ⟨X, 0, none⟩))).setCell ⟨P, 2, none⟩ (.pointer (some ⟨X, 0, none⟩))).setCell ⟨X, 0, none⟩ (.pointer (some ⟨P, 0, none⟩))) X { rx with par := some P } := by rw [s2]; exact k2X.put _
  have s3 : ((((w.setCell ⟨P, 1, none⟩ (.pointer (some ⟨X, 0, none⟩))).setCell ⟨P, 2, none⟩ (.pointer (some ⟨X, 0, none⟩))).setCell ⟨X, 0, none⟩ (.pointer (some ⟨P, 0, none⟩))).setCell ⟨X, 3, none⟩ (.pointer none)) = World.putN (((w.setCell ⟨P, 1, none⟩ (.pointer (some ⟨X, 0, none⟩))).setCell ⟨P, 2, none⟩ (.pointer (some ⟨X, 0, none⟩))).setCell ⟨X, 0, none⟩ (.pointer (some ⟨P, 0, none⟩))) X { rx with par := some P, prv := none } := setCell_prv k3X none
  have k4P : World.nodeAt ((((w.setCell ⟨P, 1, none⟩ (.pointer (some ⟨X, 0, none⟩))).setCell ⟨P, 2, none⟩ (.pointer (some ⟨X, 0, none⟩))).setCell ⟨X, 0, none⟩ (.pointer (some ⟨P, 0, none⟩))).setCell ⟨X, 3, none⟩ (.pointer none)) P { rp with fst := some X, lst := some X } := by rw [s3]; exact k3P.other _ nPX
  have k4X : World.nodeAt ((((w.setCell ⟨P, 1, none⟩ (.pointer (some ⟨X, 0, none⟩))).setCell ⟨P, 2, none⟩ (.pointer (some ⟨X, 0, none⟩))).setCell ⟨X, 0, none⟩ (.pointer (some ⟨P, 0, none⟩))).setCell ⟨X, 3, none⟩ (.pointer none)) X { rx with par := some P, prv := none } := by rw [s3]; exact k3X.put _
  have s4 : (((((w.setCell ⟨P, 1, none⟩ (.pointer (some ⟨X, 0, none⟩))).setCell ⟨P, 2, none⟩ (.pointer (some ⟨X, 0, none⟩))).setCell ⟨X, 0, none⟩ (.pointer (some ⟨P, 0, none⟩))).setCell ⟨X, 3, none⟩ (.pointer none)).setCell ⟨X, 4, none⟩ (.pointer none)) = World.putN ((((w.setCell ⟨P, 1, none⟩ (.pointer (some ⟨X, 0, none⟩))).setCell ⟨P, 2, none⟩ (.pointer (some ⟨X, 0, none⟩))).setCell ⟨X, 0, none⟩ (.pointer (some ⟨P, 0, none⟩))).setCell ⟨X, 3, none⟩ (.pointer none)) X { rx with par := some P, prv := none, nxt := none } := setCell_nxt k4X none
  have k5P : World.nodeAt (((((w.setCell ⟨P, 1, none⟩ (.pointer (some ⟨X, 0, none⟩))).setCell ⟨P, 2, none⟩ (.pointer (some ⟨X, 0, none⟩))).setCell ⟨X, 0, none⟩ (.pointer (some ⟨P, 0, none⟩))).setCell ⟨X, 3, none⟩ (.pointer none)).setCell ⟨X, 4, none⟩ (.pointer none)) P { rp with fst := some X, lst := some X } := by rw [s4]; exact k4P.other _ nPX
  have k5X : World.nodeAt (((((w.setCell ⟨P, 1, none⟩ (.pointer (some ⟨X, 0, none⟩))).setCell ⟨P, 2, none⟩ (.pointer (some ⟨X, 0, none⟩))).setCell ⟨X, 0, none⟩ (.pointer (some ⟨P, 0, none⟩))).setCell ⟨X, 3, none⟩ (.pointer none)).setCell ⟨X, 4, none⟩ (.pointer none)) X { rx with par := some P, prv := none, nxt := none } := by rw [s4]; exact k4X.put _
  have c0Xpar : w.cell? ⟨X, 0, none⟩ = some (.pointer none) := by
    have hh := k0X.par
    simp only [h0] at hh
    exact hh
  have c0Xprv : w.cell? ⟨X, 3, none⟩ = some (.pointer none) := by
    have hh := k0X.prv
    simp only [h3] at hh
    exact hh
  have c0Xnxt : w.cell? ⟨X, 4, none⟩ = some (.pointer none) := by
    have hh := k0X.nxt
    simp only [h4] at hh
    exact hh
  obtain ⟨z0Pfst, c0Pfst⟩ : ∃ z, w.cell? ⟨P, 1, none⟩ = some z := ⟨_, k0P.fst⟩
  have c0Plst : w.cell? ⟨P, 2, none⟩ = some (.pointer none) := by
    have hh := k0P.lst
    simp only [h2] at hh
    exact hh
  have fin : (((((w.setCell ⟨P, 1, none⟩ (.pointer (some ⟨X, 0, none⟩))).setCell ⟨P, 2, none⟩ (.pointer (some ⟨X, 0, none⟩))).setCell ⟨X, 0, none⟩ (.pointer (some ⟨P, 0, none⟩))).setCell ⟨X, 3, none⟩ (.pointer none)).setCell ⟨X, 4, none⟩ (.pointer none)) = World.putN (World.putN w P { rp with fst := some X, lst := some X }) X { rx with par := some P, prv := none, nxt := none } := by
    rw [s4, s3, s2, s1, s0]
    simp only [World.putN_putN]
    try rfl
  have FIN := Lib.hid fin
  clear fin hp hx k0P k0X k1P k1X k2P k2X k3P k3X k4P k4X k5P k5X s0 s1 s2 s3 s4 h0 h3 h4 h2
  go_enter Tryz.func84, Tryz.ntmps84
  go_wp2
  go_end0
  exact ⟨rfl, _, rfl, FIN.out.symm⟩

set_option maxRecDepth 100000 in
set_option maxHeartbeats 1000000 in
theorem insertBefore_ns (P X R : Nat) (rp rx rr : NRec) (w : World) (hp : World.nodeAt w P rp) (hx : World.nodeAt w X rx) (hr : World.nodeAt w R rr) (nPX : P ≠ X) (nPR : P ≠ R) (nXR : X ≠ R) (h0 : rx.par = none) (h3 : rx.prv = none) (h4 : rx.nxt = none) (h2 : rr.prv = none) :
    Calls Tryz.prog 84 #[.pointer (some ⟨P, 0, none⟩), .pointer (some ⟨X, 0, none⟩), .pointer (some ⟨R, 0, none⟩)] w fun e w' => e = .returned (.tuple #[]) ∧
      ∃ w1, World.putN w P { rp with fst := some X } = w1 ∧ ∃ w2, World.putN w1 R { rr with prv := some X } = w2 ∧ World.putN w2 X { rx with par := some P, prv := none, nxt := some R } = w' := by
  have k0P := hp
  have fP := hp.free
  have k0X := hx
  have fX := hx.free
  have k0R := hr
  have fR := hr.free
  have s0 : (w.setCell ⟨P, 1, none⟩ (.pointer (some ⟨X, 0, none⟩))) = World.putN w P { rp with fst := some X } := setCell_fst k0P (some X)
  have k1P : World.nodeAt (w.setCell ⟨P, 1, none⟩ (.pointer (some ⟨X, 0, none⟩))) P { rp with fst := some X } := by rw [s0]; exact k0P.put _
  have k1X : World.nodeAt (w.setCell ⟨P, 1, none⟩ (.pointer (some ⟨X, 0, none⟩))) X rx := by rw [s0]; exact k0X.other _ nPX.symm
  have k1R : World.nodeAt (w.setCell ⟨P, 1, none⟩ (.pointer (some ⟨X, 0, none⟩))) R rr := by rw [s0]; exact k0R.other _ nPR.symm
  have s1 : ((w.setCell ⟨P, 1, none⟩ (.pointer (some ⟨X, 0, none⟩))).setCell ⟨R, 3, none⟩ (.pointer (some ⟨X, 0, none⟩))) = World.putN (w.setCell ⟨P, 1, none⟩ (.pointer (some ⟨X, 0, none⟩))) R { rr with prv := some X } := setCell_prv k1R (some X)
  have k2P : World.nodeAt ((w.setCell ⟨P, 1, none⟩ (.pointer (some ⟨X, 0, none⟩))).setCell ⟨R, 3, none⟩ (.pointer (some ⟨X, 0, none⟩))) P { rp with fst := some X } := by rw [s1]; exact k1P.other _ nPR
  have k2X : World.nodeAt ((w.setCell ⟨P, 1, none⟩ (.pointer (some ⟨X, 0, none⟩))).setCell ⟨R, 3, none⟩ (.pointer (some ⟨X, 0, none⟩))) X rx := by rw [s1]; exact k1X.other _ nXR
  have k2R : World.nodeAt ((w.setCell ⟨P, 1, none⟩ (.pointer (some ⟨X, 0, none⟩))).setCell ⟨R, 3, none⟩ (.pointer (some ⟨X, 0, none⟩))) R { rr with prv := some X } := by rw [s1]; exact k1R.put _
  have s2 : (((w.setCell ⟨P, 1, none⟩ (.pointer (some ⟨X, 0, none⟩))).setCell ⟨R, 3, none⟩ (.pointer (some ⟨X, 0, none⟩))).setCell ⟨X, 0, none⟩ (.pointer (some ⟨P, 0, none⟩))) = World.putN ((w.setCell ⟨P, 1, none⟩ (.pointer (some ⟨X, 0, none⟩))).setCell ⟨R, 3, none⟩ (.pointer (some ⟨X, 0, none⟩))) X { rx with par := some P } := setCell_par k2X (some P)
  have k3P : World.nodeAt (((w.setCell ⟨P, 1, none⟩ (.pointer (some ⟨X, 0, none⟩))).setCell ⟨R, 3, none⟩ (.pointer (some ⟨X, 0, none⟩))).setCell ⟨X, 0, none⟩ (.pointer (some ⟨P, 0, none⟩))) P { rp with fst := some X } := by rw [s2]; exact k2P.other _ nPX
  have k3X : World.nodeAt (((w.setCell ⟨P, 1, none⟩ (.pointer (some ⟨X, 0, none⟩))).setCell ⟨R, 3, none⟩ (.pointer (some ⟨X, 0, none⟩))).setCell ⟨X, 0, none⟩ (.pointer (some ⟨P, 0, none⟩))) X { rx with par := some P } := by rw [s2]; exact k2X.put _
  have k3R : World.nodeAt (((w.setCell ⟨P, 1, none⟩ (.pointer (some ⟨X, 0, none⟩))).setCell ⟨R, 3, none⟩ (.pointer (some ⟨X, 0, none⟩))).setCell ⟨X, 0, none⟩ (.pointer (some ⟨P, 0, none⟩))) R { rr with prv := some X } := by rw [s2]; exact k2R.other _ nXR.symm
  have s3 : ((((w.setCell ⟨P, 1, none⟩ (.pointer (some ⟨X, 0, none⟩))).setCell ⟨R, 3, none⟩ (.pointer (some ⟨X, 0, none⟩))).setCell ⟨X, 0, none⟩ (.pointer (some ⟨P, 0, none⟩))).setCell ⟨X, 3, none⟩ (.pointer none)) = World.putN (((w.setCell ⟨P, 1, none⟩ (.pointer (some ⟨X, 0, none⟩))).setCell ⟨R, 3, none⟩ (.pointer (some ⟨X, 0, none⟩))).setCell ⟨X, 0, none⟩ (.pointer (some ⟨P, 0, none⟩))) X { rx with par := some P, prv := none } := setCell_prv k3X none
  have k4P : World.nodeAt ((((w.setCell ⟨P, 1, none⟩ (.pointer (some ⟨X, 0, none⟩))).setCell ⟨R, 3, none⟩ (.pointer (some ⟨X, 0, none⟩))).setCell ⟨X, 0, none⟩ (.pointer (some ⟨P, 0, none⟩))).setCell ⟨X, 3, none⟩ (.pointer none)) P { rp with fst := some X } := by rw [s3]; exact k3P.other _ nPX
  have k4X : World.nodeAt ((((w.setCell ⟨P, 1, none⟩ (.pointer (some ⟨X, 0, none⟩))).setCell ⟨R, 3, none⟩ (.pointer (some ⟨X, 0, none⟩))).setCell ⟨X, 0, none⟩ (.pointer (some ⟨P, 0, none⟩))).setCell ⟨X, 3, none⟩ (.pointer none)) X { rx with par := some P, prv := none } := by rw [s3]; exact k3X.put _
  have k4R : World.nodeAt ((((w.setCell ⟨P, 1, none⟩ (.pointer (some ⟨X, 0, none⟩))).setCell ⟨R, 3, none⟩ (.pointer (some ⟨X, 0, none⟩))).setCell ⟨X, 0, none⟩ (.pointer (some ⟨P, 0, none⟩))).setCell ⟨X, 3, none⟩ (.pointer none)) R { rr with prv := some X } := by rw [s3]; exact k3R.other _ nXR.symm
  have s4 : (((((w.setCell ⟨P, 1, none⟩ (.pointer (some ⟨X, 0, none⟩))).setCell ⟨R, 3, none⟩ (.pointer (some ⟨X, 0, none⟩))).setCell ⟨X, 0, none⟩ (.pointer (some ⟨P, 0, none⟩))).setCell ⟨X, 3, none⟩ (.pointer none)).setCell ⟨X, 4, none⟩ (.pointer (some ⟨R, 0, none⟩))) = World.putN ((((w.setCell ⟨P, 1, none⟩ (.pointer (some ⟨X, 0, none⟩))).setCell ⟨R, 3, none⟩ (.pointer (some ⟨X, 0, none⟩))).setCell ⟨X, 0, none⟩ (.pointer (some ⟨P, 0, none⟩))).setCell ⟨X, 3, none⟩ (.pointer none)) X { rx with par := some P, prv := none, nxt := some R } := setCell_nxt k4X (some R)
  have k5P : World.nodeAt (((((w.setCell ⟨P, 1, none⟩ (.pointer (some ⟨X, 0, none⟩))).setCell ⟨R, 3, none⟩ (.pointer (some ⟨X, 0, none⟩))).setCell ⟨X, 0, none⟩ (.pointer (some ⟨P, 0, none⟩))).setCell ⟨X, 3, none⟩ (.pointer none)).setCell ⟨X, 4, none⟩ (.pointer (some ⟨R, 0, none⟩))) P { rp with fst := some X } := by rw [s4]; exact k4P.other _ nPX
  have k5X : World.nodeAt (((((w.setCell ⟨P, 1, none⟩ (.pointer (some ⟨X, 0, none⟩))).setCell ⟨R, 3, none⟩ (.pointer (some ⟨X, 0, none⟩))).setCell ⟨X, 0, none⟩ (.pointer (some ⟨P, 0, none⟩))).setCell ⟨X, 3, none⟩ (.pointer none)).setCell ⟨X, 4, none⟩ (.pointer (some ⟨R, 0, none⟩))) X { rx with par := some P, prv := none, nxt := some R } := by rw [s4]; exact k4X.put _
  have k5R : World.nodeAt (((((w.setCell ⟨P, 1, none⟩ (.pointer (some ⟨X, 0, none⟩))).setCell ⟨R, 3, none⟩ (.pointer (some ⟨X, 0, none⟩))).setCell ⟨X, 0, none⟩ (.pointer (some ⟨P, 0, none⟩))).setCell ⟨X, 3, none⟩ (.pointer none)).setCell ⟨X, 4, none⟩ (.pointer (some ⟨R, 0, none⟩))) R { rr with prv := some X } := by rw [s4]; exact k4R.other _ nXR.symm
  have c0Xpar : w.cell? ⟨X, 0, none⟩ = some (.pointer none) := by
    have hh := k0X.par
    simp only [h0] at hh
    exact hh
  have c0Xprv : w.cell? ⟨X, 3, none⟩ = some (.pointer none) := by
    have hh := k0X.prv
    simp only [h3] at hh
    exact hh
  have c0Xnxt : w.cell? ⟨X, 4, none⟩ = some (.pointer none) := by
    have hh := k0X.nxt
    simp only [h4] at hh
    exact hh
  obtain ⟨z0Pfst, c0Pfst⟩ : ∃ z, w.cell? ⟨P, 1, none⟩ = some z := ⟨_, k0P.fst⟩
  obtain ⟨z0Plst, c0Plst⟩ : ∃ z, w.cell? ⟨P, 2, none⟩ = some z := ⟨_, k0P.lst⟩
  have c0Rprv : w.cell? ⟨R, 3, none⟩ = some (.pointer none) := by
    have hh := k0R.prv
    simp only [h2] at hh
    exact hh
  have fin : (((((w.setCell ⟨P, 1, none⟩ (.pointer (some ⟨X, 0, none⟩))).setCell ⟨R, 3, none⟩ (.pointer (some ⟨X, 0, none⟩))).setCell ⟨X, 0, none⟩ (.pointer (some ⟨P, 0, none⟩))).setCell ⟨X, 3, none⟩ (.pointer none)).setCell ⟨X, 4, none⟩ (.pointer (some ⟨R, 0, none⟩))) = World.putN (World.putN (World.putN w P { rp with fst := some X }) R { rr with prv := some X }) X { rx with par := some P, prv := none, nxt := some R } := by
    rw [s4, s3, s2, s1, s0]
    simp only [World.putN_putN]
    try rfl
  have FIN := Lib.hid fin
  clear fin hp hx hr k0P k0X k0R k1P k1X k1R k2P k2X k2R k3P k3X k3R k4P k4X k4R k5P k5X k5R s0 s1 s2 s3 s4 h0 h3 h4 h2
  go_enter Tryz.func84, Tryz.ntmps84
  go_wp2
  go_end0
  exact ⟨rfl, _, rfl, _, rfl, FIN.out.symm⟩

set_option maxRecDepth 100000 in
set_option maxHeartbeats 1000000 in
theorem insertBefore_sn (P X Q : Nat) (rp rx rq : NRec) (w : World) (hp : World.nodeAt w P rp) (hx : World.nodeAt w X rx) (hq : World.nodeAt w Q rq) (nPX : P ≠ X) (nPQ : P ≠ Q) (nXQ : X ≠ Q) (h0 : rx.par = none) (h3 : rx.prv = none) (h4 : rx.nxt = none) (h2 : rp.lst = some Q) :
    Calls Tryz.prog 84 #[.pointer (some ⟨P, 0, none⟩), .pointer (some ⟨X, 0, none⟩), .pointer none] w fun e w' => e = .returned (.tuple #[]) ∧
      ∃ w1, World.putN w Q { rq with nxt := some X } = w1 ∧ ∃ w2, World.putN w1 P { rp with lst := some X } = w2 ∧ World.putN w2 X { rx with par := some P, prv := some Q, nxt := none } = w' := by
  have k0P := hp
  have fP := hp.free
  have k0X := hx
  have fX := hx.free
  have k0Q := hq
  have fQ := hq.free
  have s0 : (w.setCell ⟨Q, 4, none⟩ (.pointer (some ⟨X, 0, none⟩))) = World.putN w Q { rq with nxt := some X } := setCell_nxt k0Q (some X)
  have k1P : World.nodeAt (w.setCell ⟨Q, 4, none⟩ (.pointer (some ⟨X, 0, none⟩))) P rp := by rw [s0]; exact k0P.other _ nPQ
  have k1X : World.nodeAt (w.setCell ⟨Q, 4, none⟩ (.pointer (some ⟨X, 0, none⟩))) X rx := by rw [s0]; exact k0X.other _ nXQ
  have k1Q : World.nodeAt (w.setCell ⟨Q, 4, none⟩ (.pointer (some ⟨X, 0, none⟩))) Q { rq with nxt := some X } := by rw [s0]; exact k0Q.put _
  have s1 : ((w.setCell ⟨Q, 4, none⟩ (.pointer (some ⟨X, 0, none⟩))).setCell ⟨P, 2, none⟩ (.pointer (some ⟨X, 0, none⟩))) = World.putN (w.setCell ⟨Q, 4, none⟩ (.pointer (some ⟨X, 0, none⟩))) P { rp with lst := some X } := setCell_lst k1P (some X)
  have k2P : World.nodeAt ((w.setCell ⟨Q, 4, none⟩ (.pointer (some ⟨X, 0, none⟩))).setCell ⟨P, 2, none⟩ (.pointer (some ⟨X, 0, none⟩))) P { rp with lst := some X } := by rw [s1]; exact k1P.put _
  have k2X : World.nodeAt ((w.setCell ⟨Q, 4, none⟩ (.pointer (some ⟨X, 0, none⟩))).setCell ⟨P, 2, none⟩ (.pointer (some ⟨X, 0, none⟩))) X rx := by rw [s1]; exact k1X.other _ nPX.symm
  have k2Q : World.nodeAt ((w.setCell ⟨Q, 4, none⟩ (.pointer (some ⟨X, 0, none⟩))).setCell ⟨P, 2, none⟩ (.pointer (some ⟨X, 0, none⟩))) Q { rq with nxt := some X } := by rw [s1]; exact k1Q.other _ nPQ.symm
  have s2 : (((w.setCell ⟨Q, 4, none⟩ (.pointer (some ⟨X, 0, none⟩))).setCell ⟨P, 2, none⟩ (.pointer (some ⟨X, 0, none⟩))).setCell ⟨X, 0, none⟩ (.pointer (some ⟨P, 0, none⟩))) = World.putN ((w.setCell ⟨Q, 4, none⟩ (.pointer (some ⟨X, 0, none⟩))).setCell ⟨P, 2, none⟩ (.pointer (some ⟨X, 0, none⟩))) X { rx with par := some P } := setCell_par k2X (some P)
  have k3P : World.nodeAt (((w.setCell ⟨Q, 4, none⟩ (.pointer (some ⟨X, 0, none⟩))).setCell ⟨P, 2, none⟩ (.pointer (some ⟨X, 0, none⟩))).setCell ⟨X, 0, none⟩ (.pointer (some ⟨P, 0, none⟩))) P { rp with lst := some X } := by rw [s2]; exact k2P.other _ nPX
  have k3X : World.nodeAt (((w.setCell ⟨Q, 4, none⟩ (.pointer (some ⟨X, 0, none⟩))).setCell ⟨P, 2, none⟩ (.pointer (some ⟨X, 0, none⟩))).setCell ⟨X, 0, none⟩ (.pointer (some ⟨P, 0, none⟩))) X { rx with par := some P } := by rw [s2]; exact k2X.put _
  have k3Q : World.nodeAt (((w.setCell ⟨Q, 4, none⟩ (.pointer (some ⟨X, 0, none⟩))).setCell ⟨P, 2, none⟩ (.pointer (some ⟨X, 0, none⟩))).setCell ⟨X, 0, none⟩ (.pointer (some ⟨P, 0, none⟩))) Q { rq with nxt := some X } := by rw [s2]; exact k2Q.other _ nXQ.symm
  have s3 : ((((w.setCell ⟨Q, 4, none⟩ (.pointer (some ⟨X, 0, none⟩))).setCell ⟨P, 2, none⟩ (.pointer (some ⟨X, 0, none⟩))).setCell ⟨X, 0, none⟩ (.pointer (some ⟨P, 0, none⟩))).setCell ⟨X, 3, none⟩ (.pointer (some ⟨Q, 0, none⟩))) = World.putN (((w.setCell ⟨Q, 4, none⟩ (.pointer (some ⟨X, 0, none⟩))).setCell ⟨P, 2, none⟩ (.pointer (some ⟨X, 0, none⟩))).setCell ⟨X, 0, none⟩ (.pointer (some ⟨P, 0, none⟩))) X { rx with par := some P, prv := some Q } := setCell_prv k3X (some Q)
  have k4P : World.nodeAt ((((w.setCell ⟨Q, 4, none⟩ (.pointer (some ⟨X, 0, none⟩))).setCell ⟨P, 2, none⟩ (.pointer (some ⟨X, 0, none⟩))).setCell ⟨X, 0, none⟩ (.pointer (some ⟨P, 0, none⟩))).setCell ⟨X, 3, none⟩ (.pointer (some ⟨Q, 0, none⟩))) P { rp with lst := some X } := by rw [s3]; exact k3P.other _ nPX
  have k4X : World.nodeAt ((((w.setCell ⟨Q, 4, none⟩ (.pointer (some ⟨X, 0, none⟩))).setCell ⟨P, 2, none⟩ (.pointer (some ⟨X, 0, none⟩))).setCell ⟨X, 0, none⟩ (.pointer (some ⟨P, 0, none⟩))).setCell ⟨X, 3, none⟩ (.pointer (some ⟨Q, 0, none⟩))) X { rx with par := some P, prv := some Q } := by rw [s3]; exact k3X.put _
  have k4Q : World.nodeAt ((((w.setCell ⟨Q, 4, none⟩ (.pointer (some ⟨X, 0, none⟩))).setCell ⟨P, 2, none⟩ (.pointer (some ⟨X, 0, none⟩))).setCell ⟨X, 0, none⟩ (.pointer (some ⟨P, 0, none⟩))).setCell ⟨X, 3, none⟩ (.pointer (some ⟨Q, 0, none⟩))) Q { rq with nxt := some X } := by rw [s3]; exact k3Q.other _ nXQ.symm
  have s4 : (((((w.setCell ⟨Q, 4, none⟩ (.pointer (some ⟨X, 0, none⟩))).setCell ⟨P, 2, none⟩ (.pointer (some ⟨X, 0, none⟩))).setCell ⟨X, 0, none⟩ (.pointer (some ⟨P, 0, none⟩))).setCell ⟨X, 3, none⟩ (.pointer (some ⟨Q, 0, none⟩))).setCell ⟨X, 4, none⟩ (.pointer none)) = World.putN ((((w.setCell ⟨Q, 4, none⟩ (.pointer (some ⟨X, 0, none⟩))).setCell ⟨P, 2, none⟩ (.pointer (some ⟨X, 0, none⟩))).setCell ⟨X, 0, none⟩ (.pointer (some ⟨P, 0, none⟩))).setCell ⟨X, 3, none⟩ (.pointer (some ⟨Q, 0, none⟩))) X { rx with par := some P, prv := some Q, nxt := none } := setCell_nxt k4X none
  have k5P : World.nodeAt (((((w.setCell ⟨Q, 4, none⟩ (.pointer (some ⟨X, 0, none⟩))).setCell ⟨P, 2, none⟩ (.pointer (some ⟨X, 0, none⟩))).setCell ⟨X, 0, none⟩ (.pointer (some ⟨P, 0, none⟩))).setCell ⟨X, 3, none⟩ (.pointer (some ⟨Q, 0, none⟩))).setCell ⟨X, 4, none⟩ (.pointer none)) P { rp with lst := some X } := by rw [s4]; exact k4P.other _ nPX
  have k5X : World.nodeAt (((((w.setCell ⟨Q, 4, none⟩ (.pointer (some ⟨X, 0, none⟩))).setCell ⟨P, 2, none⟩ (.pointer (some ⟨X, 0, none⟩))).setCell ⟨X, 0, none⟩ (.pointer (some ⟨P, 0, none⟩))).setCell ⟨X, 3, none⟩ (.pointer (some ⟨Q, 0, none⟩))).setCell ⟨X, 4, none⟩ (.pointer none)) X { rx with par := some P, prv := some Q, nxt := none } := by rw [s4]; exact k4X.put _
  have k5Q : World.nodeAt (((((w.setCell ⟨Q, 4, none⟩ (.pointer (some ⟨X, 0, none⟩))).setCell ⟨P, 2, none⟩ (.pointer (some ⟨X, 0, none⟩))).setCell ⟨X, 0, none⟩ (.pointer (some ⟨P, 0, none⟩))).setCell ⟨X, 3, none⟩ (.pointer (some ⟨Q, 0, none⟩))).setCell ⟨X, 4, none⟩ (.pointer none)) Q { rq with nxt := some X } := by rw [s4]; exact k4Q.other _ nXQ.symm
  have c0Xpar : w.cell? ⟨X, 0, none⟩ = some (.pointer none) := by
    have hh := k0X.par
    simp only [h0] at hh
    exact hh
  have c0Xprv : w.cell? ⟨X, 3, none⟩ = some (.pointer none) := by
    have hh := k0X.prv
    simp only [h3] at hh
    exact hh
  have c0Xnxt : w.cell? ⟨X, 4, none⟩ = some (.pointer none) := by
    have hh := k0X.nxt
    simp only [h4] at hh
    exact hh
  obtain ⟨z0Pfst, c0Pfst⟩ : ∃ z, w.cell? ⟨P, 1, none⟩ = some z := ⟨_, k0P.fst⟩
  have c0Plst : w.cell? ⟨P, 2, none⟩ = some (.pointer (some ⟨Q, 0, none⟩)) := by
    have hh := k0P.lst
    simp only [h2] at hh
    exact hh
  obtain ⟨z0Qnxt, c0Qnxt⟩ : ∃ z, w.cell? ⟨Q, 4, none⟩ = some z := ⟨_, k0Q.nxt⟩
  have fin : (((((w.setCell ⟨Q, 4, none⟩ (.pointer (some ⟨X, 0, none⟩))).setCell ⟨P, 2, none⟩ (.pointer (some ⟨X, 0, none⟩))).setCell ⟨X, 0, none⟩ (.pointer (some ⟨P, 0, none⟩))).setCell ⟨X, 3, none⟩ (.pointer (some ⟨Q, 0, none⟩))).setCell ⟨X, 4, none⟩ (.pointer none)) = World.putN (World.putN (World.putN w Q { rq with nxt := some X }) P { rp with lst := some X }) X { rx with par := some P, prv := some Q, nxt := none } := by
    rw [s4, s3, s2, s1, s0]
    simp only [World.putN_putN]
    try rfl
  have FIN := Lib.hid fin
  clear fin hp hx hq k0P k0X k0Q k1P k1X k1Q k2P k2X k2Q k3P k3X k3Q k4P k4X k4Q k5P k5X k5Q s0 s1 s2 s3 s4 h0 h3 h4 h2
  go_enter Tryz.func84, Tryz.ntmps84
  go_wp2
  go_end0
  exact ⟨rfl, _, rfl, _, rfl, FIN.out.symm⟩

set_option maxRecDepth 100000 in
set_option maxHeartbeats 1000000 in
theorem insertBefore_ss (P X Q R : Nat) (rp rx rq rr : NRec) (w : World) (hp : World.nodeAt w P rp) (hx : World.nodeAt w X rx) (hq : World.nodeAt w Q rq) (hr : World.nodeAt w R rr) (nPX : P ≠ X) (nPQ : P ≠ Q) (nPR : P ≠ R) (nXQ : X ≠ Q) (nXR : X ≠ R) (nQR : Q ≠ R) (h0 : rx.par = none) (h3 : rx.prv = none) (h4 : rx.nxt = none) (h2 : rr.prv = some Q) :
    Calls Tryz.prog 84 #[.pointer (some ⟨P, 0, none⟩), .pointer (some ⟨X, 0, none⟩), .pointer (some ⟨R, 0, none⟩)] w fun e w' => e = .returned (.tuple #[]) ∧
      ∃ w1, World.putN w Q { rq with nxt := some X } = w1 ∧ ∃ w2, World.putN w1 R { rr with prv := some X } = w2 ∧ World.putN w2 X { rx with par := some P, prv := some Q, nxt := some R } = w' := by
  have k0P := hp
  have fP := hp.free
  have k0X := hx
  have fX := hx.free
  have k0Q := hq
  have fQ := hq.free
  have k0R := hr
  have fR := hr.free
  have s0 : (w.setCell ⟨Q, 4, none⟩ (.pointer (some ⟨X, 0, none⟩))) = World.putN w Q { rq with nxt := some X } := setCell_nxt k0Q (some X)
  have k1P : World.nodeAt (w.setCell ⟨Q, 4, none⟩ (.pointer (some ⟨X, 0, none⟩))) P rp := by rw [s0]; exact k0P.other _ nPQ
  have k1X : World.nodeAt (w.setCell ⟨Q, 4, none⟩ (.pointer (some ⟨X, 0, none⟩))) X rx := by rw [s0]; exact k0X.other _ nXQ
  have k1Q : World.nodeAt (w.setCell ⟨Q, 4, none⟩ (.pointer (some ⟨X, 0, none⟩))) Q { rq with nxt := some X } := by rw [s0]; exact k0Q.put _
  have k1R : World.nodeAt (w.setCell ⟨Q, 4, none⟩ (.pointer (some ⟨X, 0, none⟩))) R rr := by rw [s0]; exact k0R.other _ nQR.symm
  have s1 : ((w.setCell ⟨Q, 4, none⟩ (.pointer (some ⟨X, 0, none⟩))).setCell ⟨R, 3, none⟩ (.pointer (some ⟨X, 0, none⟩))) = World.putN (w.setCell ⟨Q, 4, none⟩ (.pointer (some ⟨X, 0, none⟩))) R { rr with prv := some X } := setCell_prv k1R (some X)
  have k2P : World.nodeAt ((w.setCell ⟨Q, 4, none⟩ (.pointer (some ⟨X, 0, none⟩))).setCell ⟨R, 3, none⟩ (.pointer (some ⟨X, 0, none⟩))) P rp := by rw [s1]; exact k1P.other _ nPR
  have k2X : World.nodeAt ((w.setCell ⟨Q, 4, none⟩ (.pointer (some ⟨X, 0, none⟩))).setCell ⟨R, 3, none⟩ (.pointer (some ⟨X, 0, none⟩))) X rx := by rw [s1]; exact k1X.other _ nXR
  have k2Q : World.nodeAt ((w.setCell ⟨Q, 4, none⟩ (.pointer (some ⟨X, 0, none⟩))).setCell ⟨R, 3, none⟩ (.pointer (some ⟨X, 0, none⟩))) Q { rq with nxt := some X } := by rw [s1]; exact k1Q.other _ nQR
  have k2R : World.nodeAt ((w.setCell ⟨Q, 4, none⟩ (.pointer (some ⟨X, 0, none⟩))).setCell ⟨R, 3, none⟩ (.pointer (some ⟨X, 0, none⟩))) R { rr with prv := some X } := by rw [s1]; exact k1R.put _
  have s2 : (((w.setCell ⟨Q, 4, none⟩ (.pointer (some ⟨X, 0, none⟩))).setCell ⟨R, 3, none⟩ (.pointer (some ⟨X, 0, none⟩))).setCell ⟨X, 0, none⟩ (.pointer (some ⟨P, 0, none⟩))) = World.putN ((w.setCell ⟨Q, 4, none⟩ (.pointer (some ⟨X, 0, none⟩))).setCell ⟨R, 3, none⟩ (.pointer (some ⟨X, 0, none⟩))) X { rx with par := some P } := setCell_par k2X (some P)
  have k3P : World.nodeAt (((w.setCell ⟨Q, 4, none⟩ (.pointer (some ⟨X, 0, none⟩))).setCell ⟨R, 3, none⟩ (.pointer (some ⟨X, 0, none⟩))).setCell ⟨X, 0, none⟩ (.pointer (some ⟨P, 0, none⟩))) P rp := by rw [s2]; exact k2P.other _ nPX
  have k3X : World.nodeAt (((w.setCell ⟨Q, 4, none⟩ (.pointer (some ⟨X, 0, none⟩))).setCell ⟨R, 3, none⟩ (.pointer (some ⟨X, 0, none⟩))).setCell ⟨X, 0, none⟩ (.pointer (some ⟨P, 0, none⟩))) X { rx with par := some P } := by rw [s2]; exact k2X.put _
  have k3Q : World.nodeAt (((w.setCell ⟨Q, 4, none⟩ (.pointer (some ⟨X, 0, none⟩))).setCell ⟨R, 3, none⟩ (.pointer (some ⟨X, 0, none⟩))).setCell ⟨X, 0, none⟩ (.pointer (some ⟨P, 0, none⟩))) Q { rq with nxt := some X } := by rw [s2]; exact k2Q.other _ nXQ.symm
  have k3R : World.nodeAt (((w.setCell ⟨Q, 4, none⟩ (.pointer (some ⟨X, 0, none⟩))).setCell ⟨R, 3, none⟩ (.pointer (some ⟨X, 0, none⟩))).setCell ⟨X, 0, none⟩ (.pointer (some ⟨P, 0, none⟩))) R { rr with prv := some X } := by rw [s2]; exact k2R.other _ nXR.symm
  have s3 : ((((w.setCell ⟨Q, 4, none⟩ (.pointer (some ⟨X, 0, none⟩))).setCell ⟨R, 3, none⟩ (.pointer (some ⟨X, 0, none⟩))).setCell ⟨X, 0, none⟩ (.pointer (some ⟨P, 0, none⟩))).setCell ⟨X, 3, none⟩ (.pointer (some ⟨Q, 0, none⟩))) = World.putN (((w.setCell ⟨Q, 4, none⟩ (.pointer (some ⟨X, 0, none⟩))).setCell ⟨R, 3, none⟩ (.pointer (some ⟨X, 0, none⟩))).setCell ⟨X, 0, none⟩ (.pointer (some ⟨P, 0, none⟩))) X { rx with par := some P, prv := some Q } := setCell_prv k3X (some Q)
  have k4P : World.nodeAt ((((w.setCell ⟨Q, 4, none⟩ (.pointer (some ⟨X, 0, none⟩))).setCell ⟨R, 3, none⟩ (.pointer (some ⟨X, 0, none⟩))).setCell ⟨X, 0, none⟩ (.pointer (some ⟨P, 0, none⟩))).setCell ⟨X, 3, none⟩ (.pointer (some ⟨Q, 0, none⟩))) P rp := by rw [s3]; exact k3P.other _ nPX
  have k4X : World.nodeAt ((((w.setCell ⟨Q, 4, none⟩ (.pointer (some ⟨X, 0, none⟩))).setCell ⟨R, 3, none⟩ (.pointer (some ⟨X, 0, none⟩))).setCell ⟨X, 0, none⟩ (.pointer (some ⟨P, 0, none⟩))).setCell ⟨X, 3, none⟩ (.pointer (some ⟨Q, 0, none⟩))) X { rx with par := some P, prv := some Q } := by rw [s3]; exact k3X.put _
  have k4Q : World.nodeAt ((((w.setCell ⟨Q, 4, none⟩ (.pointer (some ⟨X, 0, none⟩))).setCell ⟨R, 3, none⟩ (.pointer (some ⟨X, 0, none⟩))).setCell ⟨X, 0, none⟩ (.pointer (some ⟨P, 0, none⟩))).setCell ⟨X, 3, none⟩ (.pointer (some ⟨Q, 0, none⟩))) Q { rq with nxt := some X } := by rw [s3]; exact k3Q.other _ nXQ.symm
  have k4R : World.nodeAt ((((w.setCell ⟨Q, 4, none⟩ (.pointer (some ⟨X, 0, none⟩))).setCell ⟨R, 3, none⟩ (.pointer (some ⟨X, 0, none⟩))).setCell ⟨X, 0, none⟩ (.pointer (some ⟨P, 0, none⟩))).setCell ⟨X, 3, none⟩ (.pointer (some ⟨Q, 0, none⟩))) R { rr with prv := some X } := by rw [s3]; exact k3R.other _ nXR.symm
  have s4 : (((((w.setCell ⟨Q, 4, none⟩ (.pointer (some ⟨X, 0, none⟩))).setCell ⟨R, 3, none⟩ (.pointer (some ⟨X, 0, none⟩))).setCell ⟨X, 0, none⟩ (.pointer (some ⟨P, 0, none⟩))).setCell ⟨X, 3, none⟩ (.pointer (some ⟨Q, 0, none⟩))).setCell ⟨X, 4, none⟩ (.pointer (some ⟨R, 0, none⟩))) = World.putN ((((w.setCell ⟨Q, 4, none⟩ (.pointer (some ⟨X, 0, none⟩))).setCell ⟨R, 3, none⟩ (.pointer (some ⟨X, 0, none⟩))).setCell ⟨X, 0, none⟩ (.pointer (some ⟨P, 0, none⟩))).setCell ⟨X, 3, none⟩ (.pointer (some ⟨Q, 0, none⟩))) X { rx with par := some P, prv := some Q, nxt := some R } := setCell_nxt k4X (some R)
  have k5P : World.nodeAt (((((w.setCell ⟨Q, 4, none⟩ (.pointer (some ⟨X, 0, none⟩))).setCell ⟨R, 3, none⟩ (.pointer (some ⟨X, 0, none⟩))).setCell ⟨X, 0, none⟩ (.pointer (some ⟨P, 0, none⟩))).setCell ⟨X, 3, none⟩ (.pointer (some ⟨Q, 0, none⟩))).setCell ⟨X, 4, none⟩ (.pointer (some ⟨R, 0, none⟩))) P rp := by rw [s4]; exact k4P.other _ nPX
  have k5X : World.nodeAt (((((w.setCell ⟨Q, 4, none⟩ (.pointer (some ⟨X, 0, none⟩))).setCell ⟨R, 3, none⟩ (.pointer (some ⟨X, 0, none⟩))).setCell ⟨X, 0, none⟩ (.pointer (some ⟨P, 0, none⟩))).setCell ⟨X, 3, none⟩ (.pointer (some ⟨Q, 0, none⟩))).setCell ⟨X, 4, none⟩ (.pointer (some ⟨R, 0, none⟩))) X { rx with par := some P, prv := some Q, nxt := some R } := by rw [s4]; exact k4X.put _
  have k5Q : World.nodeAt (((((w.setCell ⟨Q, 4, none⟩ (.pointer (some ⟨X, 0, none⟩))).setCell ⟨R, 3, none⟩ (.pointer (some ⟨X, 0, none⟩))).setCell ⟨X, 0, none⟩ (.pointer (some ⟨P, 0, none⟩))).setCell ⟨X, 3, none⟩ (.pointer (some ⟨Q, 0, none⟩))).setCell ⟨X, 4, none⟩ (.pointer (some ⟨R, 0, none⟩))) Q { rq with nxt := some X } := by rw [s4]; exact k4Q.other _ nXQ.symm
  have k5R : World.nodeAt (((((w.setCell ⟨Q, 4, none⟩ (.pointer (some ⟨X, 0, none⟩))).setCell ⟨R, 3, none⟩ (.pointer (some ⟨X, 0, none⟩))).setCell ⟨X, 0, none⟩ (.pointer (some ⟨P, 0, none⟩))).setCell ⟨X, 3, none⟩ (.pointer (some ⟨Q, 0, none⟩))).setCell ⟨X, 4, none⟩ (.pointer (some ⟨R, 0, none⟩))) R { rr with prv := some X } := by rw [s4]; exact k4R.other _ nXR.symm
  have c0Xpar : w.cell? ⟨X, 0, none⟩ = some (.pointer none) := by
    have hh := k0X.par
    simp only [h0] at hh
    exact hh
  have c0Xprv : w.cell? ⟨X, 3, none⟩ = some (.pointer none) := by
    have hh := k0X.prv
    simp only [h3] at hh
    exact hh
  have c0Xnxt : w.cell? ⟨X, 4, none⟩ = some (.pointer none) := by
    have hh := k0X.nxt
    simp only [h4] at hh
    exact hh
  obtain ⟨z0Pfst, c0Pfst⟩ : ∃ z, w.cell? ⟨P, 1, none⟩ = some z := ⟨_, k0P.fst⟩
  obtain ⟨z0Plst, c0Plst⟩ : ∃ z, w.cell? ⟨P, 2, none⟩ = some z := ⟨_, k0P.lst⟩
  have c0Rprv : w.cell? ⟨R, 3, none⟩ = some (.pointer (some ⟨Q, 0, none⟩)) := by
    have hh := k0R.prv
    simp only [h2] at hh
    exact hh
  obtain ⟨z0Qnxt, c0Qnxt⟩ : ∃ z, w.cell? ⟨Q, 4, none⟩ = some z := ⟨_, k0Q.nxt⟩
  have fin : (((((w.setCell ⟨Q, 4, none⟩ (.pointer (some ⟨X, 0, none⟩))).setCell ⟨R, 3, none⟩ (.pointer (some ⟨X, 0, none⟩))).setCell ⟨X, 0, none⟩ (.pointer (some ⟨P, 0, none⟩))).setCell ⟨X, 3, none⟩ (.pointer (some ⟨Q, 0, none⟩))).setCell ⟨X, 4, none⟩ (.pointer (some ⟨R, 0, none⟩))) = World.putN (World.putN (World.putN w Q { rq with nxt := some X }) R { rr with prv := some X }) X { rx with par := some P, prv := some Q, nxt := some R } := by
    rw [s4, s3, s2, s1, s0]
    simp only [World.putN_putN]
    try rfl
  have FIN := Lib.hid fin
  clear fin hp hx hq hr k0P k0X k0Q k0R k1P k1X k1Q k1R k2P k2X k2Q k2R k3P k3X k3Q k3R k4P k4X k4Q k4R k5P k5X k5Q k5R s0 s1 s2 s3 s4 h0 h3 h4 h2
  go_enter Tryz.func84, Tryz.ntmps84
  go_wp2
  go_end0
  exact ⟨rfl, _, rfl, _, rfl, FIN.out.symm⟩

end Go.Proofs.YtkdomegcacgpnaaGreat
