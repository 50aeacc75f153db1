/- Nodes as data that are the same; plain. The reference's SameTree, and Sub: what stands beneath a node, as a list. -/
import Derived.Test.YtoleejaabiafcaaGreatBaseAll
import Derived.Test.YtoleejaabiafcaaGreatTakenAll
import Derived.StillTailTactics
namespace Go.Proofs.YtoleejaabiafcaaGreat

/-- The same node. -/
structure SameN (m n : NodeD) : Prop where
  kind : m.kind = n.kind
  tag : m.tag = n.tag
  text : m.text = n.text
  attrs : m.attrs = n.attrs
  size : m.size = n.size

end Go.Proofs.YtoleejaabiafcaaGreat

namespace Go.Proofs.YtoleejaabiafcaaGreat
open Go.RowKit
set_option linter.unusedVariables false
set_option linter.unusedSimpArgs false

set_option maxRecDepth 100000 in
set_option maxHeartbeats 4000000 in
theorem sameNode_any (k1 z1 : Int) (tag1 text1 : ByteArray) (aa1 : Option Addr) (al1 ac1 : Nat) (aa2 : Option Addr) (ac2 : Nat) (l : KVs) (w : World) (h1 : AttrsAt w aa1 al1 l) (h2 : AttrsAt w aa2 al1 l) :
    Calls Tryz.prog 21 #[.agg #[.int .i64 k1, .string tag1, .string text1, .slice aa1 al1 ac1, .int .i64 z1], .agg #[.int .i64 k1, .string tag1, .string text1, .slice aa2 al1 ac2, .int .i64 z1]] w (YesB w) := by
  obtain ⟨W0, hW0⟩ : ∃ W0, (w.alloc (.cells #[.int .i64 k1, .string tag1, .string text1, .slice aa1 al1 ac1, .int .i64 z1] 32)).alloc (.cells #[.int .i64 k1, .string tag1, .string text1, .slice aa2 al1 ac2, .int .i64 z1] 32) = W0 := ⟨_, rfl⟩
  have hb0 : Below w.heap.size w W0 := by rw [← hW0]; exact ((Below.refl _ _).alloc (Nat.le_refl _) _).alloc (by simp) _
  have o1 : World.objAt W0 w.heap.size #[.int .i64 k1, .string tag1, .string text1, .slice aa1 al1 ac1, .int .i64 z1] 32 := by rw [← hW0]; exact World.objAt.below (B := w.heap.size + 1) (objAt_alloc_new w _ _) ((Below.refl _ _).alloc (by simp) _) (by omega)
  have o2 : World.objAt W0 (w.heap.size + 1) #[.int .i64 k1, .string tag1, .string text1, .slice aa2 al1 ac2, .int .i64 z1] 32 := by rw [← hW0]; have := objAt_alloc_new (w.alloc (.cells #[.int .i64 k1, .string tag1, .string text1, .slice aa1 al1 ac1, .int .i64 z1] 32)) #[.int .i64 k1, .string tag1, .string text1, .slice aa2 al1 ac2, .int .i64 z1] 32; rwa [World.size_alloc] at this
  have q10 : W0.cell? ⟨w.heap.size, 0, none⟩ = some (.int .i64 k1) := o1.cell (i := 0) rfl
  have q11 : W0.cell? ⟨w.heap.size, 1, none⟩ = some (.string tag1) := o1.cell (i := 1) rfl
  have q12 : W0.cell? ⟨w.heap.size, 2, none⟩ = some (.string text1) := o1.cell (i := 2) rfl
  have q13 : W0.cell? ⟨w.heap.size, 3, none⟩ = some (.slice aa1 al1 ac1) := o1.cell (i := 3) rfl
  have q14 : W0.cell? ⟨w.heap.size, 4, none⟩ = some (.int .i64 z1) := o1.cell (i := 4) rfl
  have q20 : W0.cell? ⟨w.heap.size + 1, 0, none⟩ = some (.int .i64 k1) := o2.cell (i := 0) rfl
  have q21 : W0.cell? ⟨w.heap.size + 1, 1, none⟩ = some (.string tag1) := o2.cell (i := 1) rfl
  have q22 : W0.cell? ⟨w.heap.size + 1, 2, none⟩ = some (.string text1) := o2.cell (i := 2) rfl
  have q23 : W0.cell? ⟨w.heap.size + 1, 3, none⟩ = some (.slice aa2 al1 ac2) := o2.cell (i := 3) rfl
  have q24 : W0.cell? ⟨w.heap.size + 1, 4, none⟩ = some (.int .i64 z1) := o2.cell (i := 4) rfl
  have hal1 : l.length = al1 := h1.1
  have hm1 : al1 ≤ 9223372036854775807 := h1.2.1
  have gk : (k1 != k1) = false := by simp
  have gz : (z1 != z1) = false := by simp
  have gt : (tag1.toList != tag1.toList) = false := by simp
  have gx : (text1.toList != text1.toList) = false := by simp
  have ga : ((al1 : Int) != (al1 : Int)) = false := by simp
  have H1 := Lib.hid (h1.below hb0)
  have H2 := Lib.hid (h2.below hb0)
  have HB0 := Lib.hid hb0
  have HQ := Lib.hid (And.intro q13 q23)
  have hs0 : W0.heap.size = w.heap.size + 2 := by rw [← hW0]; simp
  clear h1 h2 hb0 o1 o2
  have HAL := Lib.hid hal1
  clear hal1
  go_enter Tryz.func21, Tryz.ntmps21
  go_wp2
  go_loopw [5] (fun i wr => ∃ k : Nat, k ≤ al1 ∧ i = .int .i64 (k : Int) ∧ Hid (Below W0.heap.size W0 wr)) (fun i _ => al1 - (intOf i).toNat)
  case atStart => exact ⟨0, by omega, by go_num, Lib.hid (by first | exact Below.refl _ _ | (rw [hW0]; exact Below.refl _ _))⟩
  case round =>
    obtain ⟨k, hk, rfl, HB⟩ := hrel
    clear q10 q11 q12 q13 q14 q20 q21 q22 q23 q24
    have q13 := cell_below HB.out HQ.out.1
    have q23 := cell_below HB.out HQ.out.2
    by_cases hlt : k < al1
    · obtain ⟨_, _, _, hcc⟩ := H1.out
      obtain ⟨b, off, rfl, hc⟩ := hcc (by omega)
      obtain ⟨_, _, _, hcc2⟩ := H2.out
      obtain ⟨b2, off2, rfl, hc2⟩ := hcc2 (by omega)
      obtain ⟨c1, c2⟩ := hc k hlt
      have c1 := cell_below HB.out c1
      have c2 := cell_below HB.out c2
      obtain ⟨d1, d2⟩ := hc2 k hlt
      have d1 := cell_below HB.out d1
      have d2 := cell_below HB.out d2
      obtain ⟨x, hxx⟩ : ∃ x, (l.getD k default).1 = x := ⟨_, rfl⟩
      obtain ⟨y, hyy⟩ : ∃ y, (l.getD k default).2 = y := ⟨_, rfl⟩
      rw [hxx] at c1 d1
      rw [hyy] at c2 d2
      have hkI : (k : Int) < (al1 : Int) := by omega
      have g1 : (x.toList != x.toList) = false := by simp
      have g2 : (y.toList != y.toList) = false := by simp
      have g3 : (x.toList == x.toList) = true := by simp
      have g4 : (y.toList == y.toList) = true := by simp
      clear hc hcc hc2 hcc2 hxx hyy
      go_wp2
      go_quiet (fail)
      go_wp2
      refine ⟨?rel, ?measure⟩
      case rel => exact ⟨k + 1, by omega, by go_num, Lib.hid (below_drewN HB.out _)⟩
      case measure => simp [intOf]; omega
    · obtain rfl : k = al1 := by omega
      go_wp2
      go_ret
      exact ⟨rfl, HB0.out.trans (HB.out.mono HB0.out.size)⟩

set_option maxRecDepth 100000 in
set_option maxHeartbeats 4000000 in
theorem sameTree_any (a1 a2 : Option Addr) (len c1 c2 : Nat) (ts1 ts2 : List NodeD) (w : World) (h1 : Nodes w a1 len ts1) (h2 : Nodes w a2 len ts2) (hs : ∀ i, i < len → SameN (ts1.getD i default) (ts2.getD i default)) :
    Calls Tryz.prog 11 #[.slice a1 len c1, .slice a2 len c2] w (YesB w) := by
  have hm := h1.len.2
  have gl : ((len : Int) != (len : Int)) = false := by simp
  have H1 := Lib.hid h1
  have H2 := Lib.hid h2
  have HS := Lib.hid hs
  clear h1 h2 hs
  go_enter Tryz.func11, Tryz.ntmps11
  go_wp2
  go_loopw [5] (fun i wr => ∃ k : Nat, k ≤ len ∧ i = .int .i64 (k : Int) ∧ Hid (Below w.heap.size w wr)) (fun i _ => len - (intOf i).toNat)
  case atStart => exact ⟨0, by omega, by go_num, Lib.hid (Below.refl _ _)⟩
  case round =>
    obtain ⟨k, hk, rfl, HB⟩ := hrel
    by_cases hlt : k < len
    · obtain ⟨b1, o1, rfl, hc1⟩ := H1.out.at (by omega)
      obtain ⟨b2, o2, rfl, hc2⟩ := H2.out.at (by omega)
      have n1 := (hc1 k hlt).below HB.out
      have n2 := (hc2 k hlt).below HB.out
      obtain ⟨e1, e2, e3, e4, e5⟩ := HS.out k hlt
      obtain ⟨m1, hm1⟩ : ∃ m, ts1.getD k default = m := ⟨_, rfl⟩
      obtain ⟨m2, hm2⟩ : ∃ m, ts2.getD k default = m := ⟨_, rfl⟩
      rw [hm1] at n1 e1 e2 e3 e4 e5
      rw [hm2] at n2 e1 e2 e3 e4 e5
      obtain ⟨k1, g1, x1, aa1, al1, ac1, l1, z1⟩ := m1
      obtain ⟨k2, g2, x2, aa2, al2, ac2, l2, z2⟩ := m2
      simp only at e1 e2 e3 e4 e5
      subst e1 e2 e3 e4 e5
      have p0 := n1.kind
      have p1 := n1.tag
      have p2 := n1.text
      have p3 := n1.attrs
      have p4 := n1.size
      have q0 := n2.kind
      have q1 := n2.tag
      have q2 := n2.text
      have q3 := n2.attrs
      have q4 := n2.size
      simp only at p0 p1 p2 p3 p4 q0 q1 q2 q3 q4
      have r1 := n1.at_
      have r2 := n2.at_
      simp only at r1 r2
      obtain rfl : al1 = al2 := r1.1.symm.trans r2.1
      have HC := Lib.hid (sameNode_any k1 z1 g1 x1 aa1 al1 ac1 aa2 ac2 l1 wr.drew (r1.below (Below.refl _ _).drew) (r2.below (Below.refl _ _).drew))
      have hkI : (k : Int) < (len : Int) := by omega
      clear n1 n2 hc1 hc2 hm1 hm2 r1 r2
      go_wp2
      go_still_tail 8, (by kernel_rfl)
      go_wp2_with fail
      refine HC.out.mono ?_
      rintro e w1 ⟨rfl, hb1⟩
      have HB1 := Lib.hid (HB.out.trans (((Below.refl _ _).drew.trans hb1).mono HB.out.size))
      clear hb1 HC
      go_wp2
      refine ⟨?rel, ?measure⟩
      case rel => exact ⟨k + 1, by omega, by go_num, HB1⟩
      case measure => simp [intOf]; omega
    · obtain rfl : k = len := by omega
      go_wp2
      go_ret
      exact ⟨rfl, HB.out⟩

/-- What stands beneath a node. -/
theorem nodes_sub {w : World} {b off : Nat} {len : Nat} {ts : List NodeD} (h : Nodes w (some ⟨b, off, none⟩) len ts) {p n : Nat} (hp : p + n ≤ len) : Nodes w (some ⟨b, off + p * 5, none⟩) n ((List.range n).map fun j => ts.getD (p + j) default) := by
  refine ⟨by simp, by have := h.2.1; omega, fun h0 => ⟨b, off + p * 5, rfl, fun i hi => ?_⟩⟩
  obtain ⟨b', off', e, hc⟩ := h.at (by omega)
  simp only [Option.some.injEq, Addr.mk.injEq] at e
  obtain ⟨rfl, rfl, _⟩ := e
  have h1 := hc (p + i) (by omega)
  have e2 : ((List.range n).map fun j => ts.getD (p + j) default).getD i default = ts.getD (p + i) default := by simp [List.getD, hi]
  rw [e2, show off + p * 5 + i * 5 = off + (p + i) * 5 by omega]
  exact h1

def SubPost (v : Value) (w : World) (e : Ending) (w' : World) : Prop := e = .returned v ∧ w' = w

set_option maxRecDepth 100000 in
set_option maxHeartbeats 1000000 in
theorem sub_any (b off : Nat) (len cap : Nat) (ts : List NodeD) (w : World) (h : Nodes w (some ⟨b, off, none⟩) len ts) (hc : len ≤ cap) (hm : cap ≤ maxLen) {p n : Nat} (hn : 0 < n) (hp : p + n ≤ len) (hsz : (ts.getD p default).size = (n : Int)) :
    Calls Tryz.prog 12 #[.slice (some ⟨b, off, none⟩) len cap, .int .i64 (p : Int)] w (SubPost (.slice (some ⟨b, off + p * 5, none⟩) n (cap - p)) w) := by
  obtain ⟨b', off', e, hcc⟩ := h.at (by omega)
  simp only [Option.some.injEq, Addr.mk.injEq] at e
  obtain ⟨rfl, rfl, _⟩ := e
  have c4 := (hcc p (by omega)).size
  rw [hsz] at c4
  have hmm : cap ≤ 9223372036854775807 := hm
  have hpI : (p : Int) < (len : Int) := by omega
  have hpn : (p : Int) + (n : Int) ≤ (len : Int) := by omega
  have hcI : (len : Int) ≤ (cap : Int) := by omega
  clear hcc hsz h
  go_enter Tryz.func12, Tryz.ntmps12
  go_wp2
  go_ret
  refine ⟨?_, rfl⟩
  show Ending.returned (.slice (some ⟨b, off + p * 5, none⟩) (p + n - p) (cap - p)) = _
  rw [show p + n - p = n by omega]

end Go.Proofs.YtoleejaabiafcaaGreat

