/- The reference's SameTree, and Sub: what stands beneath a node, as a list. What stands where behind nodes that were moved: the others in their order, the moved ones with all beneath them; plain. moved7: the order of the others, the trees of those that were moved. -/
import Derived.Test.YtoleejaabiafcaaSureAll
import Derived.StillTailTactics
import Derived.Test.YtoleejaabiafcaaInsSays
import Derived.Test.YtoleejaabiafcaaOutAll
import Derived.Test.YtoleejaabiafcaaLawIns
import Derived.Test.YtoleejaabiafcaaIsPlace
import Derived.Test.YtoleejaabiafcaaFits
import Derived.Test.YtoleejaabiafcaaKids
namespace Go.Proofs.Ytoleejaabiafcaa
open Go.RowKit
set_option linter.unusedVariables false
set_option linter.unusedSimpArgs false

set_option maxRecDepth 100000 in
set_option maxHeartbeats 4000000 in
theorem sameNode_any (k1 z1 : Int) (tag1 text1 : ByteArray) (aa1 : Option Addr) (al1 ac1 : Nat) (aa2 : Option Addr) (ac2 : Nat) (l : KVs) (w : World) (h1 : AttrsAt w aa1 al1 l) (h2 : AttrsAt w aa2 al1 l) :
    Calls Try.prog 85 #[.agg #[.int .i64 k1, .string tag1, .string text1, .slice aa1 al1 ac1, .int .i64 z1], .agg #[.int .i64 k1, .string tag1, .string text1, .slice aa2 al1 ac2, .int .i64 z1]] w (YesB w) := by
  obtain ⟨W0, hW0⟩ : ∃ W0, (w.alloc (.cells #[.int .i64 k1, .string tag1, .string text1, .slice aa1 al1 ac1, .int .i64 z1] 39)).alloc (.cells #[.int .i64 k1, .string tag1, .string text1, .slice aa2 al1 ac2, .int .i64 z1] 39) = W0 := ⟨_, rfl⟩
  have hb0 : Below w.heap.size w W0 := by rw [← hW0]; exact ((Below.refl _ _).alloc (Nat.le_refl _) _).alloc (by simp) _
  have o1 : World.objAt W0 w.heap.size #[.int .i64 k1, .string tag1, .string text1, .slice aa1 al1 ac1, .int .i64 z1] 39 := by rw [← hW0]; exact World.objAt.below (B := w.heap.size + 1) (objAt_alloc_new w _ _) ((Below.refl _ _).alloc (by simp) _) (by omega)
  have o2 : World.objAt W0 (w.heap.size + 1) #[.int .i64 k1, .string tag1, .string text1, .slice aa2 al1 ac2, .int .i64 z1] 39 := by rw [← hW0]; have := objAt_alloc_new (w.alloc (.cells #[.int .i64 k1, .string tag1, .string text1, .slice aa1 al1 ac1, .int .i64 z1] 39)) #[.int .i64 k1, .string tag1, .string text1, .slice aa2 al1 ac2, .int .i64 z1] 39; rwa [World.size_alloc] at this
  have q10 : W0.cell? ⟨w.heap.size, 0, none⟩ = some (.int .i64 k1) := o1.cell (i := 0) rfl
  have q11 : W0.cell? ⟨w.heap.size, 1, none⟩ = some (.string tag1) := o1.cell (i := 1) rfl
  have q12 : W0.cell? ⟨w.heap.size, 2, none⟩ = some (.string text1) := o1.cell (i := 2) rfl
  have q13 : W0.cell? ⟨w.heap.size, 3, none⟩ = some (.slice aa1 al1 ac1) := o1.cell (i := 3) rfl
  have q14 : W0.cell? ⟨w.heap.size, 4, none⟩ = some (.int .i64 z1) := o1.cell (i := 4) rfl
  have q20 : W0.cell? ⟨w.heap.size + 1, 0, none⟩ = some (.int .i64 k1) := o2.cell (i := 0) rfl
  have q21 : W0.cell? ⟨w.heap.size + 1, 1, none⟩ = some (.string tag1) := o2.cell (i := 1) rfl
  have q22 : W0.cell? ⟨w.heap.size + 1, 2, none⟩ = some (.string text1) := o2.cell (i := 2) rfl
  have q23 : W0.cell? ⟨w.heap.size + 1, 3, none⟩ = some (.slice aa2 al1 ac2) := o2.cell (i := 3) rfl
  have q24 : W0.cell? ⟨w.heap.size + 1, 4, none⟩ = some (.int .i64 z1) := o2.cell (i := 4) rfl
  have hal1 : l.length = al1 := h1.1
  have hm1 : al1 ≤ 9223372036854775807 := h1.2.1
  have gk : (k1 != k1) = false := by simp
  have gz : (z1 != z1) = false := by simp
  have gt : (tag1.toList != tag1.toList) = false := by simp
  have gx : (text1.toList != text1.toList) = false := by simp
  have ga : ((al1 : Int) != (al1 : Int)) = false := by simp
  have H1 := Lib.hid (h1.below hb0)
  have H2 := Lib.hid (h2.below hb0)
  have HB0 := Lib.hid hb0
  have HQ := Lib.hid (And.intro q13 q23)
  have hs0 : W0.heap.size = w.heap.size + 2 := by rw [← hW0]; simp
  clear h1 h2 hb0 o1 o2
  have HAL := Lib.hid hal1
  clear hal1
  go_enter Try.func85, Try.ntmps85
  go_wp2
  go_loopw [5] (fun i wr => ∃ k : Nat, k ≤ al1 ∧ i = .int .i64 (k : Int) ∧ Hid (Below W0.heap.size W0 wr)) (fun i _ => al1 - (intOf i).toNat)
  case atStart => exact ⟨0, by omega, by go_num, Lib.hid (by first | exact Below.refl _ _ | (rw [hW0]; exact Below.refl _ _))⟩
  case round =>
    obtain ⟨k, hk, rfl, HB⟩ := hrel
    clear q10 q11 q12 q13 q14 q20 q21 q22 q23 q24
    have q13 := cell_below HB.out HQ.out.1
    have q23 := cell_below HB.out HQ.out.2
    by_cases hlt : k < al1
    · obtain ⟨_, _, _, hcc⟩ := H1.out
      obtain ⟨b, off, rfl, hc⟩ := hcc (by omega)
      obtain ⟨_, _, _, hcc2⟩ := H2.out
      obtain ⟨b2, off2, rfl, hc2⟩ := hcc2 (by omega)
      obtain ⟨c1, c2⟩ := hc k hlt
      have c1 := cell_below HB.out c1
      have c2 := cell_below HB.out c2
      obtain ⟨d1, d2⟩ := hc2 k hlt
      have d1 := cell_below HB.out d1
      have d2 := cell_below HB.out d2
      obtain ⟨x, hxx⟩ : ∃ x, (l.getD k default).1 = x := ⟨_, rfl⟩
      obtain ⟨y, hyy⟩ : ∃ y, (l.getD k default).2 = y := ⟨_, rfl⟩
      rw [hxx] at c1 d1
      rw [hyy] at c2 d2
      have hkI : (k : Int) < (al1 : Int) := by omega
      have g1 : (x.toList != x.toList) = false := by simp
      have g2 : (y.toList != y.toList) = false := by simp
      have g3 : (x.toList == x.toList) = true := by simp
      have g4 : (y.toList == y.toList) = true := by simp
      clear hc hcc hc2 hcc2 hxx hyy
      go_wp2
      go_quiet (fail)
      go_wp2
      refine ⟨?rel, ?measure⟩
      case rel => exact ⟨k + 1, by omega, by go_num, Lib.hid (below_drewN HB.out _)⟩
      case measure => simp [intOf]; omega
    · obtain rfl : k = al1 := by omega
      go_wp2
      go_ret
      exact ⟨rfl, HB0.out.trans (HB.out.mono HB0.out.size)⟩

set_option maxRecDepth 100000 in
set_option maxHeartbeats 4000000 in
theorem sameTree_any (a1 a2 : Option Addr) (len c1 c2 : Nat) (ts1 ts2 : List NodeD) (w : World) (h1 : Nodes w a1 len ts1) (h2 : Nodes w a2 len ts2) (hs : ∀ i, i < len → SameN (ts1.getD i default) (ts2.getD i default)) :
    Calls Try.prog 57 #[.slice a1 len c1, .slice a2 len c2] w (YesB w) := by
  have hm := h1.len.2
  have gl : ((len : Int) != (len : Int)) = false := by simp
  have H1 := Lib.hid h1
  have H2 := Lib.hid h2
  have HS := Lib.hid hs
  clear h1 h2 hs
  go_enter Try.func57, Try.ntmps57
  go_wp2
  go_loopw [5] (fun i wr => ∃ k : Nat, k ≤ len ∧ i = .int .i64 (k : Int) ∧ Hid (Below w.heap.size w wr)) (fun i _ => len - (intOf i).toNat)
  case atStart => exact ⟨0, by omega, by go_num, Lib.hid (Below.refl _ _)⟩
  case round =>
    obtain ⟨k, hk, rfl, HB⟩ := hrel
    by_cases hlt : k < len
    · obtain ⟨b1, o1, rfl, hc1⟩ := H1.out.at (by omega)
      obtain ⟨b2, o2, rfl, hc2⟩ := H2.out.at (by omega)
      have n1 := (hc1 k hlt).below HB.out
      have n2 := (hc2 k hlt).below HB.out
      obtain ⟨e1, e2, e3, e4, e5⟩ := HS.out k hlt
      obtain ⟨m1, hm1⟩ : ∃ m, ts1.getD k default = m := ⟨_, rfl⟩
      obtain ⟨m2, hm2⟩ : ∃ m, ts2.getD k default = m := ⟨_, rfl⟩
      rw [hm1] at n1 e1 e2 e3 e4 e5
      rw [hm2] at n2 e1 e2 e3 e4 e5
      obtain ⟨k1, g1, x1, aa1, al1, ac1, l1, z1⟩ := m1
      obtain ⟨k2, g2, x2, aa2, al2, ac2, l2, z2⟩ := m2
      simp only at e1 e2 e3 e4 e5
      subst e1 e2 e3 e4 e5
      have p0 := n1.kind
      have p1 := n1.tag
      have p2 := n1.text
      have p3 := n1.attrs
      have p4 := n1.size
      have q0 := n2.kind
      have q1 := n2.tag
      have q2 := n2.text
      have q3 := n2.attrs
      have q4 := n2.size
      simp only at p0 p1 p2 p3 p4 q0 q1 q2 q3 q4
      have r1 := n1.at_
      have r2 := n2.at_
      simp only at r1 r2
      obtain rfl : al1 = al2 := r1.1.symm.trans r2.1
      have HC := Lib.hid (sameNode_any k1 z1 g1 x1 aa1 al1 ac1 aa2 ac2 l1 wr.drew (r1.below (Below.refl _ _).drew) (r2.below (Below.refl _ _).drew))
      have hkI : (k : Int) < (len : Int) := by omega
      clear n1 n2 hc1 hc2 hm1 hm2 r1 r2
      go_wp2
      go_still_tail 8, (by kernel_rfl)
      go_wp2_with fail
      refine HC.out.mono ?_
      rintro e w1 ⟨rfl, hb1⟩
      have HB1 := Lib.hid (HB.out.trans (((Below.refl _ _).drew.trans hb1).mono HB.out.size))
      clear hb1 HC
      go_wp2
      refine ⟨?rel, ?measure⟩
      case rel => exact ⟨k + 1, by omega, by go_num, HB1⟩
      case measure => simp [intOf]; omega
    · obtain rfl : k = len := by omega
      go_wp2
      go_ret
      exact ⟨rfl, HB.out⟩

/-- What stands beneath a node. -/
theorem nodes_sub {w : World} {b off : Nat} {len : Nat} {ts : List NodeD} (h : Nodes w (some ⟨b, off, none⟩) len ts) {p n : Nat} (hp : p + n ≤ len) : Nodes w (some ⟨b, off + p * 5, none⟩) n ((List.range n).map fun j => ts.getD (p + j) default) := by
  refine ⟨by simp, by have := h.2.1; omega, fun h0 => ⟨b, off + p * 5, rfl, fun i hi => ?_⟩⟩
  obtain ⟨b', off', e, hc⟩ := h.at (by omega)
  simp only [Option.some.injEq, Addr.mk.injEq] at e
  obtain ⟨rfl, rfl, _⟩ := e
  have h1 := hc (p + i) (by omega)
  have e2 : ((List.range n).map fun j => ts.getD (p + j) default).getD i default = ts.getD (p + i) default := by simp [List.getD, hi]
  rw [e2, show off + p * 5 + i * 5 = off + (p + i) * 5 by omega]
  exact h1

def SubPost (v : Value) (w : World) (e : Ending) (w' : World) : Prop := e = .returned v ∧ w' = w

set_option maxRecDepth 100000 in
set_option maxHeartbeats 1000000 in
theorem sub_any (b off : Nat) (len cap : Nat) (ts : List NodeD) (w : World) (h : Nodes w (some ⟨b, off, none⟩) len ts) (hc : len ≤ cap) (hm : cap ≤ maxLen) {p n : Nat} (hn : 0 < n) (hp : p + n ≤ len) (hsz : (ts.getD p default).size = (n : Int)) :
    Calls Try.prog 58 #[.slice (some ⟨b, off, none⟩) len cap, .int .i64 (p : Int)] w (SubPost (.slice (some ⟨b, off + p * 5, none⟩) n (cap - p)) w) := by
  obtain ⟨b', off', e, hcc⟩ := h.at (by omega)
  simp only [Option.some.injEq, Addr.mk.injEq] at e
  obtain ⟨rfl, rfl, _⟩ := e
  have c4 := (hcc p (by omega)).size
  rw [hsz] at c4
  have hmm : cap ≤ 9223372036854775807 := hm
  have hpI : (p : Int) < (len : Int) := by omega
  have hpn : (p : Int) + (n : Int) ≤ (len : Int) := by omega
  have hcI : (len : Int) ≤ (cap : Int) := by omega
  clear hcc hsz h
  go_enter Try.func58, Try.ntmps58
  go_wp2
  go_ret
  refine ⟨?_, rfl⟩
  show Ending.returned (.slice (some ⟨b, off + p * 5, none⟩) (p + n - p) (cap - p)) = _
  rw [show p + n - p = n by omega]

end Go.Proofs.Ytoleejaabiafcaa

namespace Go.Proofs.Ytoleejaabiafcaa
set_option linter.unusedVariables false
set_option linter.unusedSimpArgs false

theorem Fl.congr {k1 k2 : Nat → List Nat} {xs L : List Nat} (h : Fl k1 xs L) : (∀ y ∈ L, k1 y = k2 y) → Fl k2 xs L := by
  induction h with
  | nil => intro _; exact .nil
  | @cons x xs A B h1 h2 ih1 ih2 =>
    intro hk
    have e : k1 x = k2 x := hk x (by simp)
    exact .cons (by rw [← e]; exact ih1 (fun y hy => hk y (by simp [hy]))) (ih2 (fun y hy => hk y (by simp [hy])))

theorem offL_idem (T A : List Nat) : offL T (offL T A) = offL T A := by
  unfold offL
  rw [List.filter_filter]
  exact List.filter_congr (fun y _ => by simp)

theorem offL_self (T : List Nat) : offL T T = [] := by
  unfold offL
  rw [List.filter_eq_nil_iff]
  intro y hy
  simp [hy]

theorem mv_off {F : Wd} {p : Nat} {A0 B0 ws : List Nat} (h0 : F.kids p = A0 ++ B0) : (mv F p A0 B0 ws).off ws = F.off ws := by
  simp only [Wd.off, Wd.mk.injEq]
  refine ⟨funext fun q => ?_, funext fun y => ?_⟩
  · by_cases e : q = p
    · subst e
      rw [mv_kids, h0, offL_append, offL_append, offL_append, offL_idem, offL_idem, offL_self, List.nil_append]
    · simp only [mv, Wd.ins, if_neg e, Wd.off, offL_idem]
  · by_cases e : y ∈ ws
    · rw [if_pos e, if_pos e]
    · rw [if_neg e, if_neg e, mv_up, if_neg e]

theorem posFrom_ge {x : Nat} : ∀ (l : List Nat) (N : Nat), x ∈ l → (N : Int) ≤ posFrom l N x
  | [], _, h => by simp at h
  | y :: r, N, h => by
    simp only [posFrom]
    by_cases e : y = x
    · rw [if_pos e]; omega
    · rw [if_neg e]
      have := posFrom_ge r (N + 1) (by simpa [Ne.symm e] using h)
      omega

theorem posFrom_asc {g : Nat → Bool} {i j : Nat} (hij : i < j) : ∀ (l : List Nat) (N : Nat), (l.filter g).Pairwise (· < ·) → i ∈ l → j ∈ l → g i = true → g j = true → posFrom l N i < posFrom l N j
  | [], _, _, h, _, _, _ => by simp at h
  | y :: r, N, hp, hi, hj, hgi, hgj => by
    by_cases e1 : y = i
    · subst e1
      have hjr : j ∈ r := by simpa [Nat.ne_of_gt hij] using hj
      have := posFrom_ge r (N + 1) hjr
      simp only [posFrom, if_pos, if_neg (Nat.ne_of_lt hij)]
      omega
    · by_cases e2 : y = j
      · subst e2
        rw [List.filter_cons, if_pos hgj, List.pairwise_cons] at hp
        have hir : i ∈ r := by simpa [Ne.symm e1] using hi
        have := hp.1 i (List.mem_filter.2 ⟨hir, hgi⟩)
        omega
      · have hp2 : (r.filter g).Pairwise (· < ·) := by
          rw [List.filter_cons] at hp
          split at hp
          · exact (List.pairwise_cons.1 hp).2
          · exact hp
        simp only [posFrom, if_neg e1, if_neg e2]
        exact posFrom_asc hij r (N + 1) hp2 (by simpa [Ne.symm e1] using hi) (by simpa [Ne.symm e2] using hj) hgi hgj

/-- The others stand in their order. -/
theorem moved_others {z : Nat → Nat} {n : Nat} (hz : Nest z n) (h0 : 0 < n) (hr : z 0 = n) {p : Nat} (hp : p < n) {A0 B0 ws : List Nat} (hk : (wd0 z n).kids p = A0 ++ B0) (hl : 0 ∉ ws) (hok : WOk n (mv (wd0 z n) p A0 B0 ws)) {C : List (Nat × Nat)} (hC : Fs (mv (wd0 z n) p A0 B0 ws).kids [0] C) {i j : Nat} (hij : i < j) (hj : j < n) (hi2 : ∀ x ∈ ws, ¬ Anc (wd0 z n) x i) (hj2 : ∀ x ∈ ws, ¬ Anc (wd0 z n) x j) :
    posFrom (C.map (·.1)) 0 i < posFrom (C.map (·.1)) 0 j := by
  have h1 := wd0_root hz h0 hr
  have hu : (wd0 z n).up 0 = none := by simp [wd0, h0]; rfl
  have hu2 : (mv (wd0 z n) p A0 B0 ws).up 0 = none := by rw [mv_up, if_neg hl]; exact hu
  obtain ⟨g, h2, h3⟩ := Fl.cuts ws (wd0 z n) (wd0_ok hz) hu hl h1
  obtain ⟨g2, h4, h5⟩ := Fl.cuts ws _ hok hu2 hl hC.fl
  rw [cutsW_off] at h2 h4
  rw [mv_off hk] at h4
  have he := h4.det h2
  have mem : ∀ y, y < n → (∀ x ∈ ws, ¬ Anc (wd0 z n) x y) → y ∈ C.map (·.1) ∧ g2 y = true := fun y hy hy2 => by
    have : y ∈ (List.range' 0 n).filter g := List.mem_filter.2 ⟨by simp [List.mem_range'_1, hy], (h3 y).2 hy2⟩
    rw [← he] at this
    exact List.mem_filter.1 this
  refine posFrom_asc (g := g2) hij _ 0 ?_ (mem i (by omega) hi2).1 (mem j hj hj2).1 (mem i (by omega) hi2).2 (mem j hj hj2).2
  rw [he]
  exact List.Pairwise.filter _ (by rw [← List.range_eq_range']; exact List.pairwise_lt_range)

/-- What is beneath a node in a tree as data. -/
theorem anc_range {z : Nat → Nat} {n : Nat} (hz : Nest z n) {w y : Nat} (hw : w < n) : Anc (wd0 z n) w y ↔ w ≤ y ∧ y < w + z w := by
  have h := (wd0_flat hz (z w) w hw (Nat.le_refl _)).anc (wd0_ok hz) y
  rw [List.mem_range'_1] at h
  constructor
  · intro ha
    exact h.2 ⟨w, by simp, ha⟩
  · intro hh
    obtain ⟨x, hx, ha⟩ := h.1 hh
    simp at hx
    subst hx
    exact ha

/-- What is beneath a moved node stays as it was. -/
theorem moved_flat {z : Nat → Nat} {n : Nat} (hz : Nest z n) {p : Nat} {A0 B0 ws : List Nat} (hclr : ∀ v ∈ ws, ¬ Anc (wd0 z n) v p) (hap : ∀ v ∈ ws, ∀ v' ∈ ws, Anc (wd0 z n) v v' → v = v') {w y : Nat} (hw : w ∈ ws) (hwy : Anc (wd0 z n) w y) (hy : y < n) :
    Fl (mv (wd0 z n) p A0 B0 ws).kids [y] (List.range' y (z y)) := by
  have hF := wd0_ok hz
  have h1 := wd0_flat hz (z y) y hy (Nat.le_refl _)
  refine h1.congr (fun x hx => ?_)
  obtain ⟨q, hq, ha⟩ := (h1.anc hF x).1 hx
  simp at hq
  subst hq
  have hwx : Anc (wd0 z n) w x := hwy.trans ha
  have hxp : x ≠ p := fun e => hclr w hw (e ▸ hwx)
  simp only [mv, Wd.ins, if_neg hxp, Wd.off]
  unfold offL
  refine (List.filter_eq_self.2 (fun v hv => ?_)).symm
  have hvw : v ∉ ws := fun hm => by
    have hu := (hF.iff x v).1 hv
    have hwv : Anc (wd0 z n) w v := .step hu hwx
    have e := hap w hw v hm hwv
    subst e
    exact hF.not_up hu hwx
  simp [hvw]

theorem Fl.fs_len {kids : Nat → List Nat} {x : Nat} {L : List Nat} {A : List (Nat × Nat)} (h : Fl kids [x] L) (hA : Fs kids (kids x) A) : L = x :: A.map (·.1) := h.det (Fl.one hA.fl)

/-- The moved nodes, with all beneath them. -/
theorem moved_sub {z : Nat → Nat} {n : Nat} (hz : Nest z n) {p : Nat} {A0 B0 ws : List Nat} (hclr : ∀ v ∈ ws, ¬ Anc (wd0 z n) v p) (hap : ∀ v ∈ ws, ∀ v' ∈ ws, Anc (wd0 z n) v v' → v = v') {C : List (Nat × Nat)} (hC : Fs (mv (wd0 z n) p A0 B0 ws).kids [0] C) (hnd : (C.map (·.1)).Nodup) {w : Nat} (hw : w ∈ ws) (hwn : w < n) (hwC : w ∈ C.map (·.1)) :
    ∃ q, q + z w ≤ C.length ∧ ∀ j, j < z w → C.getD (q + j) default = (w + j, z (w + j)) ∧ posFrom (C.map (·.1)) 0 (w + j) = ((q + j : Nat) : Int) := by
  obtain ⟨q, hq, hqw, hqp⟩ := pos_of hnd hwC
  obtain ⟨A, a1, a2, a3, a4⟩ := hC.underAt q hq
  rw [hqw] at a1
  have e1 := (moved_flat hz hclr hap hw .refl hwn).fs_len a1
  have hzw : A.length + 1 = z w := by
    have := congrArg List.length e1
    simp at this
    omega
  have hat : ∀ j, j < z w → q + j < C.length ∧ (C.getD (q + j) default).1 = w + j := fun j hj => by
    refine ⟨by omega, ?_⟩
    cases j with
    | zero => exact hqw
    | succ j =>
      have hjA : j < A.length := by omega
      have h2 : (List.range' w (z w)).getD (j + 1) 0 = (w :: A.map (·.1)).getD (j + 1) 0 := by rw [e1]
      rw [show q + (j + 1) = q + 1 + j by omega, a3 j hjA]
      simp only [List.getD_eq_getElem?_getD, List.getElem?_cons_succ, List.getElem?_map, List.getElem?_eq_getElem hjA, Option.map_some, Option.getD_some] at h2 ⊢
      rw [← h2, List.getElem?_range' (by omega)]
      simp
  refine ⟨q, by omega, fun j hj => ?_⟩
  obtain ⟨b1, b2⟩ := hat j hj
  have hp := posFrom_at hnd b1
  rw [b2] at hp
  refine ⟨?_, hp⟩
  obtain ⟨A', c1, c2, _, _⟩ := hC.underAt (q + j) b1
  rw [b2] at c1
  have hwj : Anc (wd0 z n) w (w + j) := (anc_range hz hwn).2 ⟨by omega, by omega⟩
  have hlt : w + j < n := by have := hz.fit w hwn; omega
  have e2 := (moved_flat hz hclr hap hw hwj hlt).fs_len c1
  have : A'.length + 1 = z (w + j) := by
    have := congrArg List.length e2
    simp at this
    omega
  exact Prod.ext b2 (c2.trans this)

end Go.Proofs.Ytoleejaabiafcaa

namespace Go.Proofs.Ytoleejaabiafcaa
open Go.RowKit
set_option linter.unusedVariables false
set_option linter.unusedSimpArgs false

theorem OutAt.cap {w : World} {B : Nat} {a : Option Addr} {n cap : Nat} {lab : Nat → NodeD} {C : List (Nat × Nat)} (h : OutAt w B (.slice a n cap) lab C) : n ≤ cap ∧ cap ≤ maxLen := by
  obtain ⟨D, _, ho, _⟩ := h.ex
  rcases ho.2 with ⟨hv, hz⟩ | ⟨g, cap', cur, hv, hb, hg, hn, hm, hcs, ht⟩
  · simp at hv
    obtain ⟨_, rfl, rfl⟩ := hv
    exact ⟨Nat.le_refl _, Nat.zero_le _⟩
  · simp at hv
    obtain ⟨_, rfl, rfl⟩ := hv
    exact ⟨hn, hm⟩

/-- The two places that are asked for what stands beneath. -/
def SubKey (ob oo oc q ab ao cap x b off c p : Nat) : Prop := (b = ob ∧ off = oo ∧ c = oc ∧ p = q) ∨ (b = ab ∧ off = ao ∧ c = cap ∧ p = x)

/-- What moved7 asks. -/
structure Moved (ts ts' : List NodeD) (len : Nat) (ws : List Nat) (L : List Int) : Prop where
  inn : ∀ i, i < len → 0 ≤ L.getD i 0 ∧ L.getD i 0 < (len : Int)
  asc : ∀ i j, i < j → j < len → (∀ x ∈ ws, ¬ Anc (wd0 (sz ts) len) x i) → (∀ x ∈ ws, ¬ Anc (wd0 (sz ts) len) x j) → L.getD i 0 < L.getD j 0
  sub : ∀ x ∈ ws, x < len ∧ ∃ q : Nat, q + sz ts x ≤ len ∧ ∀ j, j < sz ts x → L.getD (x + j) 0 = ((q + j : Nat) : Int) ∧ SameN (ts'.getD (q + j) default) (ts.getD (x + j) default)

set_option maxRecDepth 100000 in
set_option maxHeartbeats 8000000 in
theorem moved7_any (a : Option Addr) (len cap : Nat) (ts : List NodeD) (oa : Option Addr) (oc : Nat) (ts' : List NodeD) (pa : Option Addr) (pc : Nat) (L : List Int) (a2 : Option Addr) (n2 c2 : Nat) (zs2 : List Int) (ws : List Nat) (W : World) (hN : Nodes W a len ts) (hc : len ≤ cap ∧ cap ≤ maxLen) (hR : RightT ts len) (hO : Nodes W oa len ts') (hco : len ≤ oc ∧ oc ≤ maxLen) (hsh : ShapedT ts' len) (hP : Ints W pa len L) (h2 : Ints W a2 n2 zs2) (hz : zs2 = ws.map (fun (n : Nat) => (n : Int))) (hM : Moved ts ts' len ws L) :
    Calls Try.prog 24 #[.slice a len cap, .slice oa len oc, .slice pa len pc, .slice a2 n2 c2, .bool true] W (YesB W) := by
  have hlen := hR.le
  have hpos := hR.pos
  obtain ⟨ab, ao, rfl, _⟩ := hN.at hpos
  obtain ⟨ob, oo, rfl, _⟩ := hO.at hpos
  have htold := told7_any (some ⟨ab, ao, none⟩) len cap (some ⟨ob, oo, none⟩) len oc ts' pa pc W hO hsh (by omega)
  have gl : ((len : Int) != (len : Int)) = false := by simp
  have hzl : zs2.length = ws.length := by rw [hz, List.length_map]
  have hn2 : n2 = ws.length := by rw [← hzl]; exact h2.open.1.symm
  have hmw := h2.open.2.1
  have HT := Lib.hid htold
  have HN := Lib.hid (And.intro hN hc)
  have HR := Lib.hid hR
  have HO := Lib.hid (And.intro hO hco)
  have HP := Lib.hid hP
  have H2 := Lib.hid h2
  have HZ := Lib.hid (And.intro hz hn2)
  have HM := Lib.hid hM
  clear htold hN hc hR hO hco hsh hP h2 hz hM hzl hn2
  go_enter Try.func24, Try.ntmps24
  go_wp2_with fail
  refine HT.out.mono ?_
  rintro e w6 ⟨rfl, hb6⟩
  have HB6 := Lib.hid hb6
  clear hb6 HT
  go_wp2
  go_loopw [11, 12] (fun lv iv wr => ∃ i : Nat, i ≤ len ∧ iv = .int .i64 (i : Int) ∧ (∃ z : Int, lv = .int .i64 z ∧ -1 ≤ z ∧ z ≤ 300 ∧ Hid (∀ i', i ≤ i' → i' < len → (∀ x ∈ ws, ¬ Anc (wd0 (sz ts) len) x i') → z < L.getD i' 0)) ∧ Hid (Below W.heap.size W wr)) (fun _ iv _ => len - (intOf iv).toNat)
  case atStart => exact ⟨0, by omega, by go_num, ⟨-1, by go_num, by omega, by omega, Lib.hid (fun i' _ h _ => by have := (HM.out.inn i' h).1; omega)⟩, HB6⟩
  case round =>
    obtain ⟨i, hi, rfl, ⟨lz, rfl, hz1, hz2, HLZ⟩, HBr⟩ := hrel
    by_cases hlt2 : i < len
    · obtain ⟨wo, hwo⟩ : ∃ wo, wo = wr := ⟨_, rfl⟩
      subst hwo
      have hiI : (i : Int) < (len : Int) := by omega
      go_wp2
      go_loopw [13] (fun tv w9 => Hid (w9 = wo) ∧ ((∃ y : Nat, tv = .int .i64 (y : Int) ∧ y < len ∧ Hid (Anc (wd0 (sz ts) len) y i) ∧ Hid (∀ x ∈ ws, Anc (wd0 (sz ts) len) x i → Anc (wd0 (sz ts) len) x y)) ∨ (tv = .int .i64 (-1) ∧ Hid (∀ x ∈ ws, ¬ Anc (wd0 (sz ts) len) x i)))) (fun tv _ => (intOf tv + 1).toNat)
      case atStart => exact ⟨Lib.hid rfl, .inl ⟨i, by go_num, hlt2, Lib.hid .refl, Lib.hid (fun x _ h => h)⟩⟩
      case round =>
        obtain ⟨HE, hcase⟩ := hrel
        have he := HE.out
        subst he
        rcases hcase with ⟨y, rfl, hyl, HAN, HUP⟩ | ⟨rfl, HNO⟩
        · have hcall := isPlace_any a2 n2 c2 zs2 (y : Int) wr (H2.out.below HBr.out)
          have HCALL := Lib.hid hcall
          clear hcall
          go_wp2_with fail
          refine HCALL.out.mono ?_
          rintro e wb ⟨b, rfl, hb, rfl⟩
          cases b
          · have hyn : y ∉ ws := fun hm => by
              have : (y : Int) ∈ zs2 := by rw [HZ.out.1]; exact List.mem_map_of_mem (f := fun (n : Nat) => (n : Int)) hm
              have := hb.2 this
              simp at this
            have hpar := parent_any (some ⟨ab, ao, none⟩) len cap ts y wr (HN.out.1.below HBr.out) HR.out.sizes HR.out.nest.fit hyl
            have HPAR := Lib.hid hpar
            have HYN := Lib.hid hyn
            clear hb hpar hyn HCALL
            go_wp2_with fail
            refine HPAR.out.mono ?_
            rintro e wc ⟨rfl, rfl⟩
            cases hpy : par (sz ts) y with
            | none =>
              have hno : ∀ x ∈ ws, ¬ Anc (wd0 (sz ts) len) x i := fun x hx hxi => by
                rcases (HUP.out x hx hxi).inv with e | ⟨q, hq, _⟩
                · exact HYN.out (e ▸ hx)
                · rw [wd0_up hyl, hpy] at hq
                  cases hq
              have HNO := Lib.hid hno
              clear hno hpy
              simp only [parI]
              go_wp2
              refine ⟨?rel, ?measure⟩
              case rel => exact ⟨Lib.hid (by simp), .inr ⟨by go_num, HNO⟩⟩
              case measure => (simp [intOf]; try omega)
            | some p =>
              have hp1 := (par_some hpy).1
              have hap : Anc (wd0 (sz ts) len) p i := Anc.trans (.step (by rw [wd0_up hyl]; exact hpy) .refl) HAN.out
              have hup : ∀ x ∈ ws, Anc (wd0 (sz ts) len) x i → Anc (wd0 (sz ts) len) x p := fun x hx hxi => by
                rcases (HUP.out x hx hxi).inv with e | ⟨q, hq, hqa⟩
                · exact absurd (e ▸ hx) HYN.out
                · rw [wd0_up hyl, hpy] at hq
                  cases hq
                  exact hqa
              have HAP := Lib.hid hap
              have HUP2 := Lib.hid hup
              clear hap hup hpy
              simp only [parI]
              go_wp2
              refine ⟨?rel, ?measure⟩
              case rel => exact ⟨Lib.hid (by simp), .inl ⟨p, by go_num, by omega, HAP, HUP2⟩⟩
              case measure => simp [intOf]; omega
          · have hyz : (y : Int) ∈ zs2 := hb.1 rfl
            have hym : y ∈ ws := by
              rw [HZ.out.1] at hyz
              obtain ⟨q, hq, he⟩ := List.mem_map.1 hyz
              have : q = y := by omega
              rw [← this]
              exact hq
            obtain ⟨hyi, hyi2⟩ := (anc_range HR.out.nest hyl).1 HAN.out
            obtain ⟨_, q, hq1, hq2⟩ := HM.out.sub y hym
            obtain ⟨d, hd⟩ : ∃ d, y + d = i := ⟨i - y, by omega⟩
            have e1 := (hq2 d (by omega)).1
            have e2 := (hq2 0 (by omega)).1
            rw [Nat.add_zero, Nat.add_zero] at e2
            rw [hd] at e1
            obtain ⟨_, _, pb, poff, hpa, hpc⟩ := (HP.out.below HBr.out).open
            obtain rfl := hpa (by omega)
            have cp := hpc i hlt2
            have cy := hpc y hyl
            rw [e1] at cp
            rw [e2] at cy
            obtain ⟨qi, hqi⟩ : ∃ qi, q + d = qi := ⟨_, rfl⟩
            rw [hqi] at cp
            have hnx : ∀ i', i + 1 ≤ i' → i' < len → (∀ x ∈ ws, ¬ Anc (wd0 (sz ts) len) x i') → lz < L.getD i' 0 := fun i' h1 h2 h3 => HLZ.out i' (by omega) h2 h3
            have HNX := Lib.hid hnx
            have r0 : decide ((qi : Int) < 0) = false := by simp
            have r2 : decide ((len : Int) ≤ (qi : Int)) = false := by simp; omega
            have r2' : decide (len ≤ qi) = false := by simp; omega
            have ry : decide ((y : Int) < 0) = false := by simp
            have hsum : (q : Int) + (i : Int) - (y : Int) = (qi : Int) := by omega
            have r3 : ((qi : Int) != (q : Int) + (i : Int) - (y : Int)) = false := by rw [hsum]; simp
            have hyI : (y : Int) < (len : Int) := by omega
            have hq200 : q + i < 1000 := by omega
            clear hb hyz hym hpc HCALL hyi hyi2 hq1 hq2 e1 e2 hqi hd hnx
            go_wp2
            go_quiet (fail)
            go_wp2
            refine ⟨?rel, ?measure⟩
            case rel => exact ⟨i + 1, by omega, by go_num, ⟨lz, rfl, hz1, hz2, HNX⟩, Lib.hid (below_drewN HBr.out _)⟩
            case measure => simp [intOf]; omega
        · obtain ⟨m1, m2⟩ := HM.out.inn i hlt2
          have hlz := HLZ.out i (Nat.le_refl _) hlt2 HNO.out
          have hnx : ∀ i', i + 1 ≤ i' → i' < len → (∀ x ∈ ws, ¬ Anc (wd0 (sz ts) len) x i') → L.getD i 0 < L.getD i' 0 := fun i' h1 h2 h3 => HM.out.asc i i' (by omega) h2 HNO.out h3
          have HNX := Lib.hid hnx
          obtain ⟨_, _, pb, poff, hpa, hpc⟩ := (HP.out.below HBr.out).open
          obtain rfl := hpa (by omega)
          have cp := hpc i hlt2
          obtain ⟨m, hm⟩ : ∃ m : Nat, L.getD i 0 = (m : Int) := ⟨(L.getD i 0).toNat, by omega⟩
          rw [hm] at cp m1 m2 hlz HNX
          have r0 : decide ((m : Int) < 0) = false := by simp
          have r2 : decide ((len : Int) ≤ (m : Int)) = false := by simp; omega
          have r2' : decide (len ≤ m) = false := by simp; omega
          have r4 : decide ((m : Int) ≤ lz) = false := by simp; omega
          have r5 : decide ((-1 : Int) < 0) = true := by simp
          clear hpc hm hnx
          go_wp2
          refine ⟨?rel, ?measure⟩
          case rel => exact ⟨i + 1, by omega, by go_num, ⟨(m : Int), rfl, by omega, by omega, HNX⟩, HBr⟩
          case measure => simp [intOf]; omega
    · obtain rfl : len = i := by omega
      clear HLZ
      go_wp2
      go_loopw [14] (fun iv wr => ∃ k : Nat, k ≤ n2 ∧ iv = .int .i64 (k : Int) ∧ Hid (Below W.heap.size W wr)) (fun iv _ => n2 - (intOf iv).toNat)
      case atStart => exact ⟨0, by omega, by go_num, HBr⟩
      case round =>
        obtain ⟨k, hk, rfl, HBk⟩ := hrel
        by_cases hkn : k < n2
        · have hkw : k < ws.length := by rw [← HZ.out.2]; exact hkn
          have hxm : ws.getD k 0 ∈ ws := getD_mem' (d := 0) hkw
          obtain ⟨hxl, q, hq1, hq2⟩ := HM.out.sub _ hxm
          obtain ⟨_, _, zb, zoff, hza, hzc⟩ := (H2.out.below HBk.out).open
          obtain rfl := hza (by omega)
          have cz := hzc k hkn
          have ez : zs2.getD k 0 = ((ws.getD k 0 : Nat) : Int) := by rw [HZ.out.1]; exact map_get hkw
          rw [ez] at cz
          obtain ⟨x, hx⟩ : ∃ x, ws.getD k 0 = x := ⟨_, rfl⟩
          rw [hx] at cz hxl hq1 hq2
          obtain ⟨_, _, pb, poff, hpa, hpc⟩ := (HP.out.below HBk.out).open
          obtain rfl := hpa (by omega)
          have cx := hpc x hxl
          have hsp := HR.out.nest.pos x hxl
          have e2 := (hq2 0 (by omega)).1
          rw [Nat.add_zero, Nat.add_zero] at e2
          rw [e2] at cx
          have hszx : (ts.getD x default).size = (sz ts x : Int) := (HR.out.sizes x hxl).2.1
          have hszq : (ts'.getD q default).size = (sz ts x : Int) := by
            have := (hq2 0 (by omega)).2.size
            rw [Nat.add_zero, Nat.add_zero] at this
            rw [this]; exact hszx
          have hfit := HR.out.nest.fit x hxl
          have hs1 := fun (w' : World) (hb : Below wr.heap.size wr w') => sub_any ob oo len oc ts' w' (HO.out.1.below (HBk.out.trans (hb.mono HBk.out.size))) HO.out.2.1 HO.out.2.2 hsp hq1 hszq
          have hs2 := fun (w' : World) (hb : Below wr.heap.size wr w') => sub_any ab ao len cap ts w' (HN.out.1.below (HBk.out.trans (hb.mono HBk.out.size))) HN.out.2.1 HN.out.2.2 hsp hfit hszx
          have hst := fun (w' : World) (hb : Below wr.heap.size wr w') => sameTree_any (some ⟨ob, oo + q * 5, none⟩) (some ⟨ab, ao + x * 5, none⟩) (sz ts x) (oc - q) (cap - x) _ _ w' (nodes_sub (HO.out.1.below (HBk.out.trans (hb.mono HBk.out.size))) hq1) (nodes_sub (HN.out.1.below (HBk.out.trans (hb.mono HBk.out.size))) hfit) (fun j hj => by
            have := (hq2 j hj).2
            simpa [List.getD, hj] using this)
          have hsub : ∀ w', Below wr.heap.size wr w' → ∀ b off c p : Nat, SubKey ob oo oc q ab ao cap x b off c p → Calls Try.prog 58 #[.slice (some ⟨b, off, none⟩) len c, .int .i64 (p : Int)] w' (SubPost (.slice (some ⟨b, off + p * 5, none⟩) (sz ts x) (c - p)) w') := fun w' hb b off c p hh => by
            rcases hh with ⟨rfl, rfl, rfl, rfl⟩ | ⟨rfl, rfl, rfl, rfl⟩
            · exact hs1 w' hb
            · exact hs2 w' hb
          have HSUB := Lib.hid hsub
          have HST := Lib.hid hst
          have hkI : (k : Int) < (n2 : Int) := by omega
          have hxI : (x : Int) < (len : Int) := by omega
          obtain ⟨sx, hsx⟩ : ∃ sx, sz ts x = sx := ⟨_, rfl⟩
          rw [hsx] at HSUB HST
          clear hsub hs1 hs2 hst hzc hpc hxm hx ez e2 hq1 hq2 hszx hszq hfit hsp hsx hkw
          go_wp2
          go_region_with (first
            | (go_at_call 58; refine (HSUB.out _ (Below.refl _ _).drew _ _ _ _ (by first | exact Or.inl ⟨rfl, rfl, rfl, rfl⟩ | exact Or.inr ⟨rfl, rfl, rfl, rfl⟩)).mono ?_; rintro e w' ⟨rfl, rfl⟩)
            | (go_at_call 57; refine (HST.out _ (Below.refl _ _).drew).mono ?_; rintro e w' ⟨rfl, hb'⟩))
          all_goals
            have HB9 := Lib.hid (HBk.out.trans (((Below.refl _ _).drew.trans hb').mono HBk.out.size))
            go_wp2
            refine ⟨?rel, ?measure⟩
            case rel => exact ⟨k + 1, by omega, by go_num, HB9⟩
            case measure => simp [intOf]; omega
        · obtain rfl : k = n2 := by omega
          go_wp2
          go_ret
          exact ⟨rfl, HBk.out⟩

end Go.Proofs.Ytoleejaabiafcaa

