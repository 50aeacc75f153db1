/- goquery: AfterNodes, at one node: the nodes are turned round first. -/
import Derived.Test.YtoleejaabiafcaaGreatDomIns
import Derived.Test.YtoleejaabiafcaaGreatKnotAll
import Derived.BigRegion
import Derived.RegionTactic
import Derived.ChangeAlike
import Derived.StillTailTactics
namespace Go.Proofs.YtoleejaabiafcaaGreat
open Go.RowKit
set_option linter.unusedVariables false
set_option linter.unusedSimpArgs false

/-- A list while it is turned round: k at each end are exchanged. -/
def swp (ws : List Nat) (k q : Nat) : Nat := if q < k ∨ ws.length - k ≤ q then ws.getD (ws.length - 1 - q) 0 else ws.getD q 0

theorem swp_zero {ws : List Nat} {q : Nat} (hq : q < ws.length) : swp ws 0 q = ws.getD q 0 := by
  unfold swp
  rw [if_neg (by omega)]

theorem swp_succ {ws : List Nat} {k : Nat} (h : 2 * k + 1 < ws.length) {q : Nat} (hq : q < ws.length) : swp ws (k + 1) q = if q = ws.length - 1 - k then swp ws k k else if q = k then swp ws k (ws.length - 1 - k) else swp ws k q := by
  unfold swp
  by_cases h1 : q = ws.length - 1 - k
  · subst h1
    rw [if_pos rfl, if_pos (by omega), if_neg (by omega), show ws.length - 1 - (ws.length - 1 - k) = k by omega]
  · rw [if_neg h1]
    by_cases h2 : q = k
    · subst h2
      rw [if_pos rfl, if_pos (by omega), if_neg (by omega)]
    · rw [if_neg h2]
      by_cases h3 : q < k ∨ ws.length - k ≤ q
      · rw [if_pos h3, if_pos (by omega)]
      · rw [if_neg h3, if_neg (by omega)]

theorem swp_end {ws : List Nat} {k : Nat} (h : ws.length ≤ 2 * k + 1) {q : Nat} (hq : q < ws.length) : swp ws k q = ws.reverse.getD q 0 := by
  have e : ws.reverse.getD q 0 = ws.getD (ws.length - 1 - q) 0 := by
    rw [List.getD_eq_getElem?_getD, List.getD_eq_getElem?_getD, List.getElem?_reverse hq]
  rw [e]
  unfold swp
  by_cases h3 : q < k ∨ ws.length - k ≤ q
  · rw [if_pos h3]
  · rw [if_neg h3, show ws.length - 1 - q = q by omega]

theorem set_range (m i : Nat) (u : Value) (f : Nat → Value) : ((List.range m).map f).set i u = (List.range m).map fun q => if q = i then u else f q := by
  apply List.ext_getElem?
  intro j
  rw [List.getElem?_set]
  by_cases e : i = j
  · subst e
    by_cases h : i < m
    · simp [h]
    · simp [h]
  · rw [if_neg e]
    by_cases h : j < m
    · simp [h, Ne.symm e]
    · simp [h]

theorem row_range {ws : List Nat} {nb : Nat → Nat} : (ws.map fun y => ptrV (nb y)) = (List.range ws.length).map fun q => ptrV (nb (ws.getD q 0)) := by
  apply List.ext_getElem?
  intro j
  by_cases h : j < ws.length
  · simp [h]
  · simp [h]

theorem rev_step {ws : List Nat} {nb : Nat → Nat} {k : Nat} (h : 2 * k + 1 < ws.length) : (((List.range ws.length).map fun q => ptrV (nb (swp ws k q))).set k (ptrV (nb (swp ws k (ws.length - 1 - k))))).set (ws.length - 1 - k) (ptrV (nb (swp ws k k))) = (List.range ws.length).map fun q => ptrV (nb (swp ws (k + 1) q)) := by
  rw [set_range, set_range]
  refine List.map_congr_left (fun q hq => ?_)
  rw [swp_succ h (List.mem_range.1 hq)]
  by_cases h1 : q = ws.length - 1 - k
  · rw [if_pos h1, if_pos h1]
  · rw [if_neg h1, if_neg h1]
    by_cases h2 : q = k
    · rw [if_pos h2, if_pos h2]
    · rw [if_neg h2, if_neg h2]

theorem rev_step2 {ws : List Nat} {nb : Nat → Nat} {k J b1 b2 : Nat} (h : 2 * k + 1 < ws.length) (hJ : ws.length - 1 - k = J) (h1 : nb (swp ws k k) = b1) (h2 : nb (swp ws k J) = b2) : (((List.range ws.length).map fun q => ptrV (nb (swp ws k q))).set k (ptrV b2)).set J (ptrV b1) = (List.range ws.length).map fun q => ptrV (nb (swp ws (k + 1) q)) := by
  subst hJ h1 h2
  exact rev_step h

theorem nodup_rev {l : List Nat} (h : l.Nodup) : l.reverse.Nodup := by
  unfold List.Nodup at *
  rw [List.pairwise_reverse]
  exact h.imp Ne.symm

theorem rev_end {ws : List Nat} {nb : Nat → Nat} {k : Nat} (h : ws.length ≤ 2 * k + 1) : ((List.range ws.length).map fun q => ptrV (nb (swp ws k q))) = ws.reverse.map fun y => ptrV (nb y) := by
  rw [row_range (ws := ws.reverse), List.length_reverse]
  refine List.map_congr_left (fun q hq => ?_)
  rw [swp_end h (List.mem_range.1 hq)]

/-- The forest while nodes are moved, each ahead of those that were put before it. -/
def mvA (F : Wd) (p : Nat) (A0 B0 T : List Nat) : Wd := (F.off T).ins p (offL T A0) T.reverse (offL T B0)

theorem mvA_nil {F : Wd} {p : Nat} {A0 B0 : List Nat} (h : F.kids p = A0 ++ B0) : mvA F p A0 B0 [] = F := by
  unfold mvA
  rw [off_nil, offL_nil, offL_nil, List.reverse_nil, ins_nil h]

theorem mvA_end (F : Wd) (p : Nat) (A0 B0 ws : List Nat) : mvA F p A0 B0 ws.reverse = mv F p A0 B0 ws := by
  have hm : ∀ y, y ∈ ws.reverse ↔ y ∈ ws := fun y => List.mem_reverse
  unfold mvA mv
  rw [List.reverse_reverse, off_congr F hm, offL_congr hm, offL_congr hm]

theorem mvA_step {n : Nat} {F : Wd} (hF : WOk n F) {p : Nat} (hp : p < n) {A0 B0 : List Nat} (h0 : F.kids p = A0 ++ B0) {T W : List Nat} (hTW : ∀ y ∈ T, y ∈ W) (hW : ∀ v ∈ W, ¬ Anc F v p) {v : Nat} (hv : v ∈ W) (hvT : v ∉ T) (hvn : v < n) (hG : WOk n (mvA F p A0 B0 T)) :
    WOk n ((mvA F p A0 B0 T).cut v) ∧ ((mvA F p A0 B0 T).cut v).up v = none ∧ v ≠ p ∧ ((mvA F p A0 B0 T).cut v).kids p = offL (T ++ [v]) A0 ++ (T.reverse ++ offL (T ++ [v]) B0) ∧
      ((mvA F p A0 B0 T).cut v).put p (offL (T ++ [v]) A0).length v = mvA F p A0 B0 (T ++ [v]) ∧ WOk n (mvA F p A0 B0 (T ++ [v])) := by
  obtain ⟨h1, h2, h3, h4⟩ := move_ok hF hp h0 (T := T) (T' := T.reverse) (fun y => List.mem_reverse.symm) hTW hW hv hvT hvn hG
  have hu : ((mvA F p A0 B0 T).cut v).up v = none := by simp [Wd.cut]
  have hput : ((mvA F p A0 B0 T).cut v).put p (offL (T ++ [v]) A0).length v = mvA F p A0 B0 (T ++ [v]) := by
    unfold mvA
    rw [h2, ins_put_front, List.reverse_append]
    rfl
  refine ⟨h1, hu, h4, ?_, hput, ?_⟩
  · unfold mvA
    rw [h2]
    simp [Wd.ins]
  · rw [← hput]
    exact h1.put _ hp hvn hu h3

set_option maxRecDepth 100000 in
set_option maxHeartbeats 1000000 in
theorem fun_after {B n : Nat} {w : World} {nb : Nat → Nat} {v : Nat → Value} {lab : Nat → NodeD} {G : Wd} (h : DomAt B w n nb v lab G) (hG : WOk n G) {x p y : Nat} (hpx : G.up x = some p) (hp : p < n) (hy : y < n) (hyp : y ≠ p) (hu : G.up y = none) {A A1 Bk : List Nat} (hl : G.kids p = A ++ Bk) (hA : A = A1 ++ [x]) :
    Calls Tryz.prog 101 #[.pointer (some ⟨nb x, 0, none⟩), .pointer (some ⟨nb y, 0, none⟩)] w (TurnPost B n nb v lab (G.put p A.length y) w) := by
  have hd : DomAt B w.drew n nb v lab G := h.below (Below.refl _ _).drew
  have hins := insertBefore_any hd hG hp hy hyp hu A Bk hl
  have hxn := (hG.ltUp hpx).1
  have c0 := (h.node x hxn).par
  have c4 := (h.node x hxn).nxt
  have e0 : (linkR G nb (lab x) (v x) x).par = some (nb p) := by simp [linkR, hpx]
  have hxA : x ∉ A1 := fun hm => by
    have h1 := hG.nd p
    rw [hl, hA, List.append_assoc] at h1
    exact (nd_parts h1).1 hm
  have e4 : (linkR G nb (lab x) (v x) x).nxt = Bk.head?.map nb := by
    simp only [linkR, hpx, Option.bind_some, hl, hA, List.append_assoc]
    rw [show [x] ++ Bk = x :: Bk from rfl, nxtIn_app A1 hxA]
  rw [e0, lk_some] at c0
  rw [e4] at c4
  have e5 : lk (Bk.head?.map nb) = .pointer (Bk.head?.map fun r => (⟨nb r, 0, none⟩ : Addr)) := by cases Bk <;> rfl
  rw [e5] at c4
  obtain ⟨o, ho⟩ : ∃ o, (Bk.head?.map fun r => (⟨nb r, 0, none⟩ : Addr)) = o := ⟨_, rfl⟩
  rw [ho] at c4 hins
  have HI := Lib.hid hins
  clear hins h hd hG hl hu hpx e0 e4 e5 hA ho
  go_enter Tryz.func101, Tryz.ntmps101
  go_wp2
  go_still_tail 9, (by kernel_rfl)
  go_wp2_with fail
  refine HI.out.mono ?_
  rintro e w1 ⟨rfl, hd, ho⟩
  have ho2 : Hid (OnlyN n nb w w1) := Lib.hid ((show OnlyN n nb w w.drew from ⟨rfl, fun _ _ => rfl, fun _ _ => (Below.refl _ _).drew⟩).trans ho.out)
  go_wp2
  go_end0
  exact ⟨rfl, hd, ho2⟩

theorem row_cell {w : World} {B : Nat} {e : TypeId} {g L cap m : Nat} {f : Nat → Nat} (h : w.ownsRow B e 1 (.slice (some ⟨g, 0, none⟩) L cap) m ((List.range m).map fun q => ptrV (f q))) {i : Nat} (hi : i < m) : w.cell? ⟨g, i, none⟩ = some (.pointer (some ⟨f i, 0, none⟩)) := by
  have := h.cells (g := g) rfl i (ptrV (f i)) (by simp [hi])
  rwa [show (⟨g, 0, none⟩ : Addr).add i = ⟨g, i, none⟩ by unfold Addr.add; split <;> simp_all] at this

def ManipPostA (s B n : Nat) (nb : Nat → Nat) (v : Nat → Value) (lab : Nat → NodeD) (F : Wd) (w : World) (e : Ending) (w' : World) : Prop := e = .returned (.pointer (some ⟨s, 0, none⟩)) ∧ Hid (DomAt B w' n nb v lab F) ∧ Hid (WOk n F) ∧ ∃ wm, Hid (Below w.heap.size w wm) ∧ Hid (OnlyN n nb wm w')

set_option maxRecDepth 100000 in
set_option maxHeartbeats 4000000 in
theorem manip_after {B n : Nat} {w0 w : World} {nb : Nat → Nat} {v : Nat → Value} {lab : Nat → NodeD} {F : Wd} (h : DomAt B w0 n nb v lab F) (hF : WOk n F) (s : Nat) (sv : Value) {x p : Nat} {A0 B0 ws : List Nat} (S : Nat) (hs : SelAt w0 s sv ([x].map nb) S) (hS : ∀ i, i < n → nb i < S) (hx : x < n) (hp : p < n) (hl : F.kids p = A0 ++ B0) (hpx : F.up x = some p) (hA0 : ∃ a, A0 = a ++ [x]) (hxw : x ∉ ws)
    (nv : Value) (hb0 : Below w0.heap.size w0 w) (hns : w.ownsRow w0.heap.size 58 1 nv ws.length (ws.map fun y => ptrV (nb y))) (hws : ∀ y ∈ ws, y < n) (hnd : ws.Nodup) (hwl : ws.length ≤ 600) (hanc : ∀ y ∈ ws, ¬ Anc F y p) :
    Calls Tryz.prog 100 #[.pointer (some ⟨s, 0, none⟩), nv, .bool true, .func (.func 101) #[] #[]] w (ManipPostA s B n nb v lab (mv F p A0 B0 ws) w0) := by
  have hown : w0.ownsRow S 58 1 sv [x].length ([x].map fun y => ptrV (nb y)) := by
    have h1 := hs.own
    unfold OwnPtrs at h1
    rw [List.length_map, List.map_map] at h1
    exact h1
  have c00 := hs.nodes
  obtain ⟨sa, scap, rfl⟩ := ownsRow_slice hown
  obtain ⟨sg, rfl⟩ : ∃ sg, sa = some ⟨sg, 0, none⟩ := by
    rcases hown.2 with ⟨_, h2⟩ | ⟨g0, c0_, cur, hv_, _⟩
    · simp at h2
    · simp at hv_; exact ⟨g0, hv_.1⟩
  have c0 := cell_below hb0 c00
  obtain ⟨na, ncap, ng, hnv, _, _, hn1, hn2, _, _⟩ := own_open hns
  subst hnv
  have hsgS := (World.ownsRow.lt hown sg rfl).1
  have hngS : 0 < ws.length → w0.heap.size ≤ ng := fun h0 => (World.ownsRow.lt hns ng (by rw [hn1 h0]; rfl)).1
  have hSw : S ≤ w0.heap.size := Nat.le_trans hs.base (Nat.le_of_lt (World.block_lt_of_cell? _ _ c00))
  have cs0 := own_nodes hown 0 (by simp)
  simp only [List.getD_cons_zero] at cs0
  have HSZ := Lib.hid (size_any s _ _ _ w c0)
  have HD := Lib.hid h
  have HF := Lib.hid hF
  have HS := Lib.hid (And.intro hS (And.intro hs.base (And.intro hsgS (And.intro hngS hSw))))
  have HB0 := Lib.hid hb0
  have HROW := Lib.hid hns
  have HNA := Lib.hid hn1
  have HW := Lib.hid (And.intro hws (And.intro hnd hanc))
  have HL := Lib.hid hl
  have HPX := Lib.hid (And.intro hpx (And.intro hA0 hxw))
  clear h hF hs hown hns hn1 hn2 hws hnd hanc hl hsgS hngS hS hpx hA0 hxw hb0 hSw
  go_enter Tryz.func100, Tryz.ntmps100
  go_wp2_with fail
  refine HSZ.out.mono ?_
  rintro e w1 ⟨rfl, rfl⟩
  clear HSZ
  go_wp2
  go_loopw [10, 11] (fun iv jv wr => ∃ k : Nat, k ≤ ws.length ∧ iv = .int .i64 (k : Int) ∧ jv = .int .i64 ((ws.length : Int) - 1 - (k : Int)) ∧ Hid (Below w0.heap.size w0 wr) ∧ Hid (wr.ownsRow w0.heap.size 58 1 (.slice na ws.length ncap) ws.length ((List.range ws.length).map fun q => ptrV (nb (swp ws k q))))) (fun iv _ _ => ws.length - (intOf iv).toNat)
  case atStart =>
    refine ⟨0, by omega, by go_num, by go_num, HB0, Lib.hid ?_⟩
    have h1 := HROW.out
    rw [row_range] at h1
    have e : ((List.range ws.length).map fun q => ptrV (nb (swp ws 0 q))) = (List.range ws.length).map fun q => ptrV (nb (ws.getD q 0)) := List.map_congr_left (fun q hq => by rw [swp_zero (List.mem_range.1 hq)])
    rw [e]
    exact h1
  case round =>
    obtain ⟨k, hk, rfl, rfl, HBr, HRr⟩ := hrel
    by_cases hlt : 2 * k + 1 < ws.length
    · obtain ⟨J, hJ⟩ : ∃ J : Nat, ws.length - 1 - k = J := ⟨_, rfl⟩
      have hJI : (ws.length : Int) - 1 - (k : Int) = (J : Int) := by omega
      rw [hJI]
      have hkJ : (k : Int) < (J : Int) := by omega
      have hkm : (k : Int) < (ws.length : Int) := by omega
      have hJm : (J : Int) < (ws.length : Int) := by omega
      obtain rfl := HNA.out (by omega)
      have ck := row_cell (f := fun q => nb (swp ws k q)) HRr.out (i := k) (by omega)
      have cJ := row_cell (f := fun q => nb (swp ws k q)) HRr.out (i := J) (by omega)
      obtain ⟨b1, hb1⟩ : ∃ b1, nb (swp ws k k) = b1 := ⟨_, rfl⟩
      obtain ⟨b2, hb2⟩ : ∃ b2, nb (swp ws k J) = b2 := ⟨_, rfl⟩
      simp only [hb1] at ck
      simp only [hb2] at cJ
      have hne : k ≠ J := by omega
      have fk : wr.frozen? ⟨ng, k, none⟩ = false := World.ownsRow.frozenAt HRr.out k
      have fJ : wr.frozen? ⟨ng, J, none⟩ = false := World.ownsRow.frozenAt HRr.out J
      have HSW := Lib.hid (And.intro hJ (And.intro hb1 hb2))
      clear hJ hb1 hb2 hJI
      go_wp2
      go_region
      go_wp2
      obtain ⟨eJ, e1, e2⟩ := HSW.out
      have hown2 := ownsRow_set (ownsRow_set HRr.out (i := k) (by omega) (ptrV b2)) (i := J) (by omega) (ptrV b1)
      rw [rev_step2 hlt eJ e1 e2] at hown2
      have hJI2 : (J : Int) = (ws.length : Int) - 1 - (k : Int) := by omega
      refine ⟨?rel, ?measure⟩
      case rel => exact ⟨k + 1, by omega, by go_num, by go_num, Lib.hid (Below.setCell (Below.setCell HBr.out (HS.out.2.2.2.1 (by omega)) _) (HS.out.2.2.2.1 (by omega)) _).drew, Lib.hid (ownsRow_kept hown2 (fun _ _ => rfl))⟩
      case measure => simp [intOf]; omega
    · have hrow : wr.ownsRow w0.heap.size 58 1 (.slice na ws.length ncap) ws.reverse.length (ws.reverse.map fun y => ptrV (nb y)) := by
        have h1 := HRr.out
        rw [rev_end (by omega)] at h1
        rw [List.length_reverse]
        exact h1
      obtain ⟨V, hV⟩ : ∃ V, ws.reverse = V := ⟨_, rfl⟩
      have hVl : V.length = ws.length := by rw [← hV, List.length_reverse]
      have hVm : ∀ y, y ∈ V ↔ y ∈ ws := fun y => by rw [← hV]; exact List.mem_reverse
      have hVn : V.Nodup := by rw [← hV]; exact nodup_rev HW.out.2.1
      rw [hV] at hrow
      have hVc : 0 < ws.length → ∀ i, i < V.length → wr.cell? ⟨ng, i, none⟩ = some (.pointer (some ⟨nb (V.getD i 0), 0, none⟩)) := fun h0 => by
        obtain rfl := HNA.out h0
        rw [← hVl] at hrow
        exact own_nodes hrow
      have hdm := HD.out.below HBr.out
      have c1 := cell_below HBr.out c00
      have cs1 := cell_below HBr.out cs0
      have hjf : decide ((k : Int) < (ws.length : Int) - 1 - (k : Int)) = false := by simp; omega
      have HVV := Lib.hid (And.intro hV (And.intro hVm (And.intro hVn hVc)))
      have HDM := Lib.hid hdm
      have HLT := Lib.hid hlt
      have HVL := Lib.hid hVl
      clear hV hVm hVn hVc hrow hdm c00 c0 cs0 HROW HRr hlt
      obtain ⟨m, hm⟩ : ∃ m, ws.length = m := ⟨_, rfl⟩
      have HM := Lib.hid hm
      rw [hm] at hk hwl hjf hVl ⊢
      clear hm hVl
      obtain ⟨wa, hwa⟩ : ∃ wa, wa = wr := ⟨_, rfl⟩
      subst hwa
      go_wp2
      go_loopw [49] (fun iv wq => ∃ i : Nat, iv = .int .i64 (i : Int) ∧ Hid (OnlyN n nb wa wq) ∧ ((i = 0 ∧ Hid (DomAt B wq n nb v lab F)) ∨ (i = 1 ∧ Hid (DomAt B wq n nb v lab (mvA F p A0 B0 V)) ∧ Hid (WOk n (mvA F p A0 B0 V))))) (fun iv _ => 1 - (intOf iv).toNat)
      case atStart => exact ⟨0, by go_num, Lib.hid (OnlyN.refl _ _ _), .inl ⟨rfl, HDM⟩⟩
      case round =>
        obtain ⟨i, rfl, HO, hcase⟩ := hrel
        have keep : ∀ (w' : World), OnlyN n nb wa w' → ∀ (q o : Nat) (z : Value), S ≤ q → wa.cell? ⟨q, o, none⟩ = some z → w'.cell? ⟨q, o, none⟩ = some z := fun w' ho q o z hq hz =>
          (World.cell?_of_block (ho.block q (fun i hi e => by have := HS.out.1 i hi; omega))).trans hz
        have HKEEP := Lib.hid keep
        clear keep
        rcases hcase with ⟨rfl, HDr⟩ | ⟨rfl, HDr, HWr⟩
        · have cx := HKEEP.out _ HO.out sg 0 _ HS.out.2.2.1 cs1
          go_wp2
          go_loopw [56] (fun jv wq2 => ∃ k : Nat, k ≤ m ∧ jv = .int .i64 (k : Int) ∧ Hid (OnlyN n nb wa wq2) ∧ Hid (DomAt B wq2 n nb v lab (mvA F p A0 B0 (V.take k))) ∧ Hid (WOk n (mvA F p A0 B0 (V.take k)))) (fun jv _ => m - (intOf jv).toNat)
          case atStart => exact ⟨0, by omega, by go_num, HO, Lib.hid (by rw [List.take_zero, mvA_nil HL.out]; exact HDr.out), Lib.hid (by rw [List.take_zero, mvA_nil HL.out]; exact HF.out)⟩
          case round =>
            obtain ⟨k, hk, rfl, HOk, HDk, HWk⟩ := hrel
            by_cases hlt : k < m
            · have hmw := HM.out
              obtain rfl := HNA.out (by omega)
              have hVlt : k < V.length := by rw [HVL.out]; omega
              have ck := HKEEP.out _ HOk.out ng k _ (Nat.le_trans HS.out.2.2.2.2 (HS.out.2.2.2.1 (by omega))) (HVV.out.2.2.2 (by omega) k hVlt)
              have hyV : V.getD k 0 ∈ V := getD_mem' (d := 0) hVlt
              have hyw : V.getD k 0 ∈ ws := (HVV.out.2.1 _).1 hyV
              have hyn := HW.out.1 _ hyw
              have htk := take_snoc hVlt
              have hyT : V.getD k 0 ∉ V.take k := fun hm => by
                have h4 := HVV.out.2.2.1
                rw [← List.take_append_drop k V, List.nodup_append] at h4
                refine h4.2.2 _ hm _ ?_ rfl
                rw [List.drop_eq_getElem_cons hVlt, List.getD_eq_getElem?_getD, List.getElem?_eq_getElem hVlt]
                exact List.mem_cons_self ..
              obtain ⟨y, hy⟩ : ∃ y, V.getD k 0 = y := ⟨_, rfl⟩
              rw [hy] at ck hyw hyn htk hyT
              have hkI : (k : Int) < (m : Int) := by omega
              obtain ⟨m1, m2, m3, m4, m5, m6⟩ := mvA_step HF.out hp HL.out (T := V.take k) (W := ws) (fun q hq => (HVV.out.2.1 _).1 (List.mem_of_mem_take hq)) HW.out.2.2 hyw hyT hyn HWk.out
              rw [← htk] at m6
              have hxy : x ≠ y := fun e => HPX.out.2.2 (by rw [e]; exact hyw)
              have hxT : x ∉ V.take k := fun hm => HPX.out.2.2 ((HVV.out.2.1 _).1 (List.mem_of_mem_take hm))
              have hupx : ((mvA F p A0 B0 (V.take k)).cut y).up x = F.up x := by
                simp only [Wd.cut, mvA, Wd.ins, Wd.off, if_neg hxy, List.mem_reverse, if_neg hxT]
              obtain ⟨a0, ha0⟩ := HPX.out.2.1
              have hA1 : offL (V.take k ++ [y]) A0 = offL (V.take k ++ [y]) a0 ++ [x] := by
                rw [ha0, offL_append, offL_keep (fun hm => by rcases List.mem_append.1 hm with h | h; exact hxT h; simp at h; exact hxy h)]
              have hfun : ∀ wq, DomAt B wq n nb v lab ((mvA F p A0 B0 (V.take k)).cut y) → Calls Tryz.prog 101 #[.pointer (some ⟨nb x, 0, none⟩), .pointer (some ⟨nb y, 0, none⟩)] wq (TurnPost B n nb v lab (mvA F p A0 B0 (V.take (k + 1))) wq) := fun wq hd => by
                have h9 := fun_after (x := x) hd m1 (by rw [hupx]; exact HPX.out.1) hp hyn m3 m2 m4 hA1
                rwa [m5, ← htk] at h9
              have c0y := (HDk.out.node y hyn).par
              have HFUN := Lib.hid hfun
              have HM6 := Lib.hid m6
              clear hA1 ha0 hupx hxy hxT hmw hyV hVlt
              cases hu : (mvA F p A0 B0 (V.take k)).up y with
              | none =>
                have e0 : (linkR (mvA F p A0 B0 (V.take k)) nb (lab y) (v y) y).par = none := by simp [linkR, hu]
                rw [e0, lk_none] at c0y
                have HC := Lib.hid (hfun _ (by rw [HWk.out.cut_none hu]; exact HDk.out))
                clear hfun e0 hu m1 m2 m3 m4 m5 m6 hy htk hyT hyw
                go_wp2_with fail
                refine HC.out.mono ?_
                rintro e w3 ⟨rfl, hd3, ho3⟩
                have HO3 := Lib.hid (HOk.out.trans ho3.out)
                clear ho3 HC ck c0y
                go_wp2
                refine ⟨?rel, ?measure⟩
                case rel => exact ⟨_, _, _, _, _, _, _, _, _, _, _, _, _, _, _, _, _, _, _, _, _, _, _, _, _, _, _, _, _, ⟨k + 1, by omega, by go_num, HO3, hd3, HM6⟩, rfl⟩
                case measure => simp [intOf]; omega
              | some q =>
                have e0 : (linkR (mvA F p A0 B0 (V.take k)) nb (lab y) (v y) y).par = some (nb q) := by simp [linkR, hu]
                rw [e0, lk_some] at c0y
                have HRC := Lib.hid (removeChild_any HDk.out HWk.out hu)
                clear hfun e0 hu m1 m2 m3 m4 m5 m6 hy htk hyT hyw
                go_wp2_with fail
                refine HRC.out.mono ?_
                rintro e w2 ⟨rfl, hd2, ho2⟩
                have HC := Lib.hid (HFUN.out w2 hd2.out)
                have HO2 := Lib.hid (HOk.out.trans ho2.out)
                clear ho2 HRC ck c0y
                go_wp2_with fail
                refine HC.out.mono ?_
                rintro e w3 ⟨rfl, hd3, ho3⟩
                have HO3 := Lib.hid (HO2.out.trans ho3.out)
                clear ho3 HC
                go_wp2
                refine ⟨?rel, ?measure⟩
                case rel => exact ⟨_, _, _, _, _, _, _, _, _, _, _, _, _, _, _, _, _, _, _, _, _, _, _, _, _, _, _, _, _, ⟨k + 1, by omega, by go_num, HO3, hd3, HM6⟩, rfl⟩
                case measure => simp [intOf]; omega
            · obtain rfl : k = m := by omega
              have hd := HDk.out
              have hw := HWk.out
              rw [List.take_of_length_le (by rw [HVL.out, HM.out]; exact Nat.le_refl _)] at hd hw
              have HD9 := Lib.hid hd
              have HW9 := Lib.hid hw
              clear hd hw
              go_wp2
              refine ⟨?rel, ?measure⟩
              case rel => exact ⟨1, by go_num, HOk, .inr ⟨rfl, HD9, HW9⟩⟩
              case measure => simp [intOf]
        · have hd := HDr.out
          have hw := HWr.out
          rw [← HVV.out.1, mvA_end] at hd hw
          have HD9 := Lib.hid hd
          have HW9 := Lib.hid hw
          clear hd hw
          go_wp2
          go_ret
          exact ⟨rfl, HD9, HW9, _, HBr, HO⟩

set_option maxRecDepth 100000 in
set_option maxHeartbeats 1000000 in
theorem nodes_after {X : Ending → World → Prop} (s : Nat) (nv : Value) (w : World) (h : Calls Tryz.prog 100 #[.pointer (some ⟨s, 0, none⟩), nv, .bool true, .func (.func 101) #[] #[]] w (fun e w' => e = .returned (.pointer (some ⟨s, 0, none⟩)) ∧ X e w')) :
    Calls Tryz.prog 86 #[.pointer (some ⟨s, 0, none⟩), nv] w (fun e w' => e = .returned (.pointer (some ⟨s, 0, none⟩)) ∧ X e w') := by
  have H := Lib.hid h
  clear h
  go_enter Tryz.func86, Tryz.ntmps86
  go_wp2_with fail
  refine H.out.mono ?_
  rintro e w1 ⟨rfl, hx⟩
  go_wp2
  go_ret
  exact ⟨rfl, hx⟩

end Go.Proofs.YtoleejaabiafcaaGreat
