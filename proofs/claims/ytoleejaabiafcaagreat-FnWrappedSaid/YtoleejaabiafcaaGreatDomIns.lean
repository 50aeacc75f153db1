/- html: AppendChild, on a document as a forest that changes. (Printed by gen_appenddom.py.) goquery: AppendNodes, BeforeNodes, at one node. (Printed by gen_manip.py.) -/
import Derived.Test.YtoleejaabiafcaaGreatDomAll
import Derived.Test.YtoleejaabiafcaaGreatAloneAll
import Derived.Test.YtoleejaabiafcaaGreatInsAll
import Derived.Test.YtoleejaabiafcaaGreatPtrAll
namespace Go.Proofs.YtoleejaabiafcaaGreat
open Go.RowKit
set_option linter.unusedVariables false
set_option linter.unusedSimpArgs false

theorem appendChild_nn (P X : Nat) (rp rx : NRec) (w : World) (hp : World.nodeAt w P rp) (hx : World.nodeAt w X rx) (nPX : P ≠ X) (h0 : rx.par = none) (h3 : rx.prv = none) (h4 : rx.nxt = none) (h2 : rp.lst = none) :
    Calls Tryz.prog 98 #[.pointer (some ⟨P, 0, none⟩), .pointer (some ⟨X, 0, none⟩)] w fun e w' => e = .returned (.tuple #[]) ∧
      ∃ w1, World.putN w P { rp with fst := some X, lst := some X } = w1 ∧ World.putN w1 X { rx with par := some P, prv := none, nxt := none } = w' := by
  refine (appendChild_first P X rp rx w hp hx nPX h2 h0 h3 h4).mono ?_
  rintro e w' ⟨he, hw⟩
  refine ⟨he, _, rfl, ?_⟩
  rw [← hw]
  cases rx
  simp only at h3 h4
  subst h3 h4
  rfl

theorem appendChild_sn (P X Q : Nat) (rp rx rq : NRec) (w : World) (hp : World.nodeAt w P rp) (hx : World.nodeAt w X rx) (hq : World.nodeAt w Q rq) (nPX : P ≠ X) (nPQ : P ≠ Q) (nXQ : X ≠ Q) (h0 : rx.par = none) (h3 : rx.prv = none) (h4 : rx.nxt = none) (h2 : rp.lst = some Q) :
    Calls Tryz.prog 98 #[.pointer (some ⟨P, 0, none⟩), .pointer (some ⟨X, 0, none⟩)] w fun e w' => e = .returned (.tuple #[]) ∧
      ∃ w1, World.putN w Q { rq with nxt := some X } = w1 ∧ ∃ w2, World.putN w1 P { rp with lst := some X } = w2 ∧ World.putN w2 X { rx with par := some P, prv := some Q, nxt := none } = w' := by
  refine (appendChild_later P X Q rp rx rq w hp hx hq nPX (Ne.symm nPQ) (Ne.symm nXQ) h2 h0 h3 h4).mono ?_
  rintro e w' ⟨he, hw⟩
  refine ⟨he, _, rfl, _, rfl, ?_⟩
  rw [← hw]
  cases rx
  simp only at h4
  subst h4
  rfl

set_option maxRecDepth 100000 in
set_option maxHeartbeats 1000000 in
theorem app_nn {B n : Nat} {w : World} {nb : Nat → Nat} {v : Nat → Value} {lab : Nat → NodeD} {F : Wd} (h : DomAt B w n nb v lab F) (hF : WOk n F) {x p : Nat} (hp : p < n) (hx : x < n) (hxp : x ≠ p) (hu : F.up x = none) (hl : F.kids p = [] ++ []) :
    Calls Tryz.prog 98 #[.pointer (some ⟨nb p, 0, none⟩), .pointer (some ⟨nb x, 0, none⟩)] w (TurnPost B n nb v lab (F.put p ([] : List Nat).length x) w) := by
  have hxk : ∀ g, x ∉ F.kids g := fun g hm => by rw [hF.iff, hu] at hm; cases hm
  have hnd : (([] : List Nat) ++ x :: ([] : List Nat)).Nodup := by
    have := nodup_put (hF.nd p) ([] : List Nat).length (x := x) (hxk p)
    rw [hl, take_len, drop_len] at this
    exact this
  obtain ⟨n1, n2, n3, n4, n5, n6⟩ := nd_parts hnd
  have e0 : (linkR F nb (lab x) (v x) x).par = none := by unfold linkR; rw [hu]; rfl
  have e3 : (linkR F nb (lab x) (v x) x).prv = none := by unfold linkR; rw [hu]; rfl
  have e4 : (linkR F nb (lab x) (v x) x).nxt = none := by unfold linkR; rw [hu]; rfl
  have e5 : (linkR F nb (lab p) (v p) p).lst = ([] : List Nat).getLast?.map nb := by
    show (F.kids p).getLast?.map nb = _
    rw [hl, List.append_nil]
  refine (appendChild_nn (nb p) (nb x) _ _ w (h.node p hp) (h.node x hx) (h.ne hp hx (Ne.symm hxp)) e0 e3 e4 e5).mono ?_
  rintro e w' ⟨he, w1, hw0, hw1⟩
  have hon : OnlyN n nb w w' := (only_put (only_put (OnlyN.refl n nb w) hp hw0) hx hw1)
  refine ⟨he, Lib.hid (h.turn hon (fun i hi => ?_)), Lib.hid hon⟩
  by_cases ep : i = p
  · rw [ep]
    rw [put_rec (a := ([] : List Nat)) (b := ([] : List Nat)) hF hu hl (Ne.symm hxp)]
    have hh := (at_other (at_same (h.node p hp) hw0) (h.ne hp hx (Ne.symm hxp)) hw1)
    first
      | simpa [List.getLast?_concat, List.head?_cons, List.getLast?_nil, List.head?_nil] using hh
      | (refine Eq.mp (congrArg _ ?_) hh; simp [List.getLast?_concat, List.head?_cons, List.getLast?_nil, List.head?_nil, linkR, hl])
  by_cases ex : i = x
  · rw [ex]
    rw [put_self (a := ([] : List Nat)) (b := ([] : List Nat)) hF hxp hu hl]
    have hh := (at_same (at_other (h.node x hx) (h.ne hp hx (Ne.symm hxp)).symm hw0) hw1)
    simpa using hh
  rw [put_rec (a := ([] : List Nat)) (b := ([] : List Nat)) hF hu hl ex]
  have hh := (at_other (at_other (h.node i hi) (h.ne hi hp ep) hw0) (h.ne hi hx ex) hw1)
  simpa [List.getLast?_concat, List.head?_cons, List.getLast?_nil, List.head?_nil, ep] using hh


set_option maxRecDepth 100000 in
set_option maxHeartbeats 1000000 in
theorem app_sn {B n : Nat} {w : World} {nb : Nat → Nat} {v : Nat → Value} {lab : Nat → NodeD} {F : Wd} (h : DomAt B w n nb v lab F) (hF : WOk n F) {x p : Nat} (hp : p < n) (hx : x < n) (hxp : x ≠ p) (hu : F.up x = none) (a' : List Nat) (q : Nat) (hl : F.kids p = (a' ++ [q]) ++ []) :
    Calls Tryz.prog 98 #[.pointer (some ⟨nb p, 0, none⟩), .pointer (some ⟨nb x, 0, none⟩)] w (TurnPost B n nb v lab (F.put p (a' ++ [q]).length x) w) := by
  have hxk : ∀ g, x ∉ F.kids g := fun g hm => by rw [hF.iff, hu] at hm; cases hm
  have hnd : ((a' ++ [q]) ++ x :: ([] : List Nat)).Nodup := by
    have := nodup_put (hF.nd p) (a' ++ [q]).length (x := x) (hxk p)
    rw [hl, take_len, drop_len] at this
    exact this
  obtain ⟨n1, n2, n3, n4, n5, n6⟩ := nd_parts hnd
  have huq : F.up q = some p := (hF.iff p q).1 (by rw [hl]; simp)
  have hq := (hF.ltUp huq).1
  have hqp : q ≠ p := hF.irr huq
  have hqx : q ≠ x := fun e => n1 (by rw [← e]; simp)
  have e0 : (linkR F nb (lab x) (v x) x).par = none := by unfold linkR; rw [hu]; rfl
  have e3 : (linkR F nb (lab x) (v x) x).prv = none := by unfold linkR; rw [hu]; rfl
  have e4 : (linkR F nb (lab x) (v x) x).nxt = none := by unfold linkR; rw [hu]; rfl
  have e5 : (linkR F nb (lab p) (v p) p).lst = (a' ++ [q]).getLast?.map nb := by
    show (F.kids p).getLast?.map nb = _
    rw [hl, List.append_nil]
  rw [List.getLast?_concat] at e5
  refine (appendChild_sn (nb p) (nb x) (nb q) _ _ _ w (h.node p hp) (h.node x hx) (h.node q hq) (h.ne hp hx (Ne.symm hxp)) (h.ne hp hq (Ne.symm hqp)) (h.ne hx hq (Ne.symm hqx)) e0 e3 e4 e5).mono ?_
  rintro e w' ⟨he, w1, hw0, w2, hw1, hw2⟩
  have hon : OnlyN n nb w w' := (only_put (only_put (only_put (OnlyN.refl n nb w) hq hw0) hp hw1) hx hw2)
  refine ⟨he, Lib.hid (h.turn hon (fun i hi => ?_)), Lib.hid hon⟩
  by_cases ep : i = p
  · rw [ep]
    rw [put_rec (a := (a' ++ [q])) (b := ([] : List Nat)) hF hu hl (Ne.symm hxp)]
    have hh := (at_other (at_same (at_other (h.node p hp) (h.ne hp hq (Ne.symm hqp)) hw0) hw1) (h.ne hp hx (Ne.symm hxp)) hw2)
    first
      | simpa [List.getLast?_concat, List.head?_cons, List.getLast?_nil, List.head?_nil, hqp] using hh
      | (refine Eq.mp (congrArg _ ?_) hh; simp [List.getLast?_concat, List.head?_cons, List.getLast?_nil, List.head?_nil, hqp, linkR, hl])
  by_cases ex : i = x
  · rw [ex]
    rw [put_self (a := (a' ++ [q])) (b := ([] : List Nat)) hF hxp hu hl]
    have hh := (at_same (at_other (at_other (h.node x hx) (h.ne hx hq (Ne.symm hqx)) hw0) (h.ne hp hx (Ne.symm hxp)).symm hw1) hw2)
    simpa using hh
  by_cases eq : i = q
  · rw [eq]
    rw [put_rec (a := (a' ++ [q])) (b := ([] : List Nat)) hF hu hl hqx]
    have hh := (at_other (at_other (at_same (h.node q hq) hw0) (h.ne hp hq (Ne.symm hqp)).symm hw1) (h.ne hx hq (Ne.symm hqx)).symm hw2)
    first
      | simpa [List.getLast?_concat, List.head?_cons, List.getLast?_nil, List.head?_nil, hqp] using hh
      | (refine Eq.mp (congrArg _ ?_) hh; simp [List.getLast?_concat, List.head?_cons, List.getLast?_nil, List.head?_nil, hqp, linkR, hl])
  rw [put_rec (a := (a' ++ [q])) (b := ([] : List Nat)) hF hu hl ex]
  have hh := (at_other (at_other (at_other (h.node i hi) (h.ne hi hq eq) hw0) (h.ne hi hp ep) hw1) (h.ne hi hx ex) hw2)
  simpa [List.getLast?_concat, List.head?_cons, List.getLast?_nil, List.head?_nil, ep, Ne.symm eq, eq] using hh


/-- A node is put behind all kids. -/
theorem appendDom_any {B n : Nat} {w : World} {nb : Nat → Nat} {v : Nat → Value} {lab : Nat → NodeD} {F : Wd} (h : DomAt B w n nb v lab F) (hF : WOk n F) {x p : Nat} (hp : p < n) (hx : x < n) (hxp : x ≠ p) (hu : F.up x = none) :
    Calls Tryz.prog 98 #[.pointer (some ⟨nb p, 0, none⟩), .pointer (some ⟨nb x, 0, none⟩)] w (TurnPost B n nb v lab (F.put p (F.kids p).length x) w) := by
  rcases nil_or_snoc (F.kids p) with h0 | ⟨a', q, h0⟩
  · have := app_nn h hF hp hx hxp hu (by rw [h0]; rfl)
    rwa [h0]
  · have := app_sn h hF hp hx hxp hu a' q (by rw [h0, List.append_nil])
    rwa [h0]

end Go.Proofs.YtoleejaabiafcaaGreat

namespace Go.Proofs.YtoleejaabiafcaaGreat
open Go.RowKit
set_option linter.unusedVariables false
set_option linter.unusedSimpArgs false

/-- The forest while nodes are moved: T has been put. -/
def mv (F : Wd) (p : Nat) (A0 B0 T : List Nat) : Wd := (F.off T).ins p (offL T A0) T (offL T B0)

theorem mv_nil {F : Wd} {p : Nat} {A0 B0 : List Nat} (h : F.kids p = A0 ++ B0) : mv F p A0 B0 [] = F := by
  unfold mv
  rw [off_nil, offL_nil, offL_nil, ins_nil h]

theorem mv_step {n : Nat} {F : Wd} (hF : WOk n F) {p : Nat} (hp : p < n) {A0 B0 : List Nat} (h0 : F.kids p = A0 ++ B0) {T W : List Nat} (hTW : ∀ y ∈ T, y ∈ W) (hW : ∀ v ∈ W, ¬ Anc F v p) {v : Nat} (hv : v ∈ W) (hvT : v ∉ T) (hvn : v < n) (hG : WOk n (mv F p A0 B0 T)) :
    WOk n ((mv F p A0 B0 T).cut v) ∧ ((mv F p A0 B0 T).cut v).up v = none ∧ v ≠ p ∧ ((mv F p A0 B0 T).cut v).kids p = (offL (T ++ [v]) A0 ++ T) ++ offL (T ++ [v]) B0 ∧
      ((mv F p A0 B0 T).cut v).put p (offL (T ++ [v]) A0 ++ T).length v = mv F p A0 B0 (T ++ [v]) ∧ WOk n (mv F p A0 B0 (T ++ [v])) := by
  obtain ⟨h1, h2, h3, h4⟩ := move_ok hF hp h0 (fun y => Iff.rfl) hTW hW hv hvT hvn hG
  have hu : ((mv F p A0 B0 T).cut v).up v = none := by simp [Wd.cut]
  have hput : ((mv F p A0 B0 T).cut v).put p (offL (T ++ [v]) A0 ++ T).length v = mv F p A0 B0 (T ++ [v]) := by
    unfold mv
    rw [h2, List.length_append, ins_put]
  refine ⟨h1, hu, h4, ?_, hput, ?_⟩
  · unfold mv
    rw [h2]
    simp [Wd.ins]
  · rw [← hput]
    exact h1.put _ hp hvn hu h3

theorem own_nodes {w : World} {B : Nat} {g cap : Nat} {nb : Nat → Nat} {l : List Nat} (h : w.ownsRow B 58 1 (.slice (some ⟨g, 0, none⟩) l.length cap) l.length (l.map fun y => ptrV (nb y))) : ∀ i, i < l.length → w.cell? ⟨g, i, none⟩ = some (.pointer (some ⟨nb (l.getD i 0), 0, none⟩)) := own_krow h

def ManipPost (s B n : Nat) (nb : Nat → Nat) (v : Nat → Value) (lab : Nat → NodeD) (F : Wd) (w : World) (e : Ending) (w' : World) : Prop := e = .returned (.pointer (some ⟨s, 0, none⟩)) ∧ Hid (DomAt B w' n nb v lab F) ∧ Hid (WOk n F) ∧ Hid (OnlyN n nb w w')

set_option maxRecDepth 100000 in
set_option maxHeartbeats 1000000 in
theorem size_any (s : Nat) (a : Option Addr) (L cap : Nat) (w : World) (h : w.cell? ⟨s, 0, none⟩ = some (.slice a L cap)) :
    Calls Tryz.prog 105 #[.pointer (some ⟨s, 0, none⟩)] w (fun e w' => e = .returned (.int .i64 (L : Int)) ∧ w = w') := by
  have hl : Calls Tryz.prog 109 #[.pointer (some ⟨s, 0, none⟩)] w (fun e w' => e = .returned (.int .i64 (L : Int)) ∧ w = w') := by
    go_enter Tryz.func109, Tryz.ntmps109
    go_wp2
    go_ret
    exact ⟨rfl, rfl⟩
  have HL := Lib.hid hl
  clear hl h
  go_enter Tryz.func105, Tryz.ntmps105
  go_wp2_with fail
  refine HL.out.mono ?_
  rintro e w1 ⟨rfl, rfl⟩
  go_wp2
  go_ret
  exact ⟨rfl, rfl⟩

set_option maxRecDepth 100000 in
set_option maxHeartbeats 1000000 in
theorem fun_append {B n : Nat} {w : World} {nb : Nat → Nat} {v : Nat → Value} {lab : Nat → NodeD} {G : Wd} (h : DomAt B w n nb v lab G) (hG : WOk n G) {x p y : Nat} (hpx : p = x) (hp : p < n) (hy : y < n) (hyp : y ≠ p) (hu : G.up y = none) {A Bk : List Nat} (hl : G.kids p = A ++ Bk) (hB : Bk = []) :
    Calls Tryz.prog 111 #[.pointer (some ⟨nb x, 0, none⟩), .pointer (some ⟨nb y, 0, none⟩)] w (TurnPost B n nb v lab (G.put p A.length y) w) := by
  subst hB
  have hap := appendDom_any h hG hp hy hyp hu
  rw [hl, List.append_nil, hpx] at hap
  rw [hpx]
  have HAP := Lib.hid hap
  clear hap h hG hl hu
  go_enter Tryz.func111, Tryz.ntmps111
  go_wp2_with fail
  refine HAP.out.mono ?_
  rintro e w1 ⟨rfl, hd, ho⟩
  go_wp2
  go_end0
  exact ⟨rfl, hd, ho⟩

set_option maxRecDepth 100000 in
set_option maxHeartbeats 4000000 in
theorem manip_append {B n : Nat} {w : World} {nb : Nat → Nat} {v : Nat → Value} {lab : Nat → NodeD} {F : Wd} (h : DomAt B w n nb v lab F) (hF : WOk n F) (s : Nat) (sv : Value) {x p : Nat} {A0 B0 ws : List Nat} (S : Nat) (hs : SelAt w s sv ([x].map nb) S) (hS : ∀ i, i < n → nb i < S) (hx : x < n) (hp : p < n) (hl : F.kids p = A0 ++ B0) (hpx : p = x) (hB0 : B0 = [])
    (nv : Value) (hns : w.ownsRow S 58 1 nv ws.length (ws.map fun y => ptrV (nb y))) (hws : ∀ y ∈ ws, y < n) (hnd : ws.Nodup) (hwl : ws.length ≤ 600) (hanc : ∀ y ∈ ws, ¬ Anc F y p) :
    Calls Tryz.prog 100 #[.pointer (some ⟨s, 0, none⟩), nv, .bool false, .func (.func 111) #[] #[]] w (ManipPost s B n nb v lab (mv F p A0 B0 ws) w) := by
  have hown : w.ownsRow S 58 1 sv [x].length ([x].map fun y => ptrV (nb y)) := by
    have h1 := hs.own
    unfold OwnPtrs at h1
    rw [List.length_map, List.map_map] at h1
    exact h1
  have c0 := hs.nodes
  obtain ⟨sa, scap, rfl⟩ := ownsRow_slice hown
  obtain ⟨sg, rfl⟩ : ∃ sg, sa = some ⟨sg, 0, none⟩ := by
    rcases hown.2 with ⟨_, h2⟩ | ⟨g0, c0_, cur, hv_, _⟩
    · simp at h2
    · simp at hv_; exact ⟨g0, hv_.1⟩
  obtain ⟨na, ncap, ng, hnv, _, _, hn1, hn2, _, _⟩ := own_open hns
  subst hnv
  have hsgS := (World.ownsRow.lt hown sg rfl).1
  have hngS : 0 < ws.length → S ≤ ng := fun h0 => (World.ownsRow.lt hns ng (by rw [hn1 h0]; rfl)).1
  have cs0 := own_nodes hown 0 (by simp)
  simp only [List.getD_cons_zero] at cs0
  have HSZ := Lib.hid (size_any s _ _ _ w c0)
  have HD := Lib.hid h
  have HF := Lib.hid hF
  have HS := Lib.hid (And.intro hS (And.intro hs.base (And.intro hsgS hngS)))
  have HN := Lib.hid (And.intro hn1 hn2)
  have HW := Lib.hid (And.intro hws (And.intro hnd hanc))
  have HL := Lib.hid hl
  have HPX := Lib.hid (And.intro hpx hB0)
  clear h hF hs hown hns hn1 hn2 hws hnd hanc hl hsgS hngS hS hpx hB0
  go_enter Tryz.func100, Tryz.ntmps100
  go_wp2_with fail
  refine HSZ.out.mono ?_
  rintro e w1 ⟨rfl, rfl⟩
  clear HSZ
  go_wp2
  go_loopw [49] (fun iv wr => ∃ i : Nat, iv = .int .i64 (i : Int) ∧ Hid (OnlyN n nb w wr) ∧ ((i = 0 ∧ Hid (DomAt B wr n nb v lab F)) ∨ (i = 1 ∧ Hid (DomAt B wr n nb v lab (mv F p A0 B0 ws)) ∧ Hid (WOk n (mv F p A0 B0 ws))))) (fun iv _ => 1 - (intOf iv).toNat)
  case atStart => exact ⟨0, by go_num, Lib.hid (OnlyN.refl _ _ _), .inl ⟨rfl, HD⟩⟩
  case round =>
    obtain ⟨i, rfl, HO, hcase⟩ := hrel
    have keep : ∀ (w' : World), OnlyN n nb w w' → ∀ (q o : Nat) (z : Value), S ≤ q → w.cell? ⟨q, o, none⟩ = some z → w'.cell? ⟨q, o, none⟩ = some z := fun w' ho q o z hq hz =>
      (World.cell?_of_block (ho.block q (fun i hi e => by have := HS.out.1 i hi; omega))).trans hz
    have HKEEP := Lib.hid keep
    clear keep
    rcases hcase with ⟨rfl, HDr⟩ | ⟨rfl, HDr, HWr⟩
    · have cx := HKEEP.out wr HO.out sg 0 _ HS.out.2.2.1 cs0
      go_wp2
      go_loopw [56] (fun jv wq => ∃ k : Nat, k ≤ ws.length ∧ jv = .int .i64 (k : Int) ∧ Hid (OnlyN n nb w wq) ∧ Hid (DomAt B wq n nb v lab (mv F p A0 B0 (ws.take k))) ∧ Hid (WOk n (mv F p A0 B0 (ws.take k)))) (fun jv _ => ws.length - (intOf jv).toNat)
      case atStart => exact ⟨0, by omega, by go_num, HO, Lib.hid (by rw [List.take_zero, mv_nil HL.out]; exact HDr.out), Lib.hid (by rw [List.take_zero, mv_nil HL.out]; exact HF.out)⟩
      case round =>
        obtain ⟨k, hk, rfl, HOk, HDk, HWk⟩ := hrel
        by_cases hlt : k < ws.length
        · obtain rfl := HN.out.1 (by omega)
          have ck := HKEEP.out wr HOk.out ng k _ (HS.out.2.2.2 (by omega)) (HN.out.2 k hlt)
          have hyw : ws.getD k 0 ∈ ws := getD_mem' (d := 0) hlt
          have hyn := HW.out.1 _ hyw
          have htk := take_snoc hlt
          have hyT : ws.getD k 0 ∉ ws.take k := fun hm => by
            have h4 := HW.out.2.1
            rw [← List.take_append_drop k ws, List.nodup_append] at h4
            refine h4.2.2 _ hm _ ?_ rfl
            rw [List.drop_eq_getElem_cons hlt, List.getD_eq_getElem?_getD, List.getElem?_eq_getElem hlt]
            exact List.mem_cons_self ..
          obtain ⟨y, hy⟩ : ∃ y, ws.getD k 0 = y := ⟨_, rfl⟩
          rw [hy] at ck hyw hyn htk hyT
          have hkI : (k : Int) < (ws.length : Int) := by omega
          obtain ⟨m1, m2, m3, m4, m5, m6⟩ := mv_step HF.out hp HL.out (T := ws.take k) (W := ws) (fun q hq => List.mem_of_mem_take hq) HW.out.2.2 hyw hyT hyn HWk.out
          rw [← htk] at m6
          have hfun : ∀ wq, DomAt B wq n nb v lab ((mv F p A0 B0 (ws.take k)).cut y) → Calls Tryz.prog 111 #[.pointer (some ⟨nb x, 0, none⟩), .pointer (some ⟨nb y, 0, none⟩)] wq (TurnPost B n nb v lab (mv F p A0 B0 (ws.take (k + 1))) wq) := fun wq hd => by
            have h9 := fun_append (x := x) hd m1 HPX.out.1 hp hyn m3 m2 m4 (by rw [HPX.out.2]; rfl)
            rwa [m5, ← htk] at h9
          have c0y := (HDk.out.node y hyn).par
          have HFUN := Lib.hid hfun
          have HM6 := Lib.hid m6
          cases hu : (mv F p A0 B0 (ws.take k)).up y with
          | none =>
            have e0 : (linkR (mv F p A0 B0 (ws.take k)) nb (lab y) (v y) y).par = none := by simp [linkR, hu]
            rw [e0, lk_none] at c0y
            have HC := Lib.hid (hfun wr (by rw [HWk.out.cut_none hu]; exact HDk.out))
            clear hfun e0 hu m1 m2 m3 m4 m5 m6 hy htk hyT 
            go_wp2_with fail
            refine HC.out.mono ?_
            rintro e w3 ⟨rfl, hd3, ho3⟩
            have HO3 := Lib.hid (HOk.out.trans ho3.out)
            clear ho3 HC ck c0y
            go_wp2
            refine ⟨?rel, ?measure⟩
            case rel => exact ⟨_, _, _, _, _, _, _, _, _, _, _, _, _, _, _, _, _, _, _, _, _, _, _, _, _, _, _, _, _, ⟨k + 1, by omega, by go_num, HO3, hd3, HM6⟩, rfl⟩
            case measure => simp [intOf]; omega
          | some q =>
            have e0 : (linkR (mv F p A0 B0 (ws.take k)) nb (lab y) (v y) y).par = some (nb q) := by simp [linkR, hu]
            rw [e0, lk_some] at c0y
            have HRC := Lib.hid (removeChild_any HDk.out HWk.out hu)
            clear hfun e0 hu m1 m2 m3 m4 m5 m6 hy htk hyT 
            go_wp2_with fail
            refine HRC.out.mono ?_
            rintro e w2 ⟨rfl, hd2, ho2⟩
            have HC := Lib.hid (HFUN.out w2 hd2.out)
            have HO2 := Lib.hid (HOk.out.trans ho2.out)
            clear ho2 HRC ck c0y
            go_wp2_with fail
            refine HC.out.mono ?_
            rintro e w3 ⟨rfl, hd3, ho3⟩
            have HO3 := Lib.hid (HO2.out.trans ho3.out)
            clear ho3 HC
            go_wp2
            refine ⟨?rel, ?measure⟩
            case rel => exact ⟨_, _, _, _, _, _, _, _, _, _, _, _, _, _, _, _, _, _, _, _, _, _, _, _, _, _, _, _, _, ⟨k + 1, by omega, by go_num, HO3, hd3, HM6⟩, rfl⟩
            case measure => simp [intOf]; omega
        · obtain rfl : k = ws.length := by omega
          have hd := HDk.out
          have hw := HWk.out
          rw [List.take_length] at hd hw
          have HD9 := Lib.hid hd
          have HW9 := Lib.hid hw
          clear hd hw
          go_wp2
          refine ⟨?rel, ?measure⟩
          case rel => exact ⟨1, by go_num, HOk, .inr ⟨rfl, HD9, HW9⟩⟩
          case measure => simp [intOf]
    · go_wp2
      go_ret
      exact ⟨rfl, HDr, HWr, HO⟩

set_option maxRecDepth 100000 in
set_option maxHeartbeats 1000000 in
theorem nodes_append {X : Ending → World → Prop} (s : Nat) (nv : Value) (w : World) (h : Calls Tryz.prog 100 #[.pointer (some ⟨s, 0, none⟩), nv, .bool false, .func (.func 111) #[] #[]] w (fun e w' => e = .returned (.pointer (some ⟨s, 0, none⟩)) ∧ X e w')) :
    Calls Tryz.prog 110 #[.pointer (some ⟨s, 0, none⟩), nv] w (fun e w' => e = .returned (.pointer (some ⟨s, 0, none⟩)) ∧ X e w') := by
  have H := Lib.hid h
  clear h
  go_enter Tryz.func110, Tryz.ntmps110
  go_wp2_with fail
  refine H.out.mono ?_
  rintro e w1 ⟨rfl, hx⟩
  go_wp2
  go_ret
  exact ⟨rfl, hx⟩

end Go.Proofs.YtoleejaabiafcaaGreat

