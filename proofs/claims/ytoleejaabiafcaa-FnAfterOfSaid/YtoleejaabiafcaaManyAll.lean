/- What the reference says of nodes that are put at several others. A document behind a change that made nodes: impl's ends. impl: AfterOf, at several nodes. -/
import Derived.Test.YtoleejaabiafcaaInsSays
import Derived.Test.YtoleejaabiafcaaCopyAll
import Derived.Test.YtoleejaabiafcaaTakenAll
import Derived.Test.YtoleejaabiafcaaCloneAll
import Derived.Test.YtoleejaabiafcaaRemoveOf
namespace Go.Proofs.Ytoleejaabiafcaa
open Go.RowKit
set_option linter.unusedVariables false
set_option linter.unusedSimpArgs false

theorem split_uniq {x : Nat} : ∀ {a b a' b' : List Nat}, a ++ x :: b = a' ++ x :: b' → x ∉ a → x ∉ a' → a = a' ∧ b = b'
  | [], b, [], b', h, _, _ => by simp at h; exact ⟨rfl, h⟩
  | [], b, c :: r, b', h, _, h2 => by simp at h; exact absurd (by simp [h.1]) h2
  | c :: r, b, [], b', h, h1, _ => by simp at h; exact absurd (by simp [h.1]) h1
  | c :: r, b, c' :: r', b', h, h1, h2 => by
    simp only [List.cons_append, List.cons.injEq] at h
    have := split_uniq h.2 (fun hm => h1 (List.mem_cons_of_mem _ hm)) (fun hm => h2 (List.mem_cons_of_mem _ hm))
    exact ⟨by rw [h.1, this.1], this.2⟩

theorem Target.det {op : Int} {lab lab' : Nat → NodeD} {m : Nat} {G : Wd} (hG : WOk m G) {x p p' : Nat} {A B A' B' : List Nat} (h : Target op lab G x p A B) (h' : Target op lab' G x p' A' B') : p = p' ∧ A = A' ∧ B = B' := by
  rcases h.2 with ⟨h1, h2, h3, _⟩ | ⟨h1, h2, a, h3⟩ | ⟨h1, h2, b, h3⟩
  · rcases h'.2 with ⟨g1, g2, g3, _⟩ | ⟨g1, _⟩ | ⟨g1, _⟩
    · have e : p = p' := h2.trans g2.symm
      subst e
      have e1 := h.1
      rw [h'.1, h3, g3, List.append_nil, List.append_nil] at e1
      exact ⟨rfl, e1.symm, h3.trans g3.symm⟩
    · omega
    · omega
  · rcases h'.2 with ⟨g1, _⟩ | ⟨g1, g2, a', g3⟩ | ⟨g1, _⟩
    · omega
    · rw [h2] at g2
      cases g2
      have e1 := h.1
      have hnd := hG.nd p
      rw [e1, h3, List.append_assoc] at hnd
      have hnd' := hG.nd p
      rw [h'.1, g3, List.append_assoc] at hnd'
      rw [h'.1, h3, g3, List.append_assoc, List.append_assoc] at e1
      have := split_uniq e1.symm (nd_parts hnd).1 (nd_parts hnd').1
      exact ⟨rfl, by rw [h3, g3, this.1], this.2⟩
    · omega
  · rcases h'.2 with ⟨g1, _⟩ | ⟨g1, _⟩ | ⟨g1, g2, b', g3⟩
    · omega
    · omega
    · rw [h2] at g2
      cases g2
      have e1 := h.1
      have hnd := hG.nd p
      rw [e1, h3] at hnd
      have hnd' := hG.nd p
      rw [h'.1, g3] at hnd'
      rw [h'.1, h3, g3] at e1
      have := split_uniq e1.symm (nd_parts hnd).1 (nd_parts hnd').1
      exact ⟨rfl, this.1, by rw [h3, g3, this.2]⟩

/-- What stands apart, plainly. -/
structure SideW (n : Nat) (F : Wd) (xs ws L : List Nat) : Prop where
  ok : WOk n F
  flat : Fl F.kids ws L
  lone : Lone F ws
  win : ∀ v ∈ ws, v < n
  xin : ∀ x ∈ xs, x < n ∧ ∀ v ∈ ws, ¬ Anc F v x

theorem SideW.of {n : Nat} {F : Wd} {xs ws L : List Nat} (hF : WOk n F) (ha : ApartW F ws xs) (hL : Fl F.kids ws L) (hnd : ws.Nodup) (hw : ∀ v ∈ ws, v < n) (hx : ∀ x ∈ xs, x < n) : SideW n F xs ws L :=
  ⟨hF, hL, apart_lone ha hnd, hw, fun x hxx => ⟨hx x hxx, fun v hv => by
    obtain ⟨i, hi, rfl⟩ := List.getElem_of_mem hv
    obtain ⟨j, hj, rfl⟩ := List.getElem_of_mem hxx
    have := ha.on i j hi hj
    simpa [List.getD, hi, hj] using this⟩⟩

theorem Many.ok {op : Int} {n : Nat} {F : Wd} {ws L : List Nat} {n2 : Nat} {lab2 : Nat → NodeD} {G2 : Wd} {xs : List Nat} {m : Nat} {lab : Nat → NodeD} {G : Wd} (h : Many op ws L n2 lab2 G2 xs m lab G) : SideW n F xs ws L → MidW n F L m G →
    WOk n2 G2 ∧ m ≤ n2 ∧ (∀ i, i < m → lab2 i = lab i) ∧ ∀ P : NodeD → Prop, (∀ i, i < m → P (lab i)) → ∀ i, i < n2 → P (lab2 i) := by
  induction h with
  | @last x p m lab G A B ht hm hl hG =>
    intro hs hmid
    subst hm hG
    obtain ⟨hx, hxa⟩ := hs.xin x (by simp)
    obtain ⟨h1, h2, h3⟩ := ht.parent hs.ok hmid.up hx hs.flat hxa
    have hle := hmid.le
    refine ⟨mv_all hmid.ok (by omega) ht.1 (fun v hv ha => h3 v hv ((anc_same hs.ok hmid.up h1).1 ha)) hs.lone.1 (fun v hv => Nat.lt_of_lt_of_le (hs.win v hv) hle), Nat.le_refl _, hl, fun P hP i hi => by rw [hl i hi]; exact hP i hi⟩
  | @more x y p m xs lab lab' G A B ht g1 g2 g3 ih =>
    intro hs hmid
    obtain ⟨hx, hxa⟩ := hs.xin x (by simp)
    obtain ⟨h1, h2, h3⟩ := ht.parent hs.ok hmid.up hx hs.flat hxa
    have hc := cpOk_of hs.ok hs.flat hs.lone hs.win
    have hle := hmid.le
    obtain ⟨i1, i2, i3, i4⟩ := ih ⟨hs.ok, hs.flat, hs.lone, hs.win, fun z hz => hs.xin z (List.mem_cons_of_mem _ hz)⟩ (hmid.step hs.ok hc hs.lone.1 h1 h2 ht.1)
    refine ⟨i1, by omega, fun i hi => by rw [i3 i (by omega)]; exact g1 i hi, fun P hP => i4 P (fun i hi => ?_)⟩
    by_cases e : i < m
    · rw [g1 i e]; exact hP i e
    · have := g2 (i - m) (by omega)
      rw [show m + (i - m) = i by omega] at this
      rw [this]
      exact hP _ (Nat.lt_of_lt_of_le (hc.lt _ (getD_mem' (by omega))) hle)

theorem Many.det {op : Int} {n : Nat} {F : Wd} {ws L : List Nat} {n2 : Nat} {lab2 : Nat → NodeD} {G2 : Wd} {xs : List Nat} {m : Nat} {lab : Nat → NodeD} {G : Wd} (h : Many op ws L n2 lab2 G2 xs m lab G) : SideW n F xs ws L → MidW n F L m G →
    ∀ {n3 : Nat} {lab3 : Nat → NodeD} {G3 : Wd} {lab' : Nat → NodeD}, (∀ i, i < m → lab' i = lab i) → Many op ws L n3 lab3 G3 xs m lab' G → n2 = n3 ∧ G2 = G3 ∧ ∀ i, i < n2 → lab2 i = lab3 i := by
  induction h with
  | @last x p m lab G A B ht hm hl hG =>
    intro hs hmid n3 lab3 G3 lab' hlab h'
    cases h' with
    | last ht' hm' hl' hG' =>
      obtain ⟨e1, e2, e3⟩ := ht.det hmid.ok ht'
      subst e1 e2 e3
      refine ⟨hm.trans hm'.symm, hG.trans hG'.symm, fun i hi => ?_⟩
      rw [hm] at hi
      rw [hl i hi, hl' i hi, hlab i hi]
  | @more x y p m xs lab lab1 G A B ht g1 g2 g3 ih =>
    intro hs hmid n3 lab3 G3 lab' hlab h'
    cases h' with
    | @more _ _ _ _ _ _ lab4 _ _ _ ht' f1 f2 f3 =>
      obtain ⟨e1, e2, e3⟩ := ht.det hmid.ok ht'
      subst e1 e2 e3
      obtain ⟨hx, hxa⟩ := hs.xin x (by simp)
      obtain ⟨h1, h2, h3⟩ := ht.parent hs.ok hmid.up hx hs.flat hxa
      have hc := cpOk_of hs.ok hs.flat hs.lone hs.win
      have hle := hmid.le
      refine ih ⟨hs.ok, hs.flat, hs.lone, hs.win, fun z hz => hs.xin z (List.mem_cons_of_mem _ hz)⟩ (hmid.step hs.ok hc hs.lone.1 h1 h2 ht.1) (fun i hi => ?_) f3
      by_cases e : i < m
      · rw [g1 i e, f1 i e]; exact hlab i e
      · have a1 := g2 (i - m) (by omega)
        have a2 := f2 (i - m) (by omega)
        rw [show m + (i - m) = i by omega] at a1 a2
        rw [a1, a2]
        exact hlab _ (Nat.lt_of_lt_of_le (hc.lt _ (getD_mem' (by omega))) hle)

theorem atSet_get2 {len n : Nat} {pl : Nat → Int} (hp : ∀ i, i < len → pl i = (i : Int)) (hq : ∀ i, len ≤ i → i < n → pl i = -1) : ∀ (C : List (Nat × Nat)) (vs : List Int) (N : Nat), (C.map (·.1)).Nodup → vs.length = len → (∀ y ∈ C, y.1 < n) → ∀ i, i < len → (atSet pl vs N C).getD i 0 = if i ∈ C.map (·.1) then posFrom (C.map (·.1)) N i else vs.getD i 0
  | [], vs, N, _, _, _, i, hi => by simp [atSet]
  | y :: C, vs, N, hd, hl, hn, i, hi => by
    rw [List.map_cons, List.nodup_cons] at hd
    have hy := hn y (List.mem_cons_self ..)
    by_cases hyl : y.1 < len
    · have e0 : (if 0 ≤ pl y.1 ∧ pl y.1 < (vs.length : Int) then vs.set (pl y.1).toNat (N : Int) else vs) = vs.set y.1 (N : Int) := by
        rw [hp y.1 hyl, if_pos ⟨by omega, by omega⟩]
        rfl
      simp only [atSet, e0]
      rw [atSet_get2 hp hq C _ (N + 1) hd.2 (by rw [List.length_set]; exact hl) (fun z hz => hn z (List.mem_cons_of_mem _ hz)) i hi]
      simp only [List.map_cons, List.mem_cons, posFrom]
      by_cases e : y.1 = i
      · subst e
        rw [if_neg hd.1, if_pos (.inl rfl), if_pos rfl]
        rw [List.getD_eq_getElem?_getD, List.getElem?_set_self (by omega)]
        rfl
      · by_cases h2 : i ∈ C.map (·.1)
        · rw [if_pos h2, if_pos (.inr h2), if_neg e]
        · rw [if_neg h2, if_neg (by rintro (h | h); exact e h.symm; exact h2 h)]
          rw [List.getD_eq_getElem?_getD, List.getElem?_set_ne e, ← List.getD_eq_getElem?_getD]
    · have e0 : (if 0 ≤ pl y.1 ∧ pl y.1 < (vs.length : Int) then vs.set (pl y.1).toNat (N : Int) else vs) = vs := by
        rw [hq y.1 (by omega) hy, if_neg (by omega)]
      simp only [atSet, e0]
      rw [atSet_get2 hp hq C _ (N + 1) hd.2 hl (fun z hz => hn z (List.mem_cons_of_mem _ hz)) i hi]
      have e : y.1 ≠ i := by omega
      simp only [List.map_cons, List.mem_cons, posFrom, if_neg e]
      by_cases h2 : i ∈ C.map (·.1)
      · rw [if_pos h2, if_pos (.inr h2)]
      · rw [if_neg h2, if_neg (by rintro (h | h); exact e h.symm; exact h2 h)]

theorem atSet_many {len n : Nat} {pl : Nat → Int} (hp : ∀ i, i < len → pl i = (i : Int)) (hq : ∀ i, len ≤ i → i < n → pl i = -1) {C : List (Nat × Nat)} (hd : (C.map (·.1)).Nodup) (hn : ∀ y ∈ C, y.1 < n) : atSet pl (List.replicate len (-1)) 0 C = placesW len C := by
  apply List.ext_getElem
  · rw [atSet_length]
    simp [placesW]
  · intro i h1 h2
    have hi : i < len := by rw [atSet_length] at h1; simpa using h1
    have h3 := atSet_get2 hp hq C (List.replicate len (-1)) 0 hd (by simp) hn i hi
    rw [List.getD_eq_getElem?_getD, List.getElem?_eq_getElem h1] at h3
    simp only [Option.getD_some] at h3
    rw [h3]
    simp only [placesW, List.getElem_map, List.getElem_range]
    by_cases h : i ∈ C.map (·.1)
    · rw [if_pos h]
    · rw [if_neg h, posFrom_not _ _ h]
      simp [List.getD_eq_getElem?_getD, hi]

/-- Nodes of a right tree that are put at several. -/
def ManyPhi (op : Int) (len : Nat) (ts : List NodeD) (zs1 zs2 : List Int) : Nat → (Nat → Int) → (Nat → NodeD) → Wd → Prop := InsManyK op len (fun i => (i : Int)) (fun i => ts.getD i default) (wd0 (sz ts) len) zs1 zs2

theorem manyPhi_ok (op : Int) (len : Nat) (ts : List NodeD) (zs1 zs2 : List Int) : PhiOk len ts (ManyPhi op len ts zs1 zs2) := by
  rintro n pl lab F hR ⟨h6, hold, hnew, xs, ws, L, hp1, hp2, hx0, hw0, hap, hL, hM⟩
  have hF := wd0_ok hR.nest
  have hs := SideW.of hF hap hL hp2.nd hp2.lt hp1.lt
  obtain ⟨h1, h2, _, _⟩ := hM.ok hs (MidW.refl hF L)
  refine ⟨h1, by omega, by have := hR.pos; omega, fun i hi => ?_⟩
  by_cases e : i < len
  · rw [(hold i e).1]; simp only; omega
  · rw [hnew i (by omega) hi]; have := hR.pos; omega

theorem manySays_3 {W : World} {len : Nat} {ts : List NodeD} {a1 : Option Addr} {n1 c1 : Nat} {a2 : Option Addr} {n2 c2 : Nat} {zs1 zs2 : List Int} (h : Ints W a1 n1 zs1) (h2 : Ints W a2 n2 zs2) {a : Option Addr} (hN : Nodes W a len ts) : StepSays len ts 3 a1 n1 c1 a2 n2 c2 (ManyPhi 3 len ts zs1 zs2) W := by
  intro W' hb w f vf kn kv av hR hK hF hb2
  exact stepMany_after w f len vf kn kv av _ _ _ _ hK (wd0_ok hR.nest) hF hR.pos hR.le rfl (fun y hy => ⟨(fit_of hR hN y hy).few, (fit_of hR hN y hy).wa⟩) a1 n1 c1 zs1 (h.below (hb.trans (hb2.mono hb.size))) a2 n2 c2 zs2 (h2.below (hb.trans (hb2.mono hb.size)))

end Go.Proofs.Ytoleejaabiafcaa

namespace Go.Proofs.Ytoleejaabiafcaa
open Go.RowKit
set_option linter.unusedVariables false
set_option linter.unusedSimpArgs false

set_option maxRecDepth 100000 in
set_option maxHeartbeats 1000000 in
theorem ends_many {B : Nat} {W : World} {n m : Nat} (hnm : n ≤ m) {nb : Nat → Nat} {v : Nat → Value} {lab : Nat → NodeD} {F : Wd} (hD : DomAt B W m nb v lab F) (hF : WOk m F) (hok : ∀ i, i < m → ∃ z a, NodeOk (lab i) z a) (h0 : 0 < n) (hn : n ≤ 200) (g bl : Nat) (hg : W.cell? ⟨g, 0, none⟩ = some (.slice (some ⟨bl, 0, none⟩) n n)) (hrow : ∀ i, i < n → W.cell? ⟨bl, i, none⟩ = some (.pointer (some ⟨nb i, 0, none⟩)))
    (C : List (Nat × Nat)) (hC : Fs F.kids [0] C) (hnd : (C.map (·.1)).Nodup) (hlt : ∀ y ∈ C, y.1 < m) (hCl : C.length ≤ 1000) :
    Calls Try.prog 51 #[.pointer (some ⟨g, 0, none⟩)] W (EndsPost lab n C W) := by
  have htk := taken_any hD hF hok C.length 0 C (.slice none 0 0) (.slice none 0 0) 0 [] [] W (by omega) hC (Nat.le_refl _) (by omega) (World.ownsRow_nil _ _ _ _) (World.ownsRow_nil _ _ _ _) (Below.refl _ _)
  have r0 := hrow 0 h0
  have HTK := Lib.hid htk
  have HD := Lib.hid hD
  have HR := Lib.hid hrow
  have HND := Lib.hid (And.intro hnd hlt)
  clear htk hD hF hok hrow hC hnd hlt
  go_enter Try.func51, Try.ntmps51
  go_wp2_with fail
  refine HTK.out.mono ?_
  rintro e w1 ⟨tv, lv, D, rfl, hDC, ht, hl, hk, hb, _⟩
  have hg1 := cell_below hb.out hg
  have hl1 : PtrsOf w1 lv ((C.map (·.1)).map nb) := by
    have h1 := hl.out
    have h2 : D.length = (C.map (·.1)).length := by rw [← hDC, List.length_map, szs_len]
    rw [Nat.zero_add, List.nil_append, h2] at h1
    refine OwnPtrs.ptrs (B := W.heap.size) ?_
    unfold OwnPtrs
    rw [List.length_map, List.map_map]
    exact h1
  have hpl := placesAt_any lv ((C.map (·.1)).map nb) (.slice (some ⟨bl, 0, none⟩) n n) ((List.range n).map nb) w1 hl1 (fun i hi => by
      have hi' : i < (C.map (·.1)).length := by simpa using hi
      have e1 : ((C.map (·.1)).map nb).getD i 0 = nb ((C.map (·.1)).getD i 0) := by simp only [List.getD_eq_getElem?_getD, List.getElem?_map, List.getElem?_eq_getElem hi', Option.map_some, Option.getD_some]
      rw [e1]
      obtain ⟨y, hy, hye⟩ := List.mem_map.1 (getD_mem' (d := 0) hi')
      rw [← hye]
      exact (HD.out.node _ (HND.out.2 y hy)).alive.below hb.out) (row_ptrs hn (fun i hi => cell_below hb.out (HR.out i hi))) (fun i hi => by
      have hi' : i < n := by simpa using hi
      have e1 : ((List.range n).map nb).getD i 0 = nb i := by simp [List.getD, hi']
      rw [e1]
      exact (HD.out.node i (by omega)).alive.below hb.out) (by simpa using hn)
  have HPL := Lib.hid hpl
  have HOUT := Lib.hid (show OutAt w1 W.heap.size tv lab C from ⟨D, hDC, by have := ht.out; rwa [Nat.zero_add, List.nil_append] at this, hk.out⟩)
  have heq : ((List.range n).map nb).map (fun p => findI ((C.map (·.1)).map nb) p) = placesW n C := by
    unfold placesW
    rw [List.map_map]
    refine List.map_congr_left (fun i hi => ?_)
    exact find_pos HD.out.inj HND.out.1 (fun y hy => by
      obtain ⟨q, hq, rfl⟩ := List.mem_map.1 hy
      exact HND.out.2 q hq) (by have := List.mem_range.1 hi; omega)
  have HEQ := Lib.hid heq
  clear hl1 hpl heq ht hl hk hDC HTK hg r0
  go_wp2_with fail
  refine HPL.out.mono ?_
  rintro e w2 ⟨pv, rfl, hz, hb2⟩
  have hb02 := Lib.hid (hb.out.trans (hb2.out.mono hb.out.size))
  have ho2 := Lib.hid (HOUT.out.below hb2.out)
  have hz2 : Hid (OwnZ w2 W.heap.size pv (placesW n C)) := Lib.hid (by rw [← HEQ.out]; exact ownsRow_base hz.out hb.out.size)
  clear HPL
  go_wp2
  go_ret2
  exact ⟨_, _, rfl, ho2, hz2, hb02⟩

/-- What a document that is changed keeps while its nodes are turned, and nodes made. -/
theorem BegunAt.keptG {W w w' : World} {g bl len : Nat} {nb : Nat → Nat} {vv : Nat → Value} {ts : List NodeD} {s : Nat} (h : BegunAt W w g bl len nb vv ts s) (ho : OnlyG len nb w w') :
    w'.cell? ⟨g, 0, none⟩ = some (.slice (some ⟨bl, 0, none⟩) len len) ∧ (∀ i, i < len → w'.cell? ⟨bl, i, none⟩ = some (.pointer (some ⟨nb i, 0, none⟩))) ∧ Below W.heap.size W w' := by
  have hnode : ∀ i, i < len → World.nodeAt w (nb i) _ := fun i hi => h.forest.node hi
  have hg : w'.heap[g]? = w.heap[g]? := ho.block g h.obj.lt (fun i hi e => by
    have h1 := h.obj
    have h2 := hnode i hi
    unfold World.objAt at h1
    unfold World.nodeAt at h2
    rw [e, h2] at h1
    simp only [NRec.obj, Option.some.injEq, Obj.cells.injEq] at h1
    exact absurd h1.2.1 (by decide))
  obtain ⟨arr, r1, r2, r3⟩ := h.forest.row
  have hbl : w'.heap[bl]? = w.heap[bl]? := ho.block bl (by
    rcases Nat.lt_or_ge bl w.heap.size with h9 | h9
    · exact h9
    · rw [Array.getElem?_eq_none h9] at r1; cases r1) (fun i hi e => by
    have h2 := hnode i hi
    unfold World.nodeAt at h2
    rw [e, h2] at r1
    simp only [NRec.obj, Option.some.injEq, Obj.cells.injEq] at r1
    exact absurd r1.2.1 (by decide))
  refine ⟨?_, fun i hi => ?_, h.bel.trans (ho.below _ h.bel.size (fun i hi => h.forest.seg.base i (Nat.zero_le _) hi))⟩
  · exact (World.cell?_of_block hg).trans (h.obj.cell (i := 0) rfl)
  · exact (World.cell?_of_block hbl).trans (h.forest.cell hi)

end Go.Proofs.Ytoleejaabiafcaa

namespace Go.Proofs.Ytoleejaabiafcaa
open Go.RowKit
set_option linter.unusedVariables false
set_option linter.unusedSimpArgs false

set_option maxRecDepth 100000 in
set_option maxHeartbeats 1000000 in
theorem afterMany_any (W : World) (a : Option Addr) (len cap : Nat) (ts : List NodeD) (hR : RightT ts len) (hN : Nodes W a len ts) (v : Value) (xs : List Nat) (h : ReadsAs W v (xs.map intV)) (hx : ∀ x ∈ xs, x < len) (hx0 : 0 < xs.length) (hxd : xs.Nodup) (hxl : xs.length ≤ 200) (v2 : Value) (ws : List Nat) (h2 : ReadsAs W v2 (ws.map intV)) (hws : ∀ y ∈ ws, y < len) (hnd : ws.Nodup) (hwl : ws.length ≤ 200) (hap : ApartW (wd0 (sz ts) len) ws xs) {L : List Nat} (hL : Fl (wd0 (sz ts) len).kids ws L) {n2 : Nat} {lab2 : Nat → NodeD} {G2 : Wd} (hM : Many 3 ws L n2 lab2 G2 xs len (fun i => ts.getD i default) (wd0 (sz ts) len)) (hn2 : n2 ≤ 600) (C : List (Nat × Nat)) (hC : Fs G2.kids [0] C) (hnC : (C.map (·.1)).Nodup) (hlC : ∀ y ∈ C, y.1 < n2) (hCl : C.length ≤ 1000) :
    Calls Try.prog 23 #[.slice a len cap, v, v2] W (DoneOfPost lab2 len C W) := by
  have hlen := hR.le
  have hpos := hR.pos
  have hsel := selected_any W a len cap ts hR hN v xs h hx (once_nodup hxd) hxl
  have hfit : ∀ y, y < len → (ts.getD y default).attrs.length ≤ 100 := fun y hy => (fit_of hR hN y hy).few
  have HSEL := Lib.hid hsel
  have HR := Lib.hid hR
  have HW := Lib.hid (And.intro hws (And.intro hnd (And.intro hap (And.intro hL (And.intro hM (And.intro hx hfit))))))
  have HC := Lib.hid (And.intro hC (And.intro hnC (And.intro hlC (And.intro hCl hn2))))
  have HV2 := Lib.hid h2
  clear hsel hR hN h hC h2 hws hnd hap hL hM hx hnC hlC hCl hn2 hxd hfit
  go_enter Try.func23, Try.ntmps23
  go_wp2_with fail
  refine HSEL.out.mono ?_
  rintro e w1 ⟨g, bl, nb, vv, s0, s, v1, S, rfl, hB, hs, hS, hWS⟩
  have o0 := hB.out.obj.cell (i := 0) (v := .slice (some ⟨bl, 0, none⟩) len len) rfl
  have hth := these_any bl len len nb v2 ws w1 (fun i hi => hB.out.forest.cell hi) hlen (HV2.out.below hB.out.bel) HW.out.1 hwl
  have HTH := Lib.hid hth
  have HS := Lib.hid hS
  clear hth HSEL hS
  go_wp2_with fail
  refine HTH.out.mono ?_
  rintro e w2 ⟨some_, rfl, ho, hb2⟩
  have hns : w2.ownsRow w1.heap.size 84 1 some_ ws.length (ws.map fun y => ptrV (nb y)) := by
    have h1 := ho.out
    unfold OwnPtrs at h1
    rw [List.length_map, List.map_map] at h1
    exact h1
  have hD := hB.out.forest.dom HR.out
  have hF := wd0_ok HR.out.nest
  have hmn := manipMany_after hD hF s v1 (xs := xs) (ws := ws) S hs.out HS.out HW.out.2.2.2.2.2.1 hx0 hxl some_ hb2.out hns HW.out.1 HW.out.2.1 hwl HW.out.2.2.1 HW.out.2.2.2.1 HW.out.2.2.2.2.1 HW.out.2.2.2.2.2.2 hB.out.bel.size
  have hnd2 := nodes_after (X := fun e w' => ∃ nb2 v2, Hid (DomAt W.heap.size w' n2 nb2 v2 lab2 G2) ∧ Hid (WOk n2 G2) ∧ Hid (∀ i, i < len → nb2 i = nb i) ∧ Hid (len ≤ n2) ∧ ∃ wm, Hid (Below w1.heap.size w1 wm) ∧ Hid (OnlyG len nb wm w')) s some_ w2 (hmn.mono fun e w' hh => ⟨hh.1, hh.2⟩)
  have HM := Lib.hid hnd2
  have HB1 := Lib.hid hB.out
  clear hnd2 hmn hD hF hns ho hb2 HTH hB hs o0
  go_wp2_with fail
  refine HM.out.mono ?_
  rintro e w3 ⟨rfl, nb2, v5, hd3, hw3, hnb, hle, wm, hbm, ho3⟩
  have hBm := BegunAt.mk (HB1.out.forest.below hbm.out) (HB1.out.obj.below hbm.out HB1.out.obj.lt) (HB1.out.bel.trans (hbm.out.mono HB1.out.bel.size)) HB1.out.base
  obtain ⟨hg, hrow, hb3⟩ := hBm.keptG ho3.out
  clear hBm hbm
  have hrow2 : ∀ i, i < len → w3.cell? ⟨bl, i, none⟩ = some (.pointer (some ⟨nb2 i, 0, none⟩)) := fun i hi => by rw [hnb.out i hi]; exact hrow i hi
  have hs0 := SideW.of (wd0_ok HR.out.nest) HW.out.2.2.1 HW.out.2.2.2.1 HW.out.2.1 HW.out.1 HW.out.2.2.2.2.2.1
  have hok := (HW.out.2.2.2.2.1.ok hs0 (MidW.refl (wd0_ok HR.out.nest) L)).2.2.2 (fun m => ∃ z a, NodeOk m z a) (fun i hi => ⟨_, _, HR.out.node i hi⟩)
  have hends := ends_many hle.out hd3.out hw3.out hok hpos hlen g bl hg hrow2 C HC.out.1 HC.out.2.1 HC.out.2.2.1 HC.out.2.2.2.1
  have HE := Lib.hid hends
  have HB3 := Lib.hid hb3
  clear hends hb3 hg hrow hrow2 HM hok hs0
  go_wp2_with fail
  refine HE.out.mono ?_
  rintro e w4 ⟨tv, pv, rfl, hot, hz, hb4⟩
  have hbs := HB3.out.size
  have HB4 := Lib.hid (HB3.out.trans (hb4.out.mono hbs))
  have HOT := Lib.hid (hot.out.base hbs)
  have HZ : Hid (OwnZ w4 W.heap.size pv (placesW len C)) := Lib.hid (ownsRow_base hz.out hbs)
  clear hot hz hb4 HE
  go_wp2
  go_ret3
  exact ⟨_, _, rfl, HOT, HZ, HB4⟩

end Go.Proofs.Ytoleejaabiafcaa

