/- A row of attributes made, and filled by copy; laws for a walk. html: AppendChild, among new nodes of a document. (Printed by gen_appendnew.py.) goquery: cloneNode, a copy of a node of a document with all beneath it. Copies put into a document, in any order of their making; plain steps. goquery: AfterNodes, at several nodes: copies at all but the last one. (Printed by gen_manipmany.py.) -/
import Derived.Test.YtoleejaabiafcaaDomIns
import Derived.Laws.CopyRow
import Derived.Laws.CopyOwn
import Derived.Laws.MakeOwn
import Derived.Deep.RegionLaw
import Derived.Test.YtoleejaabiafcaaCopyAll
import Derived.Test.YtoleejaabiafcaaAttrOpen
import Derived.BigRegion
import Derived.RegionTactic
import Derived.Test.YtoleejaabiafcaaAfterAll
namespace Go.Proofs.Ytoleejaabiafcaa
open Go.RowKit
set_option linter.unusedVariables false
set_option linter.unusedSimpArgs false

/-- The cells of empty attributes. -/
def blankAttrs (n : Nat) : Array Value := madeCells #[.string ByteArray.empty, .string ByteArray.empty, .string ByteArray.empty] (n * 3)

theorem Try.infoAttrT : (Try.prog.info? 123).map (fun i => (i.zero, i.size, i.bytes)) = some (some (.agg #[.string ByteArray.empty, .string ByteArray.empty, .string ByteArray.empty]), 3, 48) := by kernel_rfl

theorem attr_make (n : Nat) (hn : n ≤ 100) (w : World) : (Instr.makeSlice 111 (.int .i64 (n : Int)) (.int .i64 (n : Int))).run Try.prog w = .ok (.slice (some ⟨w.heap.size, 0, none⟩) n n) (w.alloc (.cells (blankAttrs n) 123)) := by
  obtain ⟨i0, hi, hz0, hz1, hz2⟩ := info_parts Try.infoAttrT
  have h := run_make (P := Try.prog) w 111 123 i0 _ Try.underlying111 hi hz0 .i64 .i64 (n : Int) (n : Int) (by omega) (Int.le_refl _) (by rw [hz2]; omega) (by omega)
  simp only [Int.toNat_natCast, hz1] at h
  exact h

theorem run_copy_attr {P : Program} (w : World) (dT sT ty elem : TypeId) (g dCap : Nat) (sp : Option Addr) (n sCap : Nat) (cur : Array Value) (t : TypeId) (cs : List Value)
    (hu : P.underlying dT = some (.slice elem)) (hs : (P.info? elem).map (·.size) = some 3)
    (hg : w.heap[g]? = some (.cells cur t (0, 0))) (hn : cs.length = n * 3) (hc : cur.size = n * 3)
    (hsrc : 0 < n → ∃ b, sp = some b ∧ ∀ j v, cs[j]? = some v → w.cell? (b.add j) = some v) (h1 : ∀ v ∈ cs, v.oneCell' = true) :
    (Builtin.copy_ #[dT, sT] ty #[.slice (some ⟨g, 0, none⟩) n dCap, .slice sp n sCap]).run P w = .ok (goInt n) (w.setRow g cs.toArray) := by
  cases hq : P.info? elem with
  | none => simp [hq] at hs
  | some i =>
    have hi : i.size = 3 := by simpa [hq] using hs
    have hst := run_storeCells_at P g 0 t cs 0 cur w hg (by rw [hc, hn]; omega) h1
    have e1 : (cur.toList.take (0 + 0) ++ cs ++ cur.toList.drop (0 + 0 + cs.length)) = cs := by
      rw [Nat.zero_add, List.take_zero, List.nil_append, List.drop_of_length_le (by rw [Array.length_toList, hc, hn]; omega), List.append_nil]
    rw [e1] at hst
    by_cases h0 : n = 0
    · subst h0
      obtain rfl : cs = [] := List.eq_nil_of_length_eq_zero (by omega)
      have hl : ∀ (x : Addr), (loadCells x 0).run P w = .ok #[] w := fun x => by simpa using run_loadCells_list (P := P) w x [] (by simp)
      cases sp <;> simp [Builtin.copy_, run_underlying hu, Builtin.lenOf, Builtin.firstCells, sizeOf, typeInfo, hq, hi, hst, hl]
    · obtain ⟨b, rfl, hc2⟩ := hsrc (by omega)
      have hl := run_loadCells_list (P := P) w b cs hc2
      rw [hn] at hl
      simp [Builtin.copy_, run_underlying hu, Builtin.lenOf, Builtin.firstCells, sizeOf, typeInfo, hq, hi, hl, hst]

theorem step_copy_attr {P : Program} {ops : Array Oper} {o : Oper} {a : Act} {w : World} {K : Act → World → Prop} {Q : Exit → Act → World → Prop} {E : Prop} (hgd : o.guard = none) (d s : Operand) (dT sT : TypeId)
    (ho : o.op = .call { callee := .builtin .copy, args := #[d, s], argTypes := #[dT, sT] }) (elem : TypeId) (hu : P.underlying dT = some (.slice elem)) (hsz : (P.info? elem).map (·.size) = some 3)
    (g dCap : Nat) (sp : Option Addr) (n sCap : Nat) (hd : a.eval d = .slice (some ⟨g, 0, none⟩) n dCap) (hs : a.eval s = .slice sp n sCap)
    (cur : Array Value) (t : TypeId) (hg : w.heap[g]? = some (.cells cur t (0, 0))) (cs : List Value) (hn : cs.length = n * 3) (hc : cur.size = n * 3)
    (hsrc : 0 < n → ∃ b, sp = some b ∧ ∀ j v, cs[j]? = some v → w.cell? (b.add j) = some v) (h1 : ∀ v ∈ cs, v.oneCell' = true)
    (h : ∀ w', w.setRow g cs.toArray = w' → K (a.put o.dst (goInt n)) w') :
    if Region.wanted o (yielded ops a.tmps) = true then Oper.wp P o a w K Q else E := by
  have hw : Region.wanted o (yielded ops a.tmps) = true := by simp [Region.wanted, hgd]
  rw [if_pos hw]
  have hrun := run_copy_attr (P := P) w dT sT o.type elem g dCap sp n sCap cur t cs hu hsz hg hn hc hsrc h1
  unfold Oper.wp
  simp [execOp, ho, resolve, invoke, builtin, hd, hs, hrun, Result.andThen]
  exact h _ rfl

theorem attrCells_len : ∀ (l : List (ByteArray × ByteArray)), (attrCells l).length = l.length * 3
  | [] => rfl
  | a :: r => by
    rw [show attrCells (a :: r) = [Value.string ByteArray.empty, .string a.1, .string a.2] ++ attrCells r from rfl, List.length_append, attrCells_len r]
    simp
    omega

theorem attrCells_one : ∀ (l : List (ByteArray × ByteArray)), ∀ v ∈ attrCells l, v.oneCell' = true := by
  intro l v hv
  obtain ⟨y, _, hy⟩ := List.mem_flatMap.1 hv
  simp at hy
  rcases hy with rfl | rfl | rfl <;> rfl

/-- The cells behind an own slice of attributes, as a copy reads them. -/
theorem attr_src {w : World} {B : Nat} {sp : Option Addr} {n cap : Nat} {l : List (ByteArray × ByteArray)} (h : w.ownsRow B 123 3 (.slice sp n cap) n (attrCells l)) :
    0 < n → ∃ b, sp = some b ∧ ∀ j v, (attrCells l)[j]? = some v → w.cell? (b.add j) = some v := by
  intro h0
  rcases h.2 with ⟨hv, hz⟩ | ⟨g, cap', cur, hv, hb, hg, hn, hm, hcs, ht⟩
  · omega
  · simp only [Value.slice.injEq] at hv
    obtain ⟨rfl, _⟩ := hv
    exact ⟨_, rfl, fun j v hj => h.cells (g := g) rfl j v hj⟩

end Go.Proofs.Ytoleejaabiafcaa

namespace Go.Proofs.Ytoleejaabiafcaa
open Go.RowKit
set_option linter.unusedVariables false
set_option linter.unusedSimpArgs false

def NewPost (H B n : Nat) (nb : Nat → Nat) (v : Nat → Value) (lab : Nat → NodeD) (F : Wd) (w : World) (e : Ending) (w' : World) : Prop := TurnPost B n nb v lab F w e w' ∧ Hid (Below H w w')

set_option maxRecDepth 100000 in
set_option maxHeartbeats 1000000 in
theorem apn_nn {B n : Nat} (H : Nat) {w : World} {nb : Nat → Nat} {v : Nat → Value} {lab : Nat → NodeD} {F : Wd} (h : DomAt B w n nb v lab F) (hF : WOk n F) {x p : Nat} (hp : p < n) (hx : x < n) (hxp : x ≠ p) (hu : F.up x = none) (hHp : H ≤ nb p) (hHx : H ≤ nb x) (hHk : ∀ q ∈ F.kids p, H ≤ nb q) (hl : F.kids p = [] ++ []) :
    Calls Try.prog 82 #[.pointer (some ⟨nb p, 0, none⟩), .pointer (some ⟨nb x, 0, none⟩)] w (NewPost H B n nb v lab (F.put p ([] : List Nat).length x) w) := by
  have hxk : ∀ g, x ∉ F.kids g := fun g hm => by rw [hF.iff, hu] at hm; cases hm
  have hnd : (([] : List Nat) ++ x :: ([] : List Nat)).Nodup := by
    have := nodup_put (hF.nd p) ([] : List Nat).length (x := x) (hxk p)
    rw [hl, take_len, drop_len] at this
    exact this
  obtain ⟨n1, n2, n3, n4, n5, n6⟩ := nd_parts hnd
  have e0 : (linkR F nb (lab x) (v x) x).par = none := by unfold linkR; rw [hu]; rfl
  have e3 : (linkR F nb (lab x) (v x) x).prv = none := by unfold linkR; rw [hu]; rfl
  have e4 : (linkR F nb (lab x) (v x) x).nxt = none := by unfold linkR; rw [hu]; rfl
  have e5 : (linkR F nb (lab p) (v p) p).lst = ([] : List Nat).getLast?.map nb := by
    show (F.kids p).getLast?.map nb = _
    rw [hl, List.append_nil]
  refine (appendChild_nn (nb p) (nb x) _ _ w (h.node p hp) (h.node x hx) (h.ne hp hx (Ne.symm hxp)) e0 e3 e4 e5).mono ?_
  rintro e w' ⟨he, w1, hw0, hw1⟩
  have hon : OnlyN n nb w w' := (only_put (only_put (OnlyN.refl n nb w) hp hw0) hx hw1)
  have hbl : Below H w w' := by rw [← hw1, ← hw0]; exact below_putN (below_putN (Below.refl _ _) hHp _) hHx _
  refine ⟨⟨he, Lib.hid (h.turn hon (fun i hi => ?_)), Lib.hid hon⟩, Lib.hid hbl⟩
  by_cases ep : i = p
  · rw [ep]
    rw [put_rec (a := ([] : List Nat)) (b := ([] : List Nat)) hF hu hl (Ne.symm hxp)]
    have hh := (at_other (at_same (h.node p hp) hw0) (h.ne hp hx (Ne.symm hxp)) hw1)
    first
      | simpa [List.getLast?_concat, List.head?_cons, List.getLast?_nil, List.head?_nil] using hh
      | (refine Eq.mp (congrArg _ ?_) hh; simp [List.getLast?_concat, List.head?_cons, List.getLast?_nil, List.head?_nil, linkR, hl])
  by_cases ex : i = x
  · rw [ex]
    rw [put_self (a := ([] : List Nat)) (b := ([] : List Nat)) hF hxp hu hl]
    have hh := (at_same (at_other (h.node x hx) (h.ne hp hx (Ne.symm hxp)).symm hw0) hw1)
    simpa using hh
  rw [put_rec (a := ([] : List Nat)) (b := ([] : List Nat)) hF hu hl ex]
  have hh := (at_other (at_other (h.node i hi) (h.ne hi hp ep) hw0) (h.ne hi hx ex) hw1)
  simpa [List.getLast?_concat, List.head?_cons, List.getLast?_nil, List.head?_nil, ep] using hh



set_option maxRecDepth 100000 in
set_option maxHeartbeats 1000000 in
theorem apn_sn {B n : Nat} (H : Nat) {w : World} {nb : Nat → Nat} {v : Nat → Value} {lab : Nat → NodeD} {F : Wd} (h : DomAt B w n nb v lab F) (hF : WOk n F) {x p : Nat} (hp : p < n) (hx : x < n) (hxp : x ≠ p) (hu : F.up x = none) (hHp : H ≤ nb p) (hHx : H ≤ nb x) (hHk : ∀ q ∈ F.kids p, H ≤ nb q) (a' : List Nat) (q : Nat) (hl : F.kids p = (a' ++ [q]) ++ []) :
    Calls Try.prog 82 #[.pointer (some ⟨nb p, 0, none⟩), .pointer (some ⟨nb x, 0, none⟩)] w (NewPost H B n nb v lab (F.put p (a' ++ [q]).length x) w) := by
  have hxk : ∀ g, x ∉ F.kids g := fun g hm => by rw [hF.iff, hu] at hm; cases hm
  have hnd : ((a' ++ [q]) ++ x :: ([] : List Nat)).Nodup := by
    have := nodup_put (hF.nd p) (a' ++ [q]).length (x := x) (hxk p)
    rw [hl, take_len, drop_len] at this
    exact this
  obtain ⟨n1, n2, n3, n4, n5, n6⟩ := nd_parts hnd
  have huq : F.up q = some p := (hF.iff p q).1 (by rw [hl]; simp)
  have hq := (hF.ltUp huq).1
  have hqp : q ≠ p := hF.irr huq
  have hqx : q ≠ x := fun e => n1 (by rw [← e]; simp)
  have e0 : (linkR F nb (lab x) (v x) x).par = none := by unfold linkR; rw [hu]; rfl
  have e3 : (linkR F nb (lab x) (v x) x).prv = none := by unfold linkR; rw [hu]; rfl
  have e4 : (linkR F nb (lab x) (v x) x).nxt = none := by unfold linkR; rw [hu]; rfl
  have e5 : (linkR F nb (lab p) (v p) p).lst = (a' ++ [q]).getLast?.map nb := by
    show (F.kids p).getLast?.map nb = _
    rw [hl, List.append_nil]
  rw [List.getLast?_concat] at e5
  refine (appendChild_sn (nb p) (nb x) (nb q) _ _ _ w (h.node p hp) (h.node x hx) (h.node q hq) (h.ne hp hx (Ne.symm hxp)) (h.ne hp hq (Ne.symm hqp)) (h.ne hx hq (Ne.symm hqx)) e0 e3 e4 e5).mono ?_
  rintro e w' ⟨he, w1, hw0, w2, hw1, hw2⟩
  have hon : OnlyN n nb w w' := (only_put (only_put (only_put (OnlyN.refl n nb w) hq hw0) hp hw1) hx hw2)
  have hbl : Below H w w' := by rw [← hw2, ← hw1, ← hw0]; exact below_putN (below_putN (below_putN (Below.refl _ _) (hHk q (by rw [hl]; simp)) _) hHp _) hHx _
  refine ⟨⟨he, Lib.hid (h.turn hon (fun i hi => ?_)), Lib.hid hon⟩, Lib.hid hbl⟩
  by_cases ep : i = p
  · rw [ep]
    rw [put_rec (a := (a' ++ [q])) (b := ([] : List Nat)) hF hu hl (Ne.symm hxp)]
    have hh := (at_other (at_same (at_other (h.node p hp) (h.ne hp hq (Ne.symm hqp)) hw0) hw1) (h.ne hp hx (Ne.symm hxp)) hw2)
    first
      | simpa [List.getLast?_concat, List.head?_cons, List.getLast?_nil, List.head?_nil, hqp] using hh
      | (refine Eq.mp (congrArg _ ?_) hh; simp [List.getLast?_concat, List.head?_cons, List.getLast?_nil, List.head?_nil, hqp, linkR, hl])
  by_cases ex : i = x
  · rw [ex]
    rw [put_self (a := (a' ++ [q])) (b := ([] : List Nat)) hF hxp hu hl]
    have hh := (at_same (at_other (at_other (h.node x hx) (h.ne hx hq (Ne.symm hqx)) hw0) (h.ne hp hx (Ne.symm hxp)).symm hw1) hw2)
    simpa using hh
  by_cases eq : i = q
  · rw [eq]
    rw [put_rec (a := (a' ++ [q])) (b := ([] : List Nat)) hF hu hl hqx]
    have hh := (at_other (at_other (at_same (h.node q hq) hw0) (h.ne hp hq (Ne.symm hqp)).symm hw1) (h.ne hx hq (Ne.symm hqx)).symm hw2)
    first
      | simpa [List.getLast?_concat, List.head?_cons, List.getLast?_nil, List.head?_nil, hqp] using hh
      | (refine Eq.mp (congrArg _ ?_) hh; simp [List.getLast?_concat, List.head?_cons, List.getLast?_nil, List.head?_nil, hqp, linkR, hl])
  rw [put_rec (a := (a' ++ [q])) (b := ([] : List Nat)) hF hu hl ex]
  have hh := (at_other (at_other (at_other (h.node i hi) (h.ne hi hq eq) hw0) (h.ne hi hp ep) hw1) (h.ne hi hx ex) hw2)
  simpa [List.getLast?_concat, List.head?_cons, List.getLast?_nil, List.head?_nil, ep, Ne.symm eq, eq] using hh



theorem appendNew_any {B n : Nat} (H : Nat) {w : World} {nb : Nat → Nat} {v : Nat → Value} {lab : Nat → NodeD} {F : Wd} (h : DomAt B w n nb v lab F) (hF : WOk n F) {x p : Nat} (hp : p < n) (hx : x < n) (hxp : x ≠ p) (hu : F.up x = none) (hHp : H ≤ nb p) (hHx : H ≤ nb x) (hHk : ∀ q ∈ F.kids p, H ≤ nb q) :
    Calls Try.prog 82 #[.pointer (some ⟨nb p, 0, none⟩), .pointer (some ⟨nb x, 0, none⟩)] w (NewPost H B n nb v lab (F.put p (F.kids p).length x) w) := by
  rcases nil_or_snoc (F.kids p) with h0 | ⟨a', q, h0⟩
  · have := apn_nn H h hF hp hx hxp hu hHp hHx hHk (by rw [h0]; rfl)
    rwa [h0]
  · have := apn_sn H h hF hp hx hxp hu hHp hHx hHk a' q (by rw [h0, List.append_nil])
    rwa [h0]

end Go.Proofs.Ytoleejaabiafcaa

namespace Go.Proofs.Ytoleejaabiafcaa
open Go.RowKit
set_option linter.unusedVariables false
set_option linter.unusedSimpArgs false

theorem prvIn_mem {x y : Nat} : ∀ l : List Nat, prvIn l x = some y → y ∈ l
  | a :: b :: r, h => by
    simp only [prvIn] at h
    split at h
    · simp at h; simp [h]
    · exact List.mem_cons_of_mem _ (prvIn_mem (b :: r) h)
theorem nxtIn_mem {x y : Nat} : ∀ l : List Nat, nxtIn l x = some y → y ∈ l
  | a :: b :: r, h => by
    simp only [nxtIn] at h
    split at h
    · simp at h; simp [h]
    · exact List.mem_cons_of_mem _ (nxtIn_mem (b :: r) h)

theorem map_agree {n : Nat} {f g : Nat → Nat} (h : ∀ j, j < n → f j = g j) {o : Option Nat} (ho : ∀ y, o = some y → y < n) : o.map f = o.map g := by
  cases o with
  | none => rfl
  | some y => simp [h y (ho y rfl)]

theorem linkR_congr {n : Nat} {F : Wd} (hF : WOk n F) {nb nb' : Nat → Nat} (h : ∀ j, j < n → nb j = nb' j) (m : NodeD) (v : Value) (i : Nat) : linkR F nb m v i = linkR F nb' m v i := by
  unfold linkR
  have hk : ∀ p y, y ∈ F.kids p → y < n := fun p y hy => (hF.lt p y hy).2
  rw [map_agree h (fun y hy => (hF.lt y i ((hF.iff y i).2 hy)).1), map_agree h (fun y hy => hk i y (List.mem_of_mem_head? hy)), map_agree h (fun y hy => hk i y (List.mem_of_getLast? hy)),
    map_agree h (o := (F.up i).bind fun p => prvIn (F.kids p) i) (fun y hy => by
      obtain ⟨p, _, hp⟩ := Option.bind_eq_some_iff.1 hy
      exact hk p y (prvIn_mem _ hp)),
    map_agree h (o := (F.up i).bind fun p => nxtIn (F.kids p) i) (fun y hy => by
      obtain ⟨p, _, hp⟩ := Option.bind_eq_some_iff.1 hy
      exact hk p y (nxtIn_mem _ hp))]

/-- A node that stands alone. -/
def soloR (m : NodeD) (u : Value) : NRec := { par := none, fst := none, lst := none, prv := none, nxt := none, ty := tyOf m.kind, atom := 0, data := dataOf m, ns := ByteArray.empty, attr := u }

theorem DomAt.more {B : Nat} {w : World} {n : Nat} {nb : Nat → Nat} {v : Nat → Value} {lab : Nat → NodeD} {F : Wd} (h : DomAt B w n nb v lab F) (hF : WOk n F) {b : Nat} {m : NodeD} {u : Value} (hn : World.nodeAt w b (soloR m u)) (ho : w.ownsRow B 123 3 u m.attrs.length (attrCells m.attrs)) (hb : B ≤ b) (hne : ∀ i, i < n → nb i ≠ b)
    (hsep : ∀ i, i < n → ∀ c, (v i).ownBlock = some c → u.ownBlock ≠ some c) : DomAt B w (n + 1) (upd nb n b) (updV v n u) (upd lab n m) F := by
  obtain ⟨l1, l2⟩ := hF.lone (Nat.le_refl n)
  refine ⟨fun i hi => ?_, fun i hi => ?_, fun i hi => ?_, fun i j hi hj he => ?_, fun i j hi hj hij c hc => ?_⟩
  · by_cases e : i = n
    · subst e
      have : linkR F (upd nb i b) (upd lab i m i) (updV v i u i) i = soloR m u := by
        unfold linkR soloR
        rw [l1, l2, upd_same]
        simp [updV]
      rw [this, upd_same]
      exact hn
    · have hi2 : i < n := by omega
      rw [← linkR_congr hF (fun j hj => (upd_other nb b (by omega)).symm), upd_other _ _ e, upd_other _ _ e]
      simp only [updV, if_neg e]
      exact h.node i hi2
  · by_cases e : i = n
    · subst e
      rw [upd_same]
      simp only [updV, if_true]
      exact ho
    · rw [upd_other _ _ e]
      simp only [updV, if_neg e]
      exact h.own i (by omega)
  · by_cases e : i = n
    · subst e; rw [upd_same]; exact hb
    · rw [upd_other _ _ e]; exact h.base i (by omega)
  · by_cases e : i = n
    · by_cases e2 : j = n
      · rw [e, e2]
      · subst e
        rw [upd_same, upd_other _ _ e2] at he
        exact absurd he.symm (hne j (by omega))
    · by_cases e2 : j = n
      · subst e2
        rw [upd_same, upd_other _ _ e] at he
        exact absurd he (hne i (by omega))
      · rw [upd_other _ _ e, upd_other _ _ e2] at he
        exact h.inj i j (by omega) (by omega) he
  · unfold updV at hc ⊢
    by_cases e : i = n
    · rw [if_pos e] at hc
      rw [if_neg (by omega)]
      intro h9
      exact hsep j (by omega) c h9 hc
    · rw [if_neg e] at hc
      by_cases e2 : j = n
      · rw [if_pos e2]
        exact hsep i (by omega) c hc
      · rw [if_neg e2]
        exact h.sep i j (by omega) (by omega) hij c hc

/-- What a copy in the document is. -/
structure ClonedW (H n : Nat) (nb : Nat → Nat) (v : Nat → Value) (lab : Nat → NodeD) (F : Wd) (L : List Nat) (nb' : Nat → Nat) (v' : Nat → Value) (lab' : Nat → NodeD) : Prop where
  old : ∀ i, i < n → nb' i = nb i ∧ v' i = v i ∧ lab' i = lab i
  new : ∀ i, n ≤ i → i < n + L.length → H ≤ nb' i
  lab : ∀ i, i < L.length → lab' (n + i) = lab (L.getD i 0)

def ClonedPost (B n : Nat) (nb : Nat → Nat) (v : Nat → Value) (lab : Nat → NodeD) (F : Wd) (x : Nat) (L : List Nat) (w : World) (e : Ending) (w' : World) : Prop :=
  ∃ nb' v' lab', e = .returned (.pointer (some ⟨nb' n, 0, none⟩)) ∧ Hid (ClonedW w.heap.size n nb v lab F L nb' v' lab') ∧ Hid (DomAt B w' (n + L.length) nb' v' lab' (cpW F n L [x])) ∧ Hid (Below w.heap.size w w')

/-- While the kids are copied. -/
structure CloningW (H n : Nat) (nb : Nat → Nat) (v : Nat → Value) (lab : Nat → NodeD) (x : Nat) (L1 : List Nat) (nb' : Nat → Nat) (v' : Nat → Value) (lab' : Nat → NodeD) : Prop where
  old : ∀ i, i < n → nb' i = nb i ∧ v' i = v i ∧ lab' i = lab i
  new : ∀ i, n ≤ i → i < n + 1 + L1.length → H ≤ nb' i
  root : nb' n = H + 1
  labx : lab' n = lab x
  lab : ∀ i, i < L1.length → lab' (n + 1 + i) = lab (L1.getD i 0)

theorem cg_old {F : Wd} {n i : Nat} {L ys : List Nat} (hi : i < n) : (cgW F n L ys).kids i = F.kids i ∧ (cgW F n L ys).up i = F.up i := by
  obtain ⟨h1, h2⟩ := cp_old (F := F) (n := n + 1) (q := i) L ys (by omega)
  simp only [cgW, Wd.ins]
  rw [if_neg (by omega), if_neg (fun hm => by
    obtain ⟨z, _, e⟩ := List.mem_map.1 hm
    omega)]
  exact ⟨h1, h2⟩

theorem cg_root {F : Wd} {n : Nat} (hF : WOk n F) {L ys : List Nat} : (cgW F n L ys).kids n = ys.map (fun y => n + 1 + ix L y) ∧ (cgW F n L ys).up n = none := by
  obtain ⟨h1, h2⟩ := cp_old (F := F) (n := n + 1) (q := n) L ys (by omega)
  simp only [cgW, Wd.ins, if_true, List.nil_append, List.append_nil]
  rw [if_neg (fun hm => by
    obtain ⟨z, _, e⟩ := List.mem_map.1 hm
    omega)]
  exact ⟨trivial, h2.trans (hF.lone (Nat.le_refl n)).2⟩

theorem CloningW.step {H H2 n : Nat} {nb : Nat → Nat} {v : Nat → Value} {lab : Nat → NodeD} {G : Wd} {x : Nat} {L1 L2 : List Nat} {nb' nb2 : Nat → Nat} {v' v2 : Nat → Value} {lab' lab2 : Nat → NodeD} (h : CloningW H n nb v lab x L1 nb' v' lab') (hH : H ≤ H2) (h2n : ∀ z ∈ L2, z < n)
    (h2 : ClonedW H2 (n + 1 + L1.length) nb' v' lab' G L2 nb2 v2 lab2) : CloningW H n nb v lab x (L1 ++ L2) nb2 v2 lab2 := by
  refine ⟨fun i hi => ?_, fun i h1 h3 => ?_, ?_, ?_, fun i hi => ?_⟩
  · obtain ⟨a1, a2, a3⟩ := h.old i hi
    obtain ⟨b1, b2, b3⟩ := h2.old i (by omega)
    exact ⟨b1.trans a1, b2.trans a2, b3.trans a3⟩
  · rw [List.length_append] at h3
    by_cases e : i < n + 1 + L1.length
    · rw [(h2.old i e).1]; exact h.new i h1 e
    · exact Nat.le_trans hH (h2.new i (by omega) (by omega))
  · rw [(h2.old n (by omega)).1]; exact h.root
  · rw [(h2.old n (by omega)).2.2]; exact h.labx
  · rw [List.length_append] at hi
    by_cases e : i < L1.length
    · rw [getD_app_left e, (h2.old _ (by omega)).2.2]; exact h.lab i e
    · have h5 := h2.lab (i - L1.length) (by omega)
      have h6 : L2.getD (i - L1.length) 0 ∈ L2 := getD_mem' (by omega)
      rw [(h.old _ (h2n _ h6)).2.2] at h5
      rw [getD_app_right (by omega), ← h5]
      congr 1
      omega

theorem CloningW.done {H n : Nat} {nb : Nat → Nat} {v : Nat → Value} {lab : Nat → NodeD} {F : Wd} {x : Nat} {L1 : List Nat} {nb' : Nat → Nat} {v' : Nat → Value} {lab' : Nat → NodeD} (h : CloningW H n nb v lab x L1 nb' v' lab') : ClonedW H n nb v lab F (x :: L1) nb' v' lab' := by
  refine ⟨h.old, fun i h1 h2 => h.new i h1 (by rw [List.length_cons] at h2; omega), fun i hi => ?_⟩
  cases i with
  | zero => exact h.labx
  | succ i =>
    rw [List.length_cons] at hi
    rw [List.getD_cons_succ, ← h.lab i (by omega)]
    congr 1
    omega

/-- The forest behind a kid more. -/
theorem cg_step {n : Nat} {F : Wd} (hF : WOk n F) {x y : Nat} {A L1 L2 : List Nat} (hA : ∀ z ∈ A ++ [y], z ∈ F.kids x) (hAnd : (A ++ [y]).Nodup) (hL1 : Fl F.kids A L1) (hL2 : Fl F.kids [y] L2) (hG : WOk (n + 1 + L1.length) (cgW F n L1 A)) :
    (∀ z ∈ L2, z < n) ∧ CpOk (n + 1 + L1.length) (cgW F n L1 A) L2 [y] ∧ WOk (n + 1 + L1.length + L2.length) (cpW (cgW F n L1 A) (n + 1 + L1.length) L2 [y]) ∧
      (cpW (cgW F n L1 A) (n + 1 + L1.length) L2 [y]).up (n + 1 + L1.length) = none ∧ (cpW (cgW F n L1 A) (n + 1 + L1.length) L2 [y]).kids n = A.map (fun z => n + 1 + ix L1 z) ∧
      (cpW (cgW F n L1 A) (n + 1 + L1.length) L2 [y]).put n A.length (n + 1 + L1.length) = cgW F n (L1 ++ L2) (A ++ [y]) ∧ WOk (n + 1 + (L1 ++ L2).length) (cgW F n (L1 ++ L2) (A ++ [y])) := by
  have hyx : y ∈ F.kids x := hA y (by simp)
  have hyn := (hF.lt x y hyx).2
  have hloneA : Lone F A := ⟨(List.nodup_append.1 hAnd).1, fun a ha b hb hab => (hF.lone_kids x).2 a (hA a (List.mem_append_left _ ha)) b (hA b (List.mem_append_left _ hb)) hab⟩
  have hAn : ∀ z ∈ A, z < n := fun z hz => (hF.lt x z (hA z (List.mem_append_left _ hz))).2
  have hc1 := cpOk_of hF hL1 hloneA hAn
  have hc2 := cpOk_of hF hL2 (lone_one F y) (fun z hz => by simp at hz; omega)
  have hc3 : CpOk (n + 1 + L1.length) (cgW F n L1 A) L2 [y] := (hc2.congr (fun i hi => cg_old hi)).mono (by omega)
  have hdis : ∀ z ∈ L1, z ∉ L2 := fun z h1z h2z => by
    obtain ⟨q, hq, hqa⟩ := (hL1.anc hF z).1 h1z
    obtain ⟨r, hr, hra⟩ := (hL2.anc hF z).1 h2z
    simp at hr
    subst hr
    have hqy : q ≠ r := fun e => (List.nodup_append.1 hAnd).2.2 q hq r (by simp) e
    rcases hqa.cmp hra with h5 | h5
    · exact hqy ((hF.lone_kids x).2 q (hA q (List.mem_append_left _ hq)) r hyx h5)
    · exact hqy ((hF.lone_kids x).2 r hyx q (hA q (List.mem_append_left _ hq)) h5).symm
  have hok := cp_ok hG hc3
  have hy0 : ix L2 y = 0 := by
    have := hL2.head
    cases L2 with
    | nil => cases this
    | cons a r => simp at this; simp [ix, this]
  have hroot := cp_root (F := cgW F n L1 A) (n := n + 1 + L1.length) (L := L2) (ws := [y]) (x := y) (by simp) (hc2.ws y (by simp))
  rw [hy0, Nat.add_zero] at hroot
  have hk := (cp_old (F := cgW F n L1 A) (n := n + 1 + L1.length) (q := n) L2 [y] (by omega))
  rw [(cg_root hF).1, (cg_root hF).2] at hk
  have hs := cg_snoc hF (hc1.mono (Nat.le_succ n)) (hc2.mono (Nat.le_succ n)) hdis (fun hm2 => by have := hc2.lt n hm2; omega) hL2.head
  have hL2p : 0 < L2.length := by
    have := hL2.head
    cases L2 with
    | nil => cases this
    | cons a r => simp
  refine ⟨hc2.lt, hc3, hok, hroot, hk.1, hs, ?_⟩
  rw [← hs, List.length_append, ← Nat.add_assoc]
  refine hok.put _ (by omega) (by omega) hroot (fun ha => ?_)
  rcases ha.inv with e | ⟨p, hp, _⟩
  · omega
  · rw [hk.2] at hp; cases hp

set_option maxRecDepth 100000 in
set_option maxHeartbeats 4000000 in
theorem cloneNode_any : ∀ (d B : Nat) (w : World) (n : Nat) (nb : Nat → Nat) (v : Nat → Value) (lab : Nat → NodeD) (F : Wd) (x : Nat) (L : List Nat) (hD : DomAt B w n nb v lab F) (hF : WOk n F) (hx : x < n) (hL : Fl F.kids [x] L) (hd : L.length ≤ d) (hfit : ∀ y ∈ L, (lab y).attrs.length ≤ 100) (hB : B ≤ w.heap.size),
    Calls Try.prog 117 #[.pointer (some ⟨nb x, 0, none⟩)] w (ClonedPost B n nb v lab F x L w) := by
  intro d
  induction d with
  | zero =>
    intro B w n nb v lab F x L hD hF hx hL hd hfit hB
    obtain ⟨L', rfl, _⟩ := hL.one_inv
    simp at hd
  | succ d ih =>
    intro B w n nb v lab F x L hD hF hx hL hd hfit hB
    obtain ⟨L', rfl, hL'⟩ := hL.one_inv
    have hfit0 := hfit x (List.mem_cons_self ..)
    have hfit1 : ∀ y ∈ L', (lab y).attrs.length ≤ 100 := fun y hy => hfit y (List.mem_cons_of_mem _ hy)
    rw [List.length_cons] at hd
    have hnode := hD.node x hx
    have hown := hD.own x hx
    obtain ⟨lb, hlb⟩ : ∃ lb, lab x = lb := ⟨_, rfl⟩
    rw [hlb] at hnode hown hfit0
    obtain ⟨al, hal⟩ : ∃ al, lb.attrs.length = al := ⟨_, rfl⟩
    rw [hal] at hown hfit0
    obtain ⟨ta, tc, hav⟩ := ownsRow_slice hown
    rw [hav] at hown hnode
    have c1 := hnode.fst
    have c5 := hnode.ty
    have c6 := hnode.atom
    have c7 := hnode.data
    have c9 := hnode.attr
    obtain ⟨ty, hty⟩ : ∃ ty, tyOf lb.kind = ty := ⟨_, rfl⟩
    obtain ⟨da, hda⟩ : ∃ da, dataOf lb = da := ⟨_, rfl⟩
    have e1 : (linkR F nb lb (.slice ta al tc) x).fst = (F.kids x).head?.map nb := rfl
    have e5 : (linkR F nb lb (.slice ta al tc) x).ty = ty := hty
    have e6 : (linkR F nb lb (.slice ta al tc) x).atom = 0 := rfl
    have e7 : (linkR F nb lb (.slice ta al tc) x).data = da := hda
    have e9 : (linkR F nb lb (.slice ta al tc) x).attr = .slice ta al tc := rfl
    rw [e1] at c1
    rw [e5] at c5
    rw [e6] at c6
    rw [e7] at c7
    rw [e9] at c9
    have hmk := fun w => attr_make al hfit0 w
    have HLB := Lib.hid (And.intro hlb (And.intro hal (And.intro hav (And.intro hty hda))))
    have HD := Lib.hid (And.intro hD (And.intro hnode hown))
    have HF := Lib.hid hF
    have HL := Lib.hid (And.intro hL' (And.intro hfit0 (And.intro hfit1 hd)))
    have HX := Lib.hid (And.intro hx hB)
    have HIH := Lib.hid ih
    clear hnode hown hlb hal hav hty hda hD hF hL hL' hd hfit hfit0 hfit1 ih hx hB e1 e5 e6 e7 e9
    go_enter Try.func117, Try.ntmps117
    have o5 := cell_alloc_old c5 (.cells (blankAttrs al) 123)
    have o6 := cell_alloc_old c6 (.cells (blankAttrs al) 123)
    have o7 := cell_alloc_old c7 (.cells (blankAttrs al) 123)
    have o9 := cell_alloc_old c9 (.cells (blankAttrs al) 123)
    go_wp2
    go_region
    go_wp2
    obtain ⟨wz, hwz⟩ : ∃ wz, ((w.alloc (.cells (blankAttrs al) 123)).alloc (.cells #[.pointer none, .pointer none, .pointer none, .pointer none, .pointer none, .int .u32 ty, .int .u32 0, .string da, .string { data := #[] }, .slice (some ⟨w.heap.size, 0, none⟩) al al] 113)).drew = wz := ⟨_, rfl⟩
    rw [hwz]
    have hbz : Below w.heap.size w wz := by rw [← hwz]; exact (((Below.refl _ _).alloc (Nat.le_refl _) _).alloc (by simp) _).drew
    have hrow : wz.heap[w.heap.size]? = some (.cells (blankAttrs al) 123 (0, 0)) := by
      rw [← hwz]
      show ((w.alloc _).alloc _).heap[w.heap.size]? = _
      rw [Below.heap_alloc _ _ _ (by simp)]
      exact heap_alloc_new w _
    have hnew : World.nodeAt wz (w.heap.size + 1) (soloR lb (.slice (some ⟨w.heap.size, 0, none⟩) al al)) := by
      rw [← hwz]
      have h1 := heap_alloc_new (w.alloc (.cells (blankAttrs al) 123)) (.cells #[.pointer none, .pointer none, .pointer none, .pointer none, .pointer none, .int .u32 ty, .int .u32 0, .string da, .string { data := #[] }, .slice (some ⟨w.heap.size, 0, none⟩) al al] 113)
      rw [World.size_alloc] at h1
      unfold World.nodeAt soloR NRec.obj NRec.cells
      rw [HLB.out.2.2.2.1, HLB.out.2.2.2.2]
      exact h1
    have z9 : wz.cell? ⟨w.heap.size + 1, 9, none⟩ = some (.slice (some ⟨w.heap.size, 0, none⟩) al al) := hnew.attr
    have y9 := cell_below hbz c9
    have y1 := cell_below hbz c1
    have hrowd : wz.drew.heap[w.heap.size]? = some (.cells (blankAttrs al) 123 (0, 0)) := hrow
    have hsrc : 0 < al → ∃ b, ta = some b ∧ ∀ j v, (attrCells lb.attrs)[j]? = some v → wz.drew.cell? (b.add j) = some v := by
      have h1 := ownsRow_kept HD.out.2.2 (fun k hk => hbz.drew.block k (World.ownsRow.lt HD.out.2.2 k hk).2)
      exact attr_src h1
    have hal100 := HL.out.2.1
    obtain ⟨i0, hi, hz0, hz1, hz2⟩ := info_parts Try.infoAttrT
    have hsz : (Try.prog.info? 123).map (·.size) = some 3 := by rw [hi]; simp [hz1]
    have HROW := Lib.hid hrowd
    have HSRC := Lib.hid hsrc
    have HNEW := Lib.hid hnew
    have HBZ := Lib.hid hbz
    have HNC : Hid ((attrCells lb.attrs).length = al * 3) := Lib.hid (by rw [attrCells_len, HLB.out.2.1])
    clear hwz hrow hnew hbz hrowd hsrc c1 c5 c6 c7 c9 o5 o6 o7 o9 hmk
    go_region_law (refine step_copy_attr rfl (.tmp 28) (.tmp 32) 111 111 rfl 123 Try.underlying111 hsz w.heap.size al ta al tc (by simp [Act.eval, Act.put]) (by simp [Act.eval, Act.put]) (blankAttrs al) 123 HROW.out (attrCells lb.attrs) HNC.out (by unfold blankAttrs; rw [size_madeCells]) HSRC.out (attrCells_one _) ?_; intro w3 hw3)
    all_goals
      have hb3 : Below w.heap.size w w3 := by rw [← hw3]; exact below_setRow HBZ.out.drew (Nat.le_refl _) _
      have hnew3 : World.nodeAt w3 (w.heap.size + 1) (soloR lb (.slice (some ⟨w.heap.size, 0, none⟩) al al)) := by
        have h1 := HNEW.out
        rw [← hw3]
        unfold World.nodeAt at h1 ⊢
        rw [setRow_other _ _ _ _ (by omega)]
        exact h1
      have hown3 : w3.ownsRow w.heap.size 123 3 (.slice (some ⟨w.heap.size, 0, none⟩) al al) lb.attrs.length (attrCells lb.attrs) := by
        rw [HLB.out.2.1]
        refine ⟨HNC.out, .inr ⟨w.heap.size, al, (attrCells lb.attrs).toArray, rfl, Nat.le_refl _, ?_, Nat.le_refl _, by unfold maxLen; omega, by simp [HNC.out], by rw [List.take_of_length_le (by simp [HNC.out])]⟩⟩
        rw [← hw3]
        exact setRow_heap _ _ _ _ _ _ HROW.out
      have y1' : w3.cell? ⟨nb x, 1, none⟩ = some (lk ((F.kids x).head?.map nb)) := cell_below hb3 HD.out.2.1.fst
      have hdom := (HD.out.1.below hb3).more HF.out hnew3 (ownsRow_base hown3 HX.out.2) (by have := HX.out.2; omega) (fun i hi => by have := World.nodeAt.lt (HD.out.1.node i hi); omega) (fun i hi c hc => by
        have := (World.ownsRow.lt (HD.out.1.own i hi) c hc).2
        simp only [Value.ownBlock, ne_eq, Option.some.injEq]
        omega)
      have hst : CloningW w.heap.size n nb v lab x [] (upd nb n (w.heap.size + 1)) (updV v n (.slice (some ⟨w.heap.size, 0, none⟩) al al)) (upd lab n lb) := by
        refine ⟨fun i hi => ⟨upd_other _ _ (by omega), if_neg (by omega), upd_other _ _ (by omega)⟩, fun i h1 h2 => ?_, upd_same _ _ _, by rw [upd_same]; exact HLB.out.1.symm, fun i hi => absurd hi (Nat.not_lt_zero i)⟩
        obtain rfl : i = n := by simp at h2; omega
        rw [upd_same]; omega
      have HDOM := Lib.hid hdom
      have HST := Lib.hid hst
      have HB3 := Lib.hid hb3
      clear hdom hst hb3 hnew3 hown3 hw3 y1 y9 z9 HROW HSRC HNEW HBZ HNC
      go_wp2
      go_loopg [4] (F.kids x).length (fun gk cv wr => ∃ (A rest L1 R : List Nat) (nb' : Nat → Nat) (v' : Nat → Value) (lab' : Nat → NodeD), gk = rest.length ∧ cv = lk (rest.head?.map nb) ∧ Hid (F.kids x = A ++ rest ∧ Fl F.kids A L1 ∧ Fl F.kids rest R ∧ L' = L1 ++ R) ∧ Hid (CloningW w.heap.size n nb v lab x L1 nb' v' lab') ∧ Hid (DomAt B wr (n + 1 + L1.length) nb' v' lab' (cgW F n L1 A)) ∧ Hid (WOk (n + 1 + L1.length) (cgW F n L1 A)) ∧ Hid (Below w.heap.size w wr))
      case atStart => exact ⟨[], F.kids x, [], L', _, _, _, rfl, rfl, Lib.hid ⟨rfl, .nil, HL.out.1, rfl⟩, HST, Lib.hid (by rw [cg_nil HF.out]; exact HDOM.out), Lib.hid (by rw [cg_nil HF.out]; exact HF.out.more (by simp)), HB3⟩
      case round =>
        obtain ⟨A, rest, L1, R, nb', v', lab', rfl, rfl, HA, HC, HDr, HWr, HBr⟩ := hrel
        cases rest with
        | nil =>
          have hfin : L' = L1 ∧ F.kids x = A := by
            obtain ⟨h1, h2, h3, h4⟩ := HA.out
            cases h3
            rw [List.append_nil] at h1 h4
            exact ⟨h4, h1⟩
          have hlast : DomAt B wr (n + (x :: L').length) nb' v' lab' (cpW F n (x :: L') [x]) := by
            obtain ⟨h1, h2⟩ := hfin
            have hnd := (Fl.one HL.out.1).nodup HF.out (lone_one F x)
            rw [List.nodup_cons] at hnd
            have h3 := cg_all HF.out HX.out.1 (cpOk_of HF.out HL.out.1 (HF.out.lone_kids x) (fun y hy => (HF.out.lt x y hy).2)) hnd.1
            rw [← h3, List.length_cons, h2, h1, show n + (L1.length + 1) = n + 1 + L1.length by omega]
            exact HDr.out
          have hcw : ClonedW w.heap.size n nb v lab F (x :: L') nb' v' lab' := by rw [hfin.1]; exact HC.out.done
          have HLAST := Lib.hid hlast
          have HCW := Lib.hid hcw
          have HRT := Lib.hid HC.out.root
          clear hlast hcw hfin
          simp only [List.head?_nil, Option.map_none, lk_none]
          go_wp2
          go_ret
          exact ⟨nb', v', lab', by rw [HRT.out]; rfl, HCW, HLAST, HBr⟩
        | cons y rest' =>
          simp only [List.head?_cons, Option.map_some, lk_some]
          obtain ⟨L2, R', hR2, hL2, hR'⟩ := HA.out.2.2.1.split
          have hyx : y ∈ F.kids x := by rw [HA.out.1]; simp
          have hyn := (HF.out.lt x y hyx).2
          have hxs : F.kids x = (A ++ [y]) ++ rest' := by rw [HA.out.1]; simp
          have hnd := HF.out.nd x
          rw [hxs] at hnd
          obtain ⟨g1, g2, g3, g4, g5, g6, g7⟩ := cg_step HF.out (x := x) (y := y) (A := A) (fun z hz => by rw [hxs]; exact List.mem_append_left _ hz) (List.nodup_append.1 hnd).1 HA.out.2.1 hL2 HWr.out
          have hLL := HA.out.2.2.2
          rw [hR2] at hLL
          have hlen : L'.length = L1.length + (L2.length + R'.length) := by rw [hLL]; simp
          have hcall := HIH.out B wr (n + 1 + L1.length) nb' v' lab' (cgW F n L1 A) y L2 HDr.out HWr.out (by omega) (hL2.congr (fun z hz => (cg_old (g1 z hz)).1)) (by have := HL.out.2.2.2; omega) (fun z hz => by rw [(HC.out.old z (g1 z hz)).2.2]; exact HL.out.2.2.1 z (by rw [hLL]; simp [hz])) (Nat.le_trans HX.out.2 HBr.out.size)
          rw [(HC.out.old y hyn).1] at hcall
          have hnx : (linkR (cgW F n L1 A) nb' (lab' y) (v' y) y).nxt = rest'.head?.map nb := by
            have h1 : (cgW F n L1 A).up y = some x := (cg_old hyn).2.trans ((HF.out.iff x y).1 hyx)
            show (((cgW F n L1 A).up y).bind fun p => nxtIn ((cgW F n L1 A).kids p) y).map nb' = _
            rw [h1]
            show (nxtIn ((cgW F n L1 A).kids x) y).map nb' = _
            rw [(cg_old HX.out.1).1, HA.out.1, nxtIn_app A (fun hm => by
              have h2 := HF.out.nd x
              rw [HA.out.1] at h2
              exact (nd_parts h2).1 hm)]
            exact map_agree (n := n) (fun j hj => (HC.out.old j hj).1) (fun z hz => (HF.out.lt x z (by rw [HA.out.1]; simp [List.mem_of_mem_head? hz])).2)
          have c4 := (HDr.out.node y (by omega)).nxt
          rw [hnx, (HC.out.old y hyn).1] at c4
          have HCALL := Lib.hid hcall
          have HG := Lib.hid (And.intro g1 (And.intro g2 (And.intro g3 (And.intro g4 (And.intro g5 (And.intro g6 g7))))))
          have HY := Lib.hid (And.intro hyx (And.intro hyn (And.intro hxs (And.intro hL2 (And.intro hR' (And.intro hLL hR2))))))
          clear hcall hyx hyn hxs hL2 hR' hLL hR2 hnx hnd g1 g2 g3 g4 g5 g6 g7 hlen
          go_wp2_with fail
          refine HCALL.out.mono ?_
          rintro e w4 ⟨nb2, v2, lab2, rfl, HC2, HD2, HB2⟩
          have hr2 : nb2 n = w.heap.size + 1 := by rw [(HC2.out.old n (by omega)).1]; exact HC.out.root
          have hL2p : 0 < L2.length := by
            have := HY.out.2.2.2.1.head
            cases L2 with
            | nil => cases this
            | cons a r => simp
          have hbs := HBr.out.size
          have happ := appendNew_any w.heap.size HD2.out HG.out.2.2.1 (p := n) (x := n + 1 + L1.length) (by omega) (by omega) (by omega) HG.out.2.2.2.1 (by omega) (by have := HC2.out.new (n + 1 + L1.length) (Nat.le_refl _) (by omega); omega) (fun q hq => by
            rw [HG.out.2.2.2.2.1] at hq
            obtain ⟨z, hz, rfl⟩ := List.mem_map.1 hq
            have hzL : z ∈ L1 := (HA.out.2.1.anc HF.out z).2 ⟨z, hz, .refl⟩
            have h1 := ix_lt hzL
            rw [(HC2.out.old _ (by omega)).1]
            exact HC.out.new _ (by omega) (by omega))
          rw [HG.out.2.2.2.2.1, List.length_map, HG.out.2.2.2.2.2.1, hr2] at happ
          have HAPP := Lib.hid happ
          have c4 := cell_below HB2.out c4
          clear happ HCALL hr2
          go_wp2_with fail
          refine HAPP.out.mono ?_
          rintro e w5 ⟨⟨rfl, HD5, HO5⟩, HB5⟩
          have c4' : w5.cell? ⟨nb y, 4, none⟩ = some (lk (rest'.head?.map nb)) := (World.cell?_of_block (HB5.out.block _ (by have := World.nodeAt.lt (HD.out.1.node y HY.out.2.1); omega))).trans c4
          have hcs := HC.out.step (Nat.le_trans (Nat.le_refl _) hbs) HG.out.1 HC2.out
          have hd5 : DomAt B w5 (n + 1 + (L1 ++ L2).length) nb2 v2 lab2 (cgW F n (L1 ++ L2) (A ++ [y])) := by
            rw [List.length_append, ← Nat.add_assoc]
            exact HD5.out
          have hb5 : Below w.heap.size w w5 := (HBr.out.trans (HB2.out.mono hbs)).trans HB5.out
          have HCS := Lib.hid hcs
          have HD5' := Lib.hid hd5
          have HB5' := Lib.hid hb5
          have HF2 := Lib.hid (Fl.append HA.out.2.1 HY.out.2.2.2.1)
          clear hcs hd5 hb5 HD5 HO5 HB5 HAPP c4
          go_wp2
          go_roundg rest'.length
          case rel => exact ⟨A ++ [y], rest', L1 ++ L2, R', nb2, v2, lab2, rfl, rfl, Lib.hid ⟨HY.out.2.2.1, HF2.out, HY.out.2.2.2.2.1, HY.out.2.2.2.2.2.1.trans (List.append_assoc ..).symm⟩, HCS, HD5', Lib.hid HG.out.2.2.2.2.2.2, HB5'⟩
          case measure => simp

end Go.Proofs.Ytoleejaabiafcaa

namespace Go.Proofs.Ytoleejaabiafcaa
open Go.RowKit
set_option linter.unusedVariables false
set_option linter.unusedSimpArgs false

/-- Only nodes of a document are turned, and what is new. -/
structure OnlyG (n : Nat) (nb : Nat → Nat) (w w' : World) : Prop where
  size : w.heap.size ≤ w'.heap.size
  block : ∀ k, k < w.heap.size → (∀ i, i < n → k ≠ nb i) → w'.heap[k]? = w.heap[k]?
  below : ∀ B, B ≤ w.heap.size → (∀ i, i < n → B ≤ nb i) → Below B w w'

theorem OnlyG.refl (n : Nat) (nb : Nat → Nat) (w : World) : OnlyG n nb w w := ⟨Nat.le_refl _, fun _ _ _ => rfl, fun _ _ _ => Below.refl _ _⟩
theorem OnlyG.trans {n : Nat} {nb : Nat → Nat} {a b c : World} (h : OnlyG n nb a b) (h' : OnlyG n nb b c) : OnlyG n nb a c :=
  ⟨Nat.le_trans h.size h'.size, fun k hk hn => (h'.block k (Nat.lt_of_lt_of_le hk h.size) hn).trans (h.block k hk hn), fun B hB hn => (h.below B hB hn).trans (h'.below B (Nat.le_trans hB h.size) hn)⟩
theorem OnlyG.of_below {n : Nat} {nb : Nat → Nat} {a w w' : World} (h : OnlyG n nb a w) (hb : Below w.heap.size w w') : OnlyG n nb a w' :=
  h.trans ⟨hb.size, fun k hk _ => hb.block k hk, fun B hB _ => hb.mono hB⟩
/-- A turn of the nodes that are there now: the old ones, and new ones. -/
theorem OnlyG.turn {n m : Nat} {nb nb' : Nat → Nat} {a w w' : World} (h : OnlyG n nb a w) (ho : OnlyN m nb' w w') (hold : ∀ i, i < n → nb' i = nb i) (hnew : ∀ i, n ≤ i → i < m → a.heap.size ≤ nb' i) : OnlyG n nb a w' := by
  have hne : ∀ k, k < a.heap.size → (∀ i, i < n → k ≠ nb i) → ∀ i, i < m → k ≠ nb' i := fun k hk hn i hi e => by
    by_cases h1 : i < n
    · rw [hold i h1] at e; exact hn i h1 e
    · have := hnew i (by omega) hi; omega
  refine ⟨by rw [ho.size]; exact h.size, fun k hk hn => (ho.block k (hne k hk hn)).trans (h.block k hk hn), fun B hB hn => (h.below B hB hn).trans (ho.below B (fun i hi => ?_))⟩
  by_cases h1 : i < n
  · rw [hold i h1]; exact hn i h1
  · exact Nat.le_trans hB (hnew i (by omega) hi)

theorem prvIn_map {t : Nat → Nat} {y : Nat} : ∀ (l : List Nat), (∀ a ∈ l, t a = t y → a = y) → prvIn (l.map t) (t y) = (prvIn l y).map t
  | [], _ => rfl
  | [a], _ => rfl
  | a :: b :: r, h => by
    simp only [List.map_cons, prvIn]
    by_cases e : b = y
    · subst e; simp
    · rw [if_neg (fun e2 => e (h b (by simp) e2)), if_neg e]
      exact prvIn_map (b :: r) (fun c hc => h c (List.mem_cons_of_mem _ hc))
theorem nxtIn_map {t : Nat → Nat} {y : Nat} : ∀ (l : List Nat), (∀ a ∈ l, t a = t y → a = y) → nxtIn (l.map t) (t y) = (nxtIn l y).map t
  | [], _ => rfl
  | [a], _ => rfl
  | a :: b :: r, h => by
    simp only [List.map_cons, nxtIn]
    by_cases e : a = y
    · subst e; simp
    · rw [if_neg (fun e2 => e (h a (by simp) e2)), if_neg e]
      exact nxtIn_map (b :: r) (fun c hc => h c (List.mem_cons_of_mem _ hc))

/-- The same document under other numbers: s leads back to the old ones. -/
theorem DomAt.perm {B : Nat} {w : World} {n : Nat} {nb : Nat → Nat} {v : Nat → Value} {lab : Nat → NodeD} {F F' : Wd} (h : DomAt B w n nb v lab F) (hF : WOk n F) (s t : Nat → Nat) (hs : ∀ i, i < n → s i < n ∧ t (s i) = i) (ht : ∀ i, i < n → t i < n ∧ s (t i) = i)
    (hk : ∀ i, i < n → F'.kids i = (F.kids (s i)).map t) (hu : ∀ i, i < n → F'.up i = (F.up (s i)).map t) : DomAt B w n (fun i => nb (s i)) (fun i => v (s i)) (fun i => lab (s i)) F' := by
  have hmap : ∀ o : Option Nat, (∀ y, o = some y → y < n) → (o.map t).map (fun i => nb (s i)) = o.map nb := fun o ho => by
    cases o with
    | none => rfl
    | some y => simp [(ht y (ho y rfl)).2]
  have hlink : ∀ i, i < n → linkR F' (fun i => nb (s i)) (lab (s i)) (v (s i)) i = linkR F nb (lab (s i)) (v (s i)) (s i) := fun i hi => by
    obtain ⟨h1, h2⟩ := hs i hi
    unfold linkR
    have e1 : (F'.up i).map (fun i => nb (s i)) = (F.up (s i)).map nb := by
      rw [hu i hi]
      exact hmap _ (fun y hy => (hF.lt y _ ((hF.iff y _).2 hy)).1)
    have e2 : (F'.kids i).head?.map (fun i => nb (s i)) = (F.kids (s i)).head?.map nb := by
      rw [hk i hi, List.head?_map]
      exact hmap _ (fun y hy => (hF.lt _ y (List.mem_of_mem_head? hy)).2)
    have e3 : (F'.kids i).getLast?.map (fun i => nb (s i)) = (F.kids (s i)).getLast?.map nb := by
      rw [hk i hi, List.getLast?_map]
      exact hmap _ (fun y hy => (hF.lt _ y (List.mem_of_getLast? hy)).2)
    have e4 : ((F'.up i).bind fun p => prvIn (F'.kids p) i).map (fun i => nb (s i)) = ((F.up (s i)).bind fun p => prvIn (F.kids p) (s i)).map nb := by
      rw [hu i hi]
      cases hp : F.up (s i) with
      | none => rfl
      | some p =>
        have hpn := (hF.lt p _ ((hF.iff p _).2 hp)).1
        simp only [Option.map_some, Option.bind_some]
        rw [hk _ (ht p hpn).1, (ht p hpn).2]
        have := prvIn_map (t := t) (y := s i) (F.kids p) (fun a ha e => by
          have han := (hF.lt p a ha).2
          rw [← (ht a han).2, e, (ht _ h1).2])
        rw [h2] at this
        rw [this]
        exact hmap _ (fun y hy => (hF.lt p y (prvIn_mem _ hy)).2)
    have e5 : ((F'.up i).bind fun p => nxtIn (F'.kids p) i).map (fun i => nb (s i)) = ((F.up (s i)).bind fun p => nxtIn (F.kids p) (s i)).map nb := by
      rw [hu i hi]
      cases hp : F.up (s i) with
      | none => rfl
      | some p =>
        have hpn := (hF.lt p _ ((hF.iff p _).2 hp)).1
        simp only [Option.map_some, Option.bind_some]
        rw [hk _ (ht p hpn).1, (ht p hpn).2]
        have := nxtIn_map (t := t) (y := s i) (F.kids p) (fun a ha e => by
          have han := (hF.lt p a ha).2
          rw [← (ht a han).2, e, (ht _ h1).2])
        rw [h2] at this
        rw [this]
        exact hmap _ (fun y hy => (hF.lt p y (nxtIn_mem _ hy)).2)
    rw [e1, e2, e3, e4, e5]
  have hsi : ∀ i j, i < n → j < n → s i = s j → i = j := fun i j hi hj e => by rw [← (hs i hi).2, e, (hs j hj).2]
  exact ⟨fun i hi => by rw [hlink i hi]; exact h.node _ (hs i hi).1, fun i hi => h.own _ (hs i hi).1, fun i hi => h.base _ (hs i hi).1, fun i j hi hj e => hsi i j hi hj (h.inj _ _ (hs i hi).1 (hs j hj).1 e),
    fun i j hi hj hij => h.sep _ _ (hs i hi).1 (hs j hj).1 (fun e => hij (hsi i j hi hj e))⟩

theorem DomAt.relab {B : Nat} {w : World} {n : Nat} {nb : Nat → Nat} {v : Nat → Value} {lab lab' : Nat → NodeD} {F : Wd} (h : DomAt B w n nb v lab F) (hl : ∀ i, i < n → lab' i = lab i) : DomAt B w n nb v lab' F :=
  ⟨fun i hi => by rw [hl i hi]; exact h.node i hi, fun i hi => by rw [hl i hi]; exact h.own i hi, h.base, h.inj, h.sep⟩

/-- A copy behind nodes that have been put commutes with them. -/
theorem cp_ins {H : Wd} {p M : Nat} {A rs B Ly ws : List Nat} (hp : p < M) (hpL : p ∉ Ly) (hr : ∀ r ∈ rs, r < M ∧ r ∉ Ly) : cpW (H.ins p A rs B) M Ly ws = (cpW H M Ly ws).ins p A rs B := by
  show Wd.mk _ _ = Wd.mk _ _
  rw [Wd.mk.injEq]
  refine ⟨funext fun q => ?_, funext fun q => ?_⟩
  · by_cases a : M ≤ q ∧ q < M + Ly.length
    · have hj : q - M < Ly.length := by omega
      have hm := getD_mem' (d := 0) hj
      rw [if_pos a, if_neg (by omega)]
      simp only [Wd.ins, cpW]
      rw [if_neg (fun e : Ly.getD (q - M) 0 = p => hpL (e ▸ hm)), if_pos a]
    · rw [if_neg a]
      simp only [Wd.ins, cpW]
      rw [if_neg a]
  · by_cases a : M ≤ q ∧ q < M + Ly.length
    · have hj : q - M < Ly.length := by omega
      have hm := getD_mem' (d := 0) hj
      rw [if_pos a, if_neg (show q ∉ rs from fun h => by have := (hr q h).1; omega)]
      simp only [Wd.ins]
      rw [if_neg (fun h => (hr _ h).2 hm)]
      simp only [cpW]
      rw [if_pos a]
    · rw [if_neg a]
      simp only [Wd.ins]
      by_cases hm : q ∈ rs
      · rw [if_pos hm, if_pos hm]
      · rw [if_neg hm, if_neg hm]
        simp only [cpW]
        rw [if_neg a]

/-- The copies' tops while each is put ahead of those before it. -/
def cpA (G : Wd) (m : Nat) (L T : List Nat) (p : Nat) (A B : List Nat) : Wd := (cpW G m L T).ins p A ((T.map fun v => m + ix L v).reverse) B
/-- .. behind those before it. -/
def cpB (G : Wd) (m : Nat) (L T : List Nat) (p : Nat) (A B : List Nat) : Wd := (cpW G m L T).ins p A (T.map fun v => m + ix L v) B

theorem cpA_nil {G : Wd} {m p : Nat} {A B : List Nat} (h : G.kids p = A ++ B) : cpA G m [] [] p A B = G := by
  unfold cpA
  rw [cp_nil]
  exact ins_nil h
theorem cpB_nil {G : Wd} {m p : Nat} {A B : List Nat} (h : G.kids p = A ++ B) : cpB G m [] [] p A B = G := by
  unfold cpB
  rw [cp_nil]
  exact ins_nil h

/-- What a copy more needs, and gives: U the tops that have been put. -/
theorem cpU_step {n : Nat} {F : Wd} {L : List Nat} {m : Nat} {G : Wd} (hF : WOk n F) (hM : MidW n F L m G) {T Lk Ly U : List Nat} {y p : Nat} {A B : List Nat} (hl : Lone F (T ++ [y])) (hLk : Fl F.kids T Lk) (hLy : Fl F.kids [y] Ly) (hsub : ∀ z, z ∈ Lk ∨ z ∈ Ly → z ∈ L) (hTn : ∀ v ∈ T ++ [y], v < n) (hp : p < n) (hpL : p ∉ L) (hk : G.kids p = A ++ B)
    (hU : ∀ r ∈ U, m ≤ r ∧ r < m + Lk.length) (hW : WOk (m + Lk.length) ((cpW G m Lk T).ins p A U B)) :
    CpOk (m + Lk.length) ((cpW G m Lk T).ins p A U B) Ly [y] ∧ WOk (m + Lk.length + Ly.length) (cpW ((cpW G m Lk T).ins p A U B) (m + Lk.length) Ly [y]) ∧
      (cpW ((cpW G m Lk T).ins p A U B) (m + Lk.length) Ly [y]).up (m + Lk.length) = none ∧ cpW ((cpW G m Lk T).ins p A U B) (m + Lk.length) Ly [y] = (cpW G m (Lk ++ Ly) (T ++ [y])).ins p A U B ∧
      (T ++ [y]).map (fun v => m + ix (Lk ++ Ly) v) = T.map (fun v => m + ix Lk v) ++ [m + Lk.length] ∧ 0 < Ly.length ∧ (∀ z ∈ Ly, ((cpW G m Lk T).ins p A U B).kids z = F.kids z ∧ z < n) ∧
      ∀ i, WOk (m + Lk.length + Ly.length) (((cpW G m (Lk ++ Ly) (T ++ [y])).ins p A U B).put p i (m + Lk.length)) := by
  have hnm := hM.le
  have hdis : ∀ z ∈ Lk, z ∉ Ly := fun z h1z h2z => by
    obtain ⟨q, hq, hqa⟩ := (hLk.anc hF z).1 h1z
    obtain ⟨r, hr, hra⟩ := (hLy.anc hF z).1 h2z
    simp at hr
    subst hr
    have hqy : q ≠ r := fun e => (List.nodup_append.1 hl.1).2.2 q hq r (by simp) e
    rcases hqa.cmp hra with h5 | h5
    · exact hqy (hl.2 q (List.mem_append_left _ hq) r (by simp) h5)
    · exact hqy (hl.2 r (by simp) q (List.mem_append_left _ hq) h5).symm
  have hloneT : Lone F T := ⟨(List.nodup_append.1 hl.1).1, fun x hx z hz => hl.2 x (List.mem_append_left _ hx) z (List.mem_append_left _ hz)⟩
  have hc1 := cpOk_of hF hLk hloneT (fun v hv => hTn v (List.mem_append_left _ hv))
  have hc2 := cpOk_of hF hLy (lone_one F y) (fun z hz => by simp at hz; subst hz; exact hTn z (by simp))
  have hcong : ∀ {Q ws : List Nat}, CpOk n F Q ws → (∀ z ∈ Q, z ∈ L) → CpOk m G Q ws := fun {Q ws} h hs => ⟨h.nd, fun z hz => by have := h.lt z hz; omega, fun q hq z hz => h.sub q hq z (by rwa [hM.tree q (hs q hq)] at hz), fun z hz hn => by rw [hM.up z (h.lt z hz)]; exact h.up z hz hn, h.ws⟩
  have hg1 := hcong hc1 (fun z hz => hsub z (.inl hz))
  have hg2 := hcong hc2 (fun z hz => hsub z (.inr hz))
  have hkold : ∀ z ∈ Ly, ((cpW G m Lk T).ins p A U B).kids z = F.kids z ∧ ((cpW G m Lk T).ins p A U B).up z = F.up z := fun z hz => by
    have hzn := hc2.lt z hz
    have hzL := hsub z (.inr hz)
    simp only [Wd.ins]
    rw [if_neg (fun e : z = p => hpL (e ▸ hzL)), if_neg (fun h => by have := (hU z h).1; omega), (cp_old Lk T (by omega)).1, (cp_old Lk T (by omega)).2]
    exact ⟨hM.tree z hzL, hM.up z hzn⟩
  have hc3 : CpOk (m + Lk.length) ((cpW G m Lk T).ins p A U B) Ly [y] := ⟨hc2.nd, fun z hz => by have := hc2.lt z hz; omega, fun q hq z hz => hc2.sub q hq z (by rwa [(hkold q hq).1] at hz), fun z hz hn => by rw [(hkold z hz).2]; exact hc2.up z hz hn, hc2.ws⟩
  have hLp : 0 < Ly.length := by
    have := hLy.one_inv
    obtain ⟨A', rfl, _⟩ := this
    simp
  have hhead : Ly.head? = some y := by
    obtain ⟨A', rfl, _⟩ := hLy.one_inv
    rfl
  have hy0 : ix Ly y = 0 := by
    cases Ly with
    | nil => cases hhead
    | cons a r => simp at hhead; simp [ix, hhead]
  have hyL : y ∈ Ly := hc2.ws y (by simp)
  have hcom := cp_ins (H := cpW G m Lk T) (p := p) (M := m + Lk.length) (A := A) (rs := U) (B := B) (Ly := Ly) (ws := [y]) (by omega) (fun h => hpL (hsub p (.inr h))) (fun r hr => ⟨(hU r hr).2, fun h => by have := hc2.lt r h; have := (hU r hr).1; omega⟩)
  rw [cp_snoc hg1 hg2 hdis] at hcom
  have hok := cp_ok hW hc3
  have hroot := cp_root (F := (cpW G m Lk T).ins p A U B) (n := m + Lk.length) (L := Ly) (ws := [y]) (x := y) (by simp) hyL
  rw [hy0, Nat.add_zero] at hroot
  refine ⟨hc3, hok, hroot, hcom, ?_, hLp, fun z hz => ⟨(hkold z hz).1, hc2.lt z hz⟩, fun i => ?_⟩
  · rw [List.map_append, List.map_cons, List.map_nil, ix_app_right (fun h => hdis y h hyL), hy0]
    congr 1
    exact map_same (fun z hz => by rw [ix_app_left (hg1.ws z hz)])
  · rw [← hcom]
    refine hok.put i (by omega) (by omega) hroot (fun ha => ?_)
    have hlow : ∀ q, q < m → ∀ z, Anc (cpW ((cpW G m Lk T).ins p A U B) (m + Lk.length) Ly [y]) z q → z < m := fun q hq z hz => by
      induction hz with
      | refl => exact hq
      | @step c d hu _ ih =>
        refine ih ?_
        rw [(cp_old Ly [y] (by omega)).2] at hu
        simp only [Wd.ins] at hu
        rw [if_neg (fun h => by have := (hU c h).1; omega), (cp_old Lk T (by omega)).2] at hu
        exact (hM.ok.lt d c ((hM.ok.iff d c).2 hu)).1
    have := hlow p (by omega) _ ha
    omega

/-- Copies made in another order: the same document under other numbers. -/
theorem DomAt.reorder {B : Nat} {w : World} {m : Nat} {nb : Nat → Nat} {v : Nat → Value} {lab : Nat → NodeD} {G : Wd} {L1 L2 T1 T2 : List Nat} {p : Nat} {A Bk : List Nat} (hG : WOk m G) (h1 : CpOk m G L1 T1) (h2 : CpOk m G L2 T2) (hm : ∀ z, z ∈ L1 ↔ z ∈ L2) (hT : ∀ z, z ∈ T1 ↔ z ∈ T2) (hlen : L1.length = L2.length) {ws : List Nat} (hw : ∀ z ∈ ws, z ∈ T1) (hp : p < m) (hk : G.kids p = A ++ Bk)
    (hW : WOk (m + L1.length) ((cpW G m L1 T1).ins p A (ws.map fun v => m + ix L1 v) Bk)) (hA : ∀ y, y ∈ A ∨ y ∈ Bk → y < m)
    (h : DomAt B w (m + L1.length) nb v lab ((cpW G m L1 T1).ins p A (ws.map fun v => m + ix L1 v) Bk)) :
    DomAt B w (m + L2.length) (fun i => nb (if m ≤ i ∧ i < m + L2.length then m + ix L1 (L2.getD (i - m) 0) else i)) (fun i => v (if m ≤ i ∧ i < m + L2.length then m + ix L1 (L2.getD (i - m) 0) else i)) (fun i => lab (if m ≤ i ∧ i < m + L2.length then m + ix L1 (L2.getD (i - m) 0) else i))
      ((cpW G m L2 T2).ins p A (ws.map fun v => m + ix L2 v) Bk) := by
  have hs : ∀ (La Lb : List Nat), La.Nodup → Lb.Nodup → (∀ z, z ∈ La ↔ z ∈ Lb) → La.length = Lb.length → ∀ i, i < m + La.length → (if m ≤ i ∧ i < m + La.length then m + ix Lb (La.getD (i - m) 0) else i) < m + La.length ∧
      (fun i => if m ≤ i ∧ i < m + Lb.length then m + ix La (Lb.getD (i - m) 0) else i) (if m ≤ i ∧ i < m + La.length then m + ix Lb (La.getD (i - m) 0) else i) = i := fun La Lb ha hb hmem hlen i hi => by
    by_cases e : m ≤ i ∧ i < m + La.length
    · have hj : i - m < La.length := by omega
      have hz : La.getD (i - m) 0 ∈ Lb := (hmem _).1 (getD_mem' hj)
      have h5 := ix_lt hz
      rw [if_pos e]
      refine ⟨by omega, ?_⟩
      try simp only
      rw [if_pos (by omega), show m + ix Lb (La.getD (i - m) 0) - m = ix Lb (La.getD (i - m) 0) by omega, ix_get hz, get_ix ha hj]
      omega
    · rw [if_neg e]
      refine ⟨hi, ?_⟩
      try simp only
      rw [if_neg (by omega)]
  have hcv : ∀ z ∈ L1, (if m ≤ m + ix L1 z ∧ m + ix L1 z < m + L1.length then m + ix L2 (L1.getD (m + ix L1 z - m) 0) else m + ix L1 z) = m + ix L2 z := fun z hz => by
    have := ix_lt hz
    rw [if_pos (by omega), show m + ix L1 z - m = ix L1 z by omega, ix_get hz]
  have hold : ∀ z, z < m → (if m ≤ z ∧ z < m + L1.length then m + ix L2 (L1.getD (z - m) 0) else z) = z := fun z hz => by rw [if_neg (by omega)]
  rw [hlen] at h hW
  have hper := DomAt.perm (F' := (cpW G m L2 T2).ins p A (ws.map fun v => m + ix L2 v) Bk) h hW (fun i => if m ≤ i ∧ i < m + L2.length then m + ix L1 (L2.getD (i - m) 0) else i) (fun i => if m ≤ i ∧ i < m + L1.length then m + ix L2 (L1.getD (i - m) 0) else i)
    (fun i hi => hs L2 L1 h2.nd h1.nd (fun z => (hm z).symm) hlen.symm i hi) (fun i hi => by
      have := hs L1 L2 h1.nd h2.nd hm hlen i (by omega)
      rwa [hlen] at this ⊢) (fun i hi => ?_) (fun i hi => ?_)
  · exact hper
  · by_cases e : m ≤ i
    · obtain ⟨z, hz, rfl⟩ := cp_num h2.nd e hi
      have hz1 := (hm z).2 hz
      have hzl := ix_lt hz
      have hz1l := ix_lt hz1
      try simp only
      rw [if_pos ⟨by omega, by omega⟩, show m + ix L2 z - m = ix L2 z by omega, ix_get hz]
      simp only [Wd.ins]
      rw [if_neg (by omega), if_neg (by omega), (cp_new hz).1, (cp_new hz1).1, List.map_map]
      exact map_same (fun a ha => by
        simp only [Function.comp]
        exact (hcv a (h1.sub z hz1 a ha).1).symm)
    · try simp only
      rw [if_neg (by omega)]
      simp only [Wd.ins]
      by_cases ep : i = p
      · subst ep
        rw [if_pos rfl, if_pos rfl, List.map_append, List.map_append, List.map_map]
        have i1 : ∀ l : List Nat, (∀ y ∈ l, y < m) → l.map (fun i => if m ≤ i ∧ i < m + L1.length then m + ix L2 (L1.getD (i - m) 0) else i) = l := fun l hl => by
          conv => rhs; rw [← List.map_id l]
          exact map_same (fun y hy => hold y (hl y hy))
        rw [i1 A (fun y hy => hA y (.inl hy)), i1 Bk (fun y hy => hA y (.inr hy))]
        congr 2
        exact map_same (fun a ha => by
          simp only [Function.comp]
          exact (hcv a (h1.ws a (hw a ha))).symm)
      · rw [if_neg ep, if_neg ep, (cp_old L2 T2 (by omega)).1, (cp_old L1 T1 (by omega)).1]
        conv => lhs; rw [← List.map_id (G.kids i)]
        exact map_same (fun y hy => (hold y ((hG.lt i y hy).2)).symm)
  · have hmemR : ∀ (La : List Nat), (∀ z ∈ T1, z ∈ La) → ∀ z ∈ La, (m + ix La z ∈ ws.map fun v => m + ix La v) ↔ z ∈ ws := fun La hLa z hz => by
      constructor
      · intro h5
        obtain ⟨a, ha, e⟩ := List.mem_map.1 h5
        have := ix_inj (hLa a (hw a ha)) hz (by omega)
        rw [← this]; exact ha
      · intro h5; exact List.mem_map.2 ⟨z, h5, rfl⟩
    by_cases e : m ≤ i
    · obtain ⟨z, hz, rfl⟩ := cp_num h2.nd e hi
      have hz1 := (hm z).2 hz
      have hzl := ix_lt hz
      have hz1l := ix_lt hz1
      try simp only
      rw [if_pos ⟨by omega, by omega⟩, show m + ix L2 z - m = ix L2 z by omega, ix_get hz]
      simp only [Wd.ins]
      by_cases ez : z ∈ ws
      · rw [if_pos ((hmemR L2 (fun a ha => (hm a).1 (h1.ws a ha)) z hz).2 ez), if_pos ((hmemR L1 h1.ws z hz1).2 ez)]
        simp only [Option.map_some]
        rw [hold p hp]
      · rw [if_neg (fun h5 => ez ((hmemR L2 (fun a ha => (hm a).1 (h1.ws a ha)) z hz).1 h5)), if_neg (fun h5 => ez ((hmemR L1 h1.ws z hz1).1 h5)), (cp_new hz).2, (cp_new hz1).2]
        by_cases et : z ∈ T1
        · rw [if_pos et, if_pos ((hT z).1 et)]; rfl
        · rw [if_neg et, if_neg (fun h5 => et ((hT z).2 h5))]
          obtain ⟨q, hq, hqu⟩ := h1.up z hz1 et
          rw [hqu]
          simp only [Option.map_some]
          rw [hcv q hq]
    · try simp only
      rw [if_neg (by omega)]
      simp only [Wd.ins]
      rw [if_neg (fun h5 => by
        obtain ⟨a, ha, e2⟩ := List.mem_map.1 h5
        omega), if_neg (fun h5 => by
        obtain ⟨a, ha, e2⟩ := List.mem_map.1 h5
        omega), (cp_old L2 T2 (by omega)).2, (cp_old L1 T1 (by omega)).2]
      cases hu : G.up i with
      | none => rfl
      | some q =>
        simp only [Option.map_some]
        rw [hold q ((hG.lt q i ((hG.iff q i).2 hu)).1)]

end Go.Proofs.Ytoleejaabiafcaa

namespace Go.Proofs.Ytoleejaabiafcaa
open Go.RowKit
set_option linter.unusedVariables false
set_option linter.unusedSimpArgs false

def ManipManyPost (s B n : Nat) (nb : Nat → Nat) (n2 : Nat) (lab2 : Nat → NodeD) (G2 : Wd) (w0 : World) (e : Ending) (w' : World) : Prop := e = .returned (.pointer (some ⟨s, 0, none⟩)) ∧ ∃ nb2 v2, Hid (DomAt B w' n2 nb2 v2 lab2 G2) ∧ Hid (WOk n2 G2) ∧ Hid (∀ i, i < n → nb2 i = nb i) ∧ Hid (n ≤ n2) ∧ ∃ wm, Hid (Below w0.heap.size w0 wm) ∧ Hid (OnlyG n nb wm w')

theorem kids_lt {n : Nat} {F : Wd} (hF : WOk n F) {p : Nat} {A B : List Nat} (h : F.kids p = A ++ B) : ∀ y, y ∈ A ∨ y ∈ B → y < n := fun y hy => (hF.lt p y (by rw [h, List.mem_append]; exact hy)).2

theorem reverse_map_rev (f : Nat → Nat) (ws : List Nat) : (ws.reverse.map f).reverse = ws.map f := by rw [List.map_reverse, List.reverse_reverse]

/-- While copies are made and put: nb3 the document's numbers. -/
structure CopW (H n m : Nat) (nb nb3 : Nat → Nat) (lab' lab4 : Nat → NodeD) (Lk : List Nat) : Prop where
  old : ∀ q, q < n → nb3 q = nb q
  new : ∀ q, n ≤ q → q < m + Lk.length → H ≤ nb3 q
  lab : ∀ q, q < m → lab4 q = lab' q
  lab2 : ∀ q, q < Lk.length → lab4 (m + q) = lab' (Lk.getD q 0)

theorem CopW.step {H H2 n m : Nat} {nb nb3 nb5 : Nat → Nat} {lab' lab4 lab5 : Nat → NodeD} {Lk Ly : List Nat} {v3 v5 : Nat → Value} {F : Wd} (h : CopW H n m nb nb3 lab' lab4 Lk) (hH : H ≤ H2) (hnm : n ≤ m) (h2 : ClonedW H2 (m + Lk.length) nb3 v3 lab4 F Ly nb5 v5 lab5) (hy : ∀ z ∈ Ly, z < m) : CopW H n m nb nb5 lab' lab5 (Lk ++ Ly) := by
  refine ⟨fun q hq => ?_, fun q h1 h3 => ?_, fun q hq => ?_, fun q hq => ?_⟩
  · rw [(h2.old q (by omega)).1]; exact h.old q hq
  · rw [List.length_append] at h3
    by_cases e : q < m + Lk.length
    · rw [(h2.old q e).1]; exact h.new q h1 e
    · exact Nat.le_trans hH (h2.new q (by omega) (by omega))
  · rw [(h2.old q (by omega)).2.2]; exact h.lab q hq
  · rw [List.length_append] at hq
    by_cases e : q < Lk.length
    · rw [getD_app_left e, (h2.old _ (by omega)).2.2]; exact h.lab2 q e
    · have h5 := h2.lab (q - Lk.length) (by omega)
      have h6 : Ly.getD (q - Lk.length) 0 ∈ Ly := getD_mem' (by omega)
      rw [h.lab _ (hy _ h6)] at h5
      rw [getD_app_right (by omega), ← h5]
      congr 1
      omega

set_option maxRecDepth 100000 in
set_option maxHeartbeats 8000000 in
theorem manipMany_after {B n : Nat} {w0 w : World} {nb : Nat → Nat} {v : Nat → Value} {lab : Nat → NodeD} {F : Wd} (h : DomAt B w0 n nb v lab F) (hF : WOk n F) (s : Nat) (sv : Value) {xs ws : List Nat} (S : Nat) (hs : SelAt w0 s sv (xs.map nb) S) (hS : ∀ i, i < n → nb i < S) (hxs : ∀ x ∈ xs, x < n) (hx0 : 0 < xs.length) (hxl : xs.length ≤ 200)
    (nv : Value) (hb0 : Below w0.heap.size w0 w) (hns : w.ownsRow w0.heap.size 84 1 nv ws.length (ws.map fun y => ptrV (nb y))) (hws : ∀ y ∈ ws, y < n) (hnd : ws.Nodup) (hwl : ws.length ≤ 200) (hap : ApartW F ws xs) {L : List Nat} (hL : Fl F.kids ws L) {n2 : Nat} {lab2 : Nat → NodeD} {G2 : Wd} (hM : Many 3 ws L n2 lab2 G2 xs n lab F) (hfit : ∀ y, y < n → (lab y).attrs.length ≤ 100) (hB : B ≤ w0.heap.size) :
    Calls Try.prog 80 #[.pointer (some ⟨s, 0, none⟩), nv, .bool true, .func (.func 83) #[] #[]] w (ManipManyPost s B n nb n2 lab2 G2 w0) := by
  have hown : w0.ownsRow S 84 1 sv xs.length (xs.map fun y => ptrV (nb y)) := by
    have h1 := hs.own
    unfold OwnPtrs at h1
    rw [List.length_map, List.map_map] at h1
    exact h1
  have c00 := hs.nodes
  obtain ⟨sa, scap, rfl⟩ := ownsRow_slice hown
  obtain ⟨sg, rfl⟩ : ∃ sg, sa = some ⟨sg, 0, none⟩ := by
    rcases hown.2 with ⟨_, h2⟩ | ⟨g0, c0_, cur, hv_, _⟩
    · omega
    · simp at hv_; exact ⟨g0, hv_.1⟩
  have c0 := cell_below hb0 c00
  obtain ⟨na, ncap, ng, hnv, _, _, hn1, hn2, _, _⟩ := own_open hns
  subst hnv
  have hsgS := (World.ownsRow.lt hown sg rfl).1
  have hngS : 0 < ws.length → w0.heap.size ≤ ng := fun h0 => (World.ownsRow.lt hns ng (by rw [hn1 h0]; rfl)).1
  have hSw : S ≤ w0.heap.size := Nat.le_trans hs.base (Nat.le_of_lt (World.block_lt_of_cell? _ _ c00))
  have HCS := Lib.hid (own_nodes hown)
  have HSZ := Lib.hid (size_any s _ _ _ w c0)
  have HD := Lib.hid h
  have HF := Lib.hid hF
  have HS := Lib.hid (And.intro hS (And.intro hs.base (And.intro hsgS (And.intro hngS hSw))))
  have HB0 := Lib.hid hb0
  have HROW := Lib.hid hns
  have HNA := Lib.hid hn1
  have HW := Lib.hid (And.intro hws (And.intro hnd (And.intro hxs hap)))
  have HLL := Lib.hid (And.intro hL (apart_lone hap hnd))
  have HMY := Lib.hid hM
  have HW5 := Lib.hid (And.intro hfit hB)
  clear h hF hs hown hns hn1 hn2 hws hnd hxs hap hL hM hsgS hngS hS hb0 hSw hfit hB
  go_enter Try.func80, Try.ntmps80
  go_wp2_with fail
  refine HSZ.out.mono ?_
  rintro e w1 ⟨rfl, rfl⟩
  clear HSZ
  go_wp2
  go_loopw [10, 11] (fun iv jv wr => ∃ k : Nat, k ≤ ws.length ∧ iv = .int .i64 (k : Int) ∧ jv = .int .i64 ((ws.length : Int) - 1 - (k : Int)) ∧ Hid (Below w0.heap.size w0 wr) ∧ Hid (wr.ownsRow w0.heap.size 84 1 (.slice na ws.length ncap) ws.length ((List.range ws.length).map fun q => ptrV (nb (swp ws k q))))) (fun iv _ _ => ws.length - (intOf iv).toNat)
  case atStart =>
    refine ⟨0, by omega, by go_num, by go_num, HB0, Lib.hid ?_⟩
    have h1 := HROW.out
    rw [row_range] at h1
    have e : ((List.range ws.length).map fun q => ptrV (nb (swp ws 0 q))) = (List.range ws.length).map fun q => ptrV (nb (ws.getD q 0)) := List.map_congr_left (fun q hq => by rw [swp_zero (List.mem_range.1 hq)])
    rw [e]
    exact h1
  case round =>
    obtain ⟨k, hk, rfl, rfl, HBr, HRr⟩ := hrel
    by_cases hlt : 2 * k + 1 < ws.length
    · obtain ⟨J, hJ⟩ : ∃ J : Nat, ws.length - 1 - k = J := ⟨_, rfl⟩
      have hJI : (ws.length : Int) - 1 - (k : Int) = (J : Int) := by omega
      rw [hJI]
      have hkJ : (k : Int) < (J : Int) := by omega
      have hkm : (k : Int) < (ws.length : Int) := by omega
      have hJm : (J : Int) < (ws.length : Int) := by omega
      obtain rfl := HNA.out (by omega)
      have ck := row_cell (f := fun q => nb (swp ws k q)) HRr.out (i := k) (by omega)
      have cJ := row_cell (f := fun q => nb (swp ws k q)) HRr.out (i := J) (by omega)
      obtain ⟨b1, hb1⟩ : ∃ b1, nb (swp ws k k) = b1 := ⟨_, rfl⟩
      obtain ⟨b2, hb2⟩ : ∃ b2, nb (swp ws k J) = b2 := ⟨_, rfl⟩
      simp only [hb1] at ck
      simp only [hb2] at cJ
      have hne : k ≠ J := by omega
      have fk : wr.frozen? ⟨ng, k, none⟩ = false := World.ownsRow.frozenAt HRr.out k
      have fJ : wr.frozen? ⟨ng, J, none⟩ = false := World.ownsRow.frozenAt HRr.out J
      have HSW := Lib.hid (And.intro hJ (And.intro hb1 hb2))
      clear hJ hb1 hb2 hJI
      go_wp2
      go_region
      go_wp2
      obtain ⟨eJ, e1, e2⟩ := HSW.out
      have hown2 := ownsRow_set (ownsRow_set HRr.out (i := k) (by omega) (ptrV b2)) (i := J) (by omega) (ptrV b1)
      rw [rev_step2 hlt eJ e1 e2] at hown2
      have hJI2 : (J : Int) = (ws.length : Int) - 1 - (k : Int) := by omega
      refine ⟨?rel, ?measure⟩
      case rel => exact ⟨k + 1, by omega, by go_num, by go_num, Lib.hid (Below.setCell (Below.setCell HBr.out (HS.out.2.2.2.1 (by omega)) _) (HS.out.2.2.2.1 (by omega)) _).drew, Lib.hid (ownsRow_kept hown2 (fun _ _ => rfl))⟩
      case measure => simp [intOf]; omega
    · have hrow : wr.ownsRow w0.heap.size 84 1 (.slice na ws.length ncap) ws.reverse.length (ws.reverse.map fun y => ptrV (nb y)) := by
        have h1 := HRr.out
        rw [rev_end (by omega)] at h1
        rw [List.length_reverse]
        exact h1
      obtain ⟨V, hV⟩ : ∃ V, ws.reverse = V := ⟨_, rfl⟩
      have hVl : V.length = ws.length := by rw [← hV, List.length_reverse]
      have hVm : ∀ y, y ∈ V ↔ y ∈ ws := fun y => by rw [← hV]; exact List.mem_reverse
      have hVn : V.Nodup := by rw [← hV]; exact nodup_rev HW.out.2.1
      have hjf : decide ((k : Int) < (ws.length : Int) - 1 - (k : Int)) = false := by simp; omega
      rw [hV] at hrow
      have hVc : 0 < ws.length → ∀ i, i < V.length → wr.cell? ⟨ng, i, none⟩ = some (.pointer (some ⟨nb (V.getD i 0), 0, none⟩)) := fun h0 => by
        obtain rfl := HNA.out h0
        rw [← hVl] at hrow
        exact own_nodes hrow
      have hdm := HD.out.below HBr.out
      have c1 := cell_below HBr.out c00
      have hcs1 : ∀ i, i < xs.length → wr.cell? ⟨sg, i, none⟩ = some (.pointer (some ⟨nb (xs.getD i 0), 0, none⟩)) := fun i hi => cell_below HBr.out (HCS.out i hi)
      have HCS1 := Lib.hid hcs1
      have HVV := Lib.hid (And.intro hV (And.intro hVm (And.intro hVn hVc)))
      have HDM := Lib.hid hdm
      have HVL := Lib.hid hVl
      clear hV hVm hVn hVc hrow hdm c00 c0 HROW HCS hcs1 hlt
      obtain ⟨mm, hm⟩ : ∃ m, ws.length = m := ⟨_, rfl⟩
      have HM := Lib.hid hm
      rw [hm] at hk hwl hjf hVl ⊢
      clear hm hVl
      obtain ⟨XL, hXL⟩ : ∃ XL, xs.length = XL := ⟨_, rfl⟩
      have HXL := Lib.hid hXL
      rw [hXL] at c1 hxl hx0 ⊢
      have hXI : (0 : Int) < (XL : Int) := by omega
      clear hXL
      obtain ⟨wa, hwa⟩ : ∃ wa, wa = wr := ⟨_, rfl⟩
      subst hwa
      have hwas := HBr.out.size
      go_wp2
      go_loopw [49] (fun iv wq => ∃ (i m : Nat) (nb' : Nat → Nat) (v' : Nat → Value) (lab' : Nat → NodeD) (G : Wd), iv = .int .i64 (i : Int) ∧ i ≤ XL ∧ Hid (OnlyG n nb wa wq) ∧ Hid (DomAt B wq m nb' v' lab' G) ∧ Hid ((∀ q, q < n → nb' q = nb q) ∧ ∀ q, n ≤ q → q < m → wa.heap.size ≤ nb' q) ∧ Hid (n ≤ m) ∧ ((i < XL ∧ Hid (MidW n F L m G ∧ Many 3 ws L n2 lab2 G2 (xs.drop i) m lab' G ∧ ∀ q, q < n → lab' q = lab q)) ∨ (i = XL ∧ Hid (m = n2 ∧ G = G2 ∧ (∀ q, q < m → lab2 q = lab' q) ∧ WOk m G)))) (fun iv _ => XL - (intOf iv).toNat)
      case atStart => exact ⟨0, n, nb, v, lab, F, by go_num, by omega, Lib.hid (OnlyG.refl _ _ _), HDM, Lib.hid ⟨fun _ _ => rfl, fun q h1 h2 => by omega⟩, Lib.hid (Nat.le_refl _), .inl ⟨by omega, Lib.hid ⟨MidW.refl HF.out L, by rw [List.drop_zero]; exact HMY.out, fun _ _ => rfl⟩⟩⟩
      case round =>
        obtain ⟨i, m, nb', v', lab', G, rfl, hiX, HO, HDr, HNN, HNM, hcase⟩ := hrel
        have keep : ∀ (w' : World), OnlyG n nb wa w' → ∀ (q o : Nat) (z : Value), S ≤ q → wa.cell? ⟨q, o, none⟩ = some z → w'.cell? ⟨q, o, none⟩ = some z := fun w' ho q o z hq hz =>
          (World.cell?_of_block (ho.block q (World.block_lt_of_cell? _ _ hz) (fun i hi e => by have := HS.out.1 i hi; omega))).trans hz
        have HKEEP := Lib.hid keep
        clear keep
        rcases hcase with ⟨hlt, HMI⟩ | ⟨rfl, HFIN⟩
        · obtain ⟨hmid, hmany, hlabs⟩ := HMI.out
          obtain ⟨x, hx⟩ : ∃ x, xs.getD i 0 = x := ⟨_, rfl⟩
          have hltx : i < xs.length := by rw [HXL.out]; exact hlt
          have hxn : x < n := by rw [← hx]; exact HW.out.2.2.1 _ (getD_mem' hltx)
          have cx := HKEEP.out _ HO.out sg i _ HS.out.2.2.1 (HCS1.out i hltx)
          rw [hx] at cx
          have hanx : ∀ v ∈ ws, ¬ Anc F v x := fun v hv => by
            obtain ⟨k, hk, rfl⟩ := List.getElem_of_mem hv
            have := HW.out.2.2.2.on k i hk hltx
            rw [hx] at this
            simpa [List.getD, hk] using this
          have hnm := HNM.out
          have hiI : (i : Int) < (XL : Int) := by omega
          by_cases hlast : i + 1 < XL
          · obtain ⟨y0, r0, hd1, hd2⟩ := drop_two (xs := xs) (i := i) (by rw [HXL.out]; exact hlast)
            rw [hd1, hx] at hmany
            cases hmany with
            | @more _ _ p _ _ _ lab3 _ A0 B0 htg hl1 hl2 hrest =>
            obtain ⟨hpn, hpL, hpa⟩ := htg.parent HF.out hmid.up hxn HLL.out.1 hanx
            rw [← hd2] at hrest
            have HT := Lib.hid (And.intro htg (And.intro hpn (And.intro hpL (And.intro hl1 (And.intro hl2 hrest)))))
            have HMID := Lib.hid (And.intro hmid hlabs)
            have hq1 : ((i : Int) == (XL : Int) - 1) = false := by simp; omega
            have hq2 : ((i : Int) != (XL : Int) - 1) = true := by simp; omega
            clear htg hpn hpL hpa hl1 hl2 hrest hmid hlabs hd1 hd2 hx hanx hltx HMI
            go_wp2
            go_loopw [56] (fun jv wq2 => ∃ (k : Nat) (Lk : List Nat) (nb3 : Nat → Nat) (v3 : Nat → Value) (lab4 : Nat → NodeD), k ≤ mm ∧ jv = .int .i64 (k : Int) ∧ Hid (OnlyG n nb wa wq2) ∧ Hid (Fl F.kids (V.take k) Lk) ∧ Hid (DomAt B wq2 (m + Lk.length) nb3 v3 lab4 (cpA G m Lk (V.take k) p A0 B0)) ∧ Hid (WOk (m + Lk.length) (cpA G m Lk (V.take k) p A0 B0)) ∧ Hid (CopW wa.heap.size n m nb nb3 lab' lab4 Lk)) (fun jv _ => mm - (intOf jv).toNat)
            case atStart => exact ⟨0, [], nb', v', lab', by omega, by go_num, HO, Lib.hid (by rw [List.take_zero]; exact .nil), Lib.hid (by rw [List.take_zero, cpA_nil HT.out.1.1]; exact HDr.out), Lib.hid (by rw [List.take_zero, cpA_nil HT.out.1.1]; exact HMID.out.1.ok), Lib.hid ⟨HNN.out.1, fun q h1 h2 => HNN.out.2 q h1 (by simpa using h2), fun _ _ => rfl, fun q hq => absurd hq (Nat.not_lt_zero q)⟩⟩
            case round =>
              obtain ⟨k, Lk, nb3, v3, lab4, hk, rfl, HOk, HFk, HDk, HWk, HCW⟩ := hrel
              by_cases hlt2 : k < mm
              · have hmw := HM.out
                obtain rfl := HNA.out (by omega)
                have hVlt : k < V.length := by rw [HVL.out]; omega
                have ck := HKEEP.out _ HOk.out ng k _ (Nat.le_trans HS.out.2.2.2.2 (HS.out.2.2.2.1 (by omega))) (HVV.out.2.2.2 (by omega) k hVlt)
                have hyV : V.getD k 0 ∈ V := getD_mem' (d := 0) hVlt
                have hyw : V.getD k 0 ∈ ws := (HVV.out.2.1 _).1 hyV
                have hyn := HW.out.1 _ hyw
                have htk := take_snoc hVlt
                obtain ⟨y, hy⟩ : ∃ y, V.getD k 0 = y := ⟨_, rfl⟩
                rw [hy] at ck hyw hyn htk
                have hkI : (k : Int) < (mm : Int) := by omega
                obtain ⟨Ly, hLy⟩ := HF.out.flat y
                have hloneV : Lone F V := ⟨HVV.out.2.2.1, fun a ha b hb => HLL.out.2.2 a ((HVV.out.2.1 a).1 ha) b ((HVV.out.2.1 b).1 hb)⟩
                have hlone : Lone F (V.take k ++ [y]) := by
                  rw [← htk]
                  rw [← List.take_append_drop (k + 1) V] at hloneV
                  exact hloneV.sub
                have hsub : ∀ z, z ∈ Lk ∨ z ∈ Ly → z ∈ L := fun z hz => by
                  rcases hz with hz | hz
                  · obtain ⟨q, hq, hqa⟩ := (HFk.out.anc HF.out z).1 hz
                    exact (HLL.out.1.anc HF.out z).2 ⟨q, (HVV.out.2.1 q).1 (List.mem_of_mem_take hq), hqa⟩
                  · obtain ⟨q, hq, hqa⟩ := (hLy.anc HF.out z).1 hz
                    simp at hq
                    subst hq
                    exact (HLL.out.1.anc HF.out z).2 ⟨q, hyw, hqa⟩
                have hTn : ∀ u ∈ V.take k ++ [y], u < n := fun u hu => by
                  rw [← htk] at hu
                  exact HW.out.1 u ((HVV.out.2.1 u).1 (List.mem_of_mem_take hu))
                have hUm : ∀ r ∈ (V.take k).map (fun v => m + ix Lk v), m ≤ r ∧ r < m + Lk.length := fun r hr => by
                  obtain ⟨u, hu, rfl⟩ := List.mem_map.1 hr
                  have := ix_lt (L := Lk) (y := u) ((HFk.out.anc HF.out u).2 ⟨u, hu, .refl⟩)
                  omega
                obtain ⟨g1, g2, g3, g4, g5, g6, g7, g8⟩ := cpU_step HF.out HMID.out.1 (U := ((V.take k).map (fun v => m + ix Lk v)).reverse) hlone HFk.out hLy hsub hTn HT.out.2.1 HT.out.2.2.1 HT.out.1.1 (fun r hr => hUm r (List.mem_reverse.1 hr)) HWk.out
                have hcall := cloneNode_any Ly.length B wr (m + Lk.length) nb3 v3 lab4 _ y Ly HDk.out HWk.out (by omega) (hLy.congr (fun z hz => (g7 z hz).1)) (Nat.le_refl _) (fun z hz => by
                  have h1 := (g7 z hz).2
                  rw [HCW.out.lab z (by omega), HMID.out.2 z h1]
                  exact HW5.out.1 z h1) (Nat.le_trans HW5.out.2 (Nat.le_trans hwas HOk.out.size))
                rw [HCW.out.old y hyn] at hcall
                have HCALL := Lib.hid hcall
                have HG := Lib.hid (And.intro g2 (And.intro g3 (And.intro g4 (And.intro g5 (And.intro g6 (And.intro g7 g8))))))
                have HFL := Lib.hid (Fl.append HFk.out hLy)
                have HTK := Lib.hid htk
                clear hcall g1 g2 g3 g4 g5 g6 g7 g8 hLy hlone hloneV hsub hTn hUm hy hyV hmw hVlt htk
                go_wp2_with fail
                refine HCALL.out.mono ?_
                rintro e w3 ⟨nb5, v5, lab5, rfl, HC5, HD5, HB5⟩
                have hLp := HG.out.2.2.2.2.1
                have hx5 : nb5 x = nb x := by rw [(HC5.out.old x (by omega)).1]; exact HCW.out.old x hxn
                have hup5 : ((cpW G m (Lk ++ Ly) (V.take k ++ [y])).ins p A0 (((V.take k).map (fun v => m + ix Lk v)).reverse) B0).up x = G.up x := by
                  have hrx : x ∉ ((V.take k).map (fun v => m + ix Lk v)).reverse := fun hm2 => by
                    have hm3 : x ∈ (V.take k).map (fun v => m + ix Lk v) := List.mem_reverse.1 hm2
                    obtain ⟨u, _, e⟩ := List.mem_map.1 hm3
                    omega
                  simp only [Wd.ins]
                  rw [if_neg hrx, (cp_old _ _ (by omega)).2]
                have hkp5 : ((cpW G m (Lk ++ Ly) (V.take k ++ [y])).ins p A0 (((V.take k).map (fun v => m + ix Lk v)).reverse) B0).kids p = A0 ++ (((V.take k).map (fun v => m + ix Lk v)).reverse ++ B0) := by simp [Wd.ins]
                have hd5 := HD5.out
                unfold cpA at hd5
                have hg5 := HG.out.1
                have hu5 := HG.out.2.1
                rw [HG.out.2.2.1] at hd5 hg5 hu5
                have hfun : Calls Try.prog 83 #[.pointer (some ⟨nb5 x, 0, none⟩), .pointer (some ⟨nb5 (m + Lk.length), 0, none⟩)] w3 (TurnPost B (m + Lk.length + Ly.length) nb5 v5 lab5 (cpA G m (Lk ++ Ly) (V.take k ++ [y]) p A0 B0) w3) := by
                  obtain ⟨a0, ha0⟩ : ∃ a, A0 = a ++ [x] := by
                    rcases HT.out.1.2 with ⟨h1, _⟩ | ⟨_, _, h2⟩ | ⟨h1, _⟩
                    · omega
                    · exact h2
                    · omega
                  have hgx : G.up x = some p := by
                    rcases HT.out.1.2 with ⟨h1, _⟩ | ⟨_, h2, _⟩ | ⟨h1, _⟩
                    · omega
                    · exact h2
                    · omega
                  have h9 := fun_after (x := x) hd5 hg5 (by rw [hup5]; exact hgx) (by have := HT.out.2.1; omega) (by omega) (by have := HT.out.2.1; omega) hu5 (A := A0) (Bk := ((V.take k).map (fun v => m + ix Lk v)).reverse ++ B0) hkp5 ha0
                  rw [(show (((cpW G m (Lk ++ Ly) (V.take k ++ [y])).ins p A0 (((V.take k).map (fun v => m + ix Lk v)).reverse) B0).put p A0.length (m + Lk.length)) = cpA G m (Lk ++ Ly) (V.take k ++ [y]) p A0 B0 by rw [ins_put_front]; unfold cpA; rw [HG.out.2.2.2.1, List.reverse_append]; rfl)] at h9
                  exact h9
                rw [hx5] at hfun
                have hg8 := HG.out.2.2.2.2.2.2 A0.length
                have hwok : WOk (m + (Lk ++ Ly).length) (cpA G m (Lk ++ Ly) (V.take (k + 1)) p A0 B0) := by
                  rw [HTK.out, List.length_append, ← Nat.add_assoc, ← (show (((cpW G m (Lk ++ Ly) (V.take k ++ [y])).ins p A0 (((V.take k).map (fun v => m + ix Lk v)).reverse) B0).put p A0.length (m + Lk.length)) = cpA G m (Lk ++ Ly) (V.take k ++ [y]) p A0 B0 by rw [ins_put_front]; unfold cpA; rw [HG.out.2.2.2.1, List.reverse_append]; rfl)]
                  exact hg8
                have hcw : CopW wa.heap.size n m nb nb5 lab' lab5 (Lk ++ Ly) := HCW.out.step (Nat.le_trans (Nat.le_refl _) HOk.out.size) hnm HC5.out (fun z hz => by have := (HG.out.2.2.2.2.2.1 z hz).2; omega)
                have HWOK := Lib.hid hwok
                have HCW2 := Lib.hid hcw
                have HFUN := Lib.hid hfun
                have hnb5 : (∀ q, q < n → nb5 q = nb q) ∧ ∀ q, n ≤ q → q < m + Lk.length + Ly.length → wa.heap.size ≤ nb5 q := ⟨hcw.old, fun q h1 h2 => hcw.new q h1 (by rw [List.length_append]; omega)⟩
                have HNB5 := Lib.hid hnb5
                have HOB := Lib.hid (HOk.out.of_below HB5.out)
                clear hfun hwok hcw hnb5 hg8 hkp5 hup5 hx5 hd5 hg5 hu5 HCALL ck hLp
                go_wp2_with fail
                refine HFUN.out.mono ?_
                rintro e w4 ⟨rfl, hd4, ho4⟩
                have HO4 := Lib.hid (HOB.out.turn ho4.out HNB5.out.1 HNB5.out.2)
                have hd9 : DomAt B w4 (m + (Lk ++ Ly).length) nb5 v5 lab5 (cpA G m (Lk ++ Ly) (V.take (k + 1)) p A0 B0) := by
                  rw [HTK.out, List.length_append, ← Nat.add_assoc]
                  exact hd4.out
                have HD9 := Lib.hid hd9
                have HFL2 : Hid (Fl F.kids (V.take (k + 1)) (Lk ++ Ly)) := Lib.hid (by rw [HTK.out]; exact HFL.out)
                clear ho4 hd4 hd9 HFUN
                go_wp2
                refine ⟨?rel, ?measure⟩
                case rel => exact ⟨k + 1, Lk ++ Ly, nb5, v5, lab5, by omega, by go_num, HO4, HFL2, HD9, HWOK, HCW2⟩
                case measure => simp [intOf]; omega
              · obtain rfl : k = mm := by omega
                have htl : V.take k = V := List.take_of_length_le (by rw [HVL.out, HM.out]; exact Nat.le_refl _)
                have hdk := HDk.out
                have hwk := HWk.out
                have hfk := HFk.out
                rw [htl] at hdk hwk hfk
                have hres : ∃ nb6 v6, DomAt B wr (m + L.length) nb6 v6 lab3 ((cpW G m L ws).ins p A0 (ws.map fun v => m + ix L v) B0) ∧ (∀ q, q < n → nb6 q = nb q) ∧ ∀ q, n ≤ q → q < m + L.length → wa.heap.size ≤ nb6 q := by
                  have hfl := HLL.out.1
                  have hmem : ∀ z, z ∈ Lk ↔ z ∈ L := fun z => by
                    rw [hfk.anc HF.out z, hfl.anc HF.out z]
                    constructor
                    · rintro ⟨q, hq, h⟩; exact ⟨q, (HVV.out.2.1 q).1 hq, h⟩
                    · rintro ⟨q, hq, h⟩; exact ⟨q, (HVV.out.2.1 q).2 hq, h⟩
                  have hloneV : Lone F V := ⟨HVV.out.2.2.1, fun a ha b hb => HLL.out.2.2 a ((HVV.out.2.1 a).1 ha) b ((HVV.out.2.1 b).1 hb)⟩
                  have hcV := HMID.out.1.cp (cpOk_of HF.out hfl HLL.out.2 HW.out.1)
                  have hcK0 := cpOk_of HF.out hfk hloneV (fun u hu => HW.out.1 u ((HVV.out.2.1 u).1 hu))
                  have hcK : CpOk m G Lk V := ⟨hcK0.nd, fun z hz => by have := hcK0.lt z hz; omega, fun q hq z hz => hcK0.sub q hq z (by rwa [HMID.out.1.tree q ((hmem q).1 hq)] at hz), fun z hz hn => by rw [HMID.out.1.up z (hcK0.lt z hz)]; exact hcK0.up z hz hn, hcK0.ws⟩
                  have hlen : Lk.length = L.length := Nat.le_antisymm (nodup_sub_len hcK.nd (fun z hz => (hmem z).1 hz)) (nodup_sub_len hcV.nd (fun z hz => (hmem z).2 hz))
                  unfold cpA at hdk hwk
                  rw [← HVV.out.1, reverse_map_rev] at hdk hwk
                  rw [← HVV.out.1] at hcK
                  have hpm : p < m := by have := HT.out.2.1; omega
                  have hre := hdk.reorder HMID.out.1.ok hcK hcV hmem (fun z => List.mem_reverse) hlen (fun z hz => List.mem_reverse.2 hz) hpm HT.out.1.1 hwk (kids_lt HMID.out.1.ok HT.out.1.1)
                  refine ⟨_, _, hre.relab (fun q hq => ?_), fun q hq => ?_, fun q h1 h2 => ?_⟩
                  · try simp only
                    by_cases e : m ≤ q
                    · obtain ⟨z, hz, rfl⟩ := cp_num hcV.nd e hq
                      have hz1 := (hmem z).2 hz
                      have l1 := ix_lt hz
                      have l2 := ix_lt hz1
                      rw [if_pos ⟨by omega, by omega⟩, show m + ix L z - m = ix L z by omega, ix_get hz, HT.out.2.2.2.2.1 _ l1, ix_get hz, HCW.out.lab2 _ l2, ix_get hz1]
                    · rw [if_neg (by omega), HT.out.2.2.2.1 q (by omega), HCW.out.lab q (by omega)]
                  · try simp only
                    rw [if_neg (by omega)]
                    exact HCW.out.old q hq
                  · try simp only
                    by_cases e : m ≤ q
                    · obtain ⟨z, hz, rfl⟩ := cp_num hcV.nd e h2
                      have hz1 := (hmem z).2 hz
                      have l2 := ix_lt hz1
                      rw [if_pos ⟨by omega, by omega⟩, show m + ix L z - m = ix L z by omega, ix_get hz]
                      exact HCW.out.new _ (by omega) (by omega)
                    · rw [if_neg (by omega)]
                      exact HCW.out.new q h1 (by omega)
                obtain ⟨nb6, v6, hd6, ho6, hn6⟩ := hres
                have hcpo := cpOk_of HF.out HLL.out.1 HLL.out.2 HW.out.1
                have hmid6 := HMID.out.1.step HF.out hcpo HW.out.2.1 HT.out.2.1 HT.out.2.2.1 HT.out.1.1
                have HD6 := Lib.hid hd6
                have HON6 := Lib.hid (And.intro ho6 hn6)
                have HMI6 : Hid (MidW n F L (m + L.length) ((cpW G m L ws).ins p A0 (ws.map fun v => m + ix L v) B0) ∧ Many 3 ws L n2 lab2 G2 (xs.drop (i + 1)) (m + L.length) lab3 ((cpW G m L ws).ins p A0 (ws.map fun v => m + ix L v) B0) ∧ ∀ q, q < n → lab3 q = lab q) := Lib.hid ⟨hmid6, HT.out.2.2.2.2.2, fun q hq => by rw [HT.out.2.2.2.1 q (by omega)]; exact HMID.out.2 q hq⟩
                clear hd6 ho6 hn6 hmid6 hcpo hdk hwk hfk htl
                go_wp2
                refine ⟨?rel, ?measure⟩
                case rel => exact ⟨i + 1, m + L.length, nb6, v6, lab3, _, by go_num, by omega, HOk, HD6, HON6, Lib.hid (by omega), .inl ⟨by omega, HMI6⟩⟩
                case measure => simp [intOf]; omega
          · have hdrop := drop_one (xs := xs) (i := i) (by rw [HXL.out]; omega)
            rw [hdrop, hx] at hmany
            cases hmany with
            | @last _ p _ _ _ A0 B0 htg hmn hl1 hG2 =>
            obtain ⟨hpn, hpL, hpa⟩ := htg.parent HF.out hmid.up hxn HLL.out.1 hanx
            have hxw : x ∉ ws := fun hm => hanx x hm .refl
            have hancG : ∀ v ∈ ws, ¬ Anc G v p := fun v hv ha => hpa v hv ((anc_same HF.out hmid.up hpn).1 ha)
            have HT := Lib.hid (And.intro htg (And.intro hpn (And.intro hancG (And.intro hl1 (And.intro hG2 (And.intro hmn hxw))))))
            have HMID := Lib.hid (And.intro hmid hlabs)
            have hi1 : (i : Int) = (XL : Int) - 1 := by omega
            have hq1 : ((i : Int) == (XL : Int) - 1) = true := by simp; omega
            have hq2 : ((i : Int) != (XL : Int) - 1) = false := by simp; omega
            clear htg hpn hpL hpa hl1 hG2 hmn hmid hlabs hdrop hx hanx hltx HMI hancG hxw hi1
            go_wp2
            go_loopw [56] (fun jv wq2 => ∃ k : Nat, k ≤ mm ∧ jv = .int .i64 (k : Int) ∧ Hid (OnlyG n nb wa wq2) ∧ Hid (DomAt B wq2 m nb' v' lab' (mvA G p A0 B0 (V.take k))) ∧ Hid (WOk m (mvA G p A0 B0 (V.take k)))) (fun jv _ => mm - (intOf jv).toNat)
            case atStart => exact ⟨0, by omega, by go_num, HO, Lib.hid (by rw [List.take_zero, mvA_nil HT.out.1.1]; exact HDr.out), Lib.hid (by rw [List.take_zero, mvA_nil HT.out.1.1]; exact HMID.out.1.ok)⟩
            case round =>
              obtain ⟨k, hk, rfl, HOk, HDk, HWk⟩ := hrel
              by_cases hlt2 : k < mm
              · have hmw := HM.out
                obtain rfl := HNA.out (by omega)
                have hVlt : k < V.length := by rw [HVL.out]; omega
                have ck := HKEEP.out _ HOk.out ng k _ (Nat.le_trans HS.out.2.2.2.2 (HS.out.2.2.2.1 (by omega))) (HVV.out.2.2.2 (by omega) k hVlt)
                have hyV : V.getD k 0 ∈ V := getD_mem' (d := 0) hVlt
                have hyw : V.getD k 0 ∈ ws := (HVV.out.2.1 _).1 hyV
                have hyn0 := HW.out.1 _ hyw
                have htk := take_snoc hVlt
                have hyT : V.getD k 0 ∉ V.take k := fun hm => by
                  have h4 := HVV.out.2.2.1
                  rw [← List.take_append_drop k V, List.nodup_append] at h4
                  refine h4.2.2 _ hm _ ?_ rfl
                  rw [List.drop_eq_getElem_cons hVlt, List.getD_eq_getElem?_getD, List.getElem?_eq_getElem hVlt]
                  exact List.mem_cons_self ..
                obtain ⟨y, hy⟩ : ∃ y, V.getD k 0 = y := ⟨_, rfl⟩
                rw [hy] at ck hyw hyn0 htk hyT
                have hyn : y < m := by omega
                have hkI : (k : Int) < (mm : Int) := by omega
                have hpm : p < m := by have := HT.out.2.1; omega
                have hxm : x < m := by omega
                obtain ⟨m1, m2, m3, m4, m5, m6⟩ := mvA_step HMID.out.1.ok hpm HT.out.1.1 (T := V.take k) (W := ws) (fun q hq => (HVV.out.2.1 _).1 (List.mem_of_mem_take hq)) HT.out.2.2.1 hyw hyT hyn HWk.out
                rw [← htk] at m6
                have hxw := HT.out.2.2.2.2.2.2
                have hxy : x ≠ y := fun e => hxw (by rw [e]; exact hyw)
                have hxT : x ∉ V.take k := fun hm => hxw ((HVV.out.2.1 _).1 (List.mem_of_mem_take hm))
                have hupx : ((mvA G p A0 B0 (V.take k)).cut y).up x = G.up x := by
                  simp only [Wd.cut, mvA, Wd.ins, Wd.off, if_neg hxy, List.mem_reverse, if_neg hxT]
                obtain ⟨a0, ha0⟩ : ∃ a, A0 = a ++ [x] := by
                  rcases HT.out.1.2 with ⟨h1, _⟩ | ⟨_, _, h2⟩ | ⟨h1, _⟩
                  · omega
                  · exact h2
                  · omega
                have hgx : G.up x = some p := by
                  rcases HT.out.1.2 with ⟨h1, _⟩ | ⟨_, h2, _⟩ | ⟨h1, _⟩
                  · omega
                  · exact h2
                  · omega
                have hA1 : offL (V.take k ++ [y]) A0 = offL (V.take k ++ [y]) a0 ++ [x] := by
                  rw [ha0, offL_append, offL_keep (fun hm => by rcases List.mem_append.1 hm with h | h; exact hxT h; simp at h; exact hxy h)]
                have hfun : ∀ wq, DomAt B wq m nb' v' lab' ((mvA G p A0 B0 (V.take k)).cut y) → Calls Try.prog 83 #[.pointer (some ⟨nb' x, 0, none⟩), .pointer (some ⟨nb' y, 0, none⟩)] wq (TurnPost B m nb' v' lab' (mvA G p A0 B0 (V.take (k + 1))) wq) := fun wq hd => by
                  have h9 := fun_after (x := x) hd m1 (by rw [hupx]; exact hgx) hpm hyn m3 m2 m4 hA1
                  rwa [m5, ← htk] at h9
                clear hA1 ha0 hgx
                have c0y := (HDk.out.node y hyn).par
                have hny : nb' y = nb y := HNN.out.1 y hyn0
                have hnx : nb' x = nb x := HNN.out.1 x hxn
                rw [hny] at c0y
                rw [hny, hnx] at hfun
                have HFUN := Lib.hid hfun
                have HM6 := Lib.hid m6
                clear hupx hxy hxT hmw hyV hVlt hxw
                cases hu : (mvA G p A0 B0 (V.take k)).up y with
                | none =>
                  have e0 : (linkR (mvA G p A0 B0 (V.take k)) nb' (lab' y) (v' y) y).par = none := by simp [linkR, hu]
                  rw [e0, lk_none] at c0y
                  have HC := Lib.hid (hfun _ (by rw [HWk.out.cut_none hu]; exact HDk.out))
                  clear hfun e0 hu m1 m2 m3 m4 m5 m6 hy htk hyT hyw hny hnx
                  go_wp2_with fail
                  refine HC.out.mono ?_
                  rintro e w3 ⟨rfl, hd3, ho3⟩
                  have HO3 := Lib.hid (HOk.out.turn ho3.out HNN.out.1 HNN.out.2)
                  clear ho3 HC ck c0y
                  go_wp2
                  refine ⟨?rel, ?measure⟩
                  case rel => exact ⟨k + 1, by omega, by go_num, HO3, hd3, HM6⟩
                  case measure => simp [intOf]; omega
                | some q =>
                  have e0 : (linkR (mvA G p A0 B0 (V.take k)) nb' (lab' y) (v' y) y).par = some (nb' q) := by simp [linkR, hu]
                  rw [e0, lk_some] at c0y
                  have hrc := removeChild_any HDk.out HWk.out hu
                  rw [hny] at hrc
                  have HRC := Lib.hid hrc
                  clear hfun e0 hu m1 m2 m3 m4 m5 m6 hy htk hyT hyw hny hnx hrc
                  go_wp2_with fail
                  refine HRC.out.mono ?_
                  rintro e w2 ⟨rfl, hd2, ho2⟩
                  have HC := Lib.hid (HFUN.out w2 hd2.out)
                  have HO2 := Lib.hid (HOk.out.turn ho2.out HNN.out.1 HNN.out.2)
                  clear ho2 HRC ck c0y
                  go_wp2_with fail
                  refine HC.out.mono ?_
                  rintro e w3 ⟨rfl, hd3, ho3⟩
                  have HO3 := Lib.hid (HO2.out.turn ho3.out HNN.out.1 HNN.out.2)
                  clear ho3 HC
                  go_wp2
                  refine ⟨?rel, ?measure⟩
                  case rel => exact ⟨k + 1, by omega, by go_num, HO3, hd3, HM6⟩
                  case measure => simp [intOf]; omega
              · obtain rfl : k = mm := by omega
                have hd := HDk.out
                have hw := HWk.out
                rw [List.take_of_length_le (by rw [HVL.out, HM.out]; exact Nat.le_refl _)] at hd hw
                rw [← HVV.out.1, mvA_end] at hd hw
                have hfin : m = n2 ∧ mv G p A0 B0 ws = G2 ∧ (∀ q, q < m → lab2 q = lab' q) ∧ WOk m (mv G p A0 B0 ws) := ⟨HT.out.2.2.2.2.2.1.symm, HT.out.2.2.2.2.1.symm, HT.out.2.2.2.1, hw⟩
                have HD9 := Lib.hid hd
                have HFIN := Lib.hid hfin
                clear hd hw hfin
                go_wp2
                refine ⟨?rel, ?measure⟩
                case rel => exact ⟨i + 1, m, nb', v', lab', _, by go_num, by omega, HOk, HD9, HNN, HNM, .inr ⟨by omega, HFIN⟩⟩
                case measure => simp [intOf]; omega
        · have hres : DomAt B wr n2 nb' v' lab2 G2 ∧ WOk n2 G2 := by
            obtain ⟨h1, h2, h3, h4⟩ := HFIN.out
            subst h1 h2
            exact ⟨HDr.out.relab h3, h4⟩
          have hle : n ≤ n2 := by have := HFIN.out.1; have := HNM.out; omega
          have HRES := Lib.hid hres
          have HLE := Lib.hid hle
          clear hres hle
          go_wp2
          go_ret
          exact ⟨rfl, nb', v', Lib.hid HRES.out.1, Lib.hid HRES.out.2, Lib.hid HNN.out.1, HLE, _, HBr, HO⟩


end Go.Proofs.Ytoleejaabiafcaa

