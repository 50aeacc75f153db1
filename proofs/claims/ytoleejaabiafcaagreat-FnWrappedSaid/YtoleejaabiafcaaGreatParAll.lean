/- Kinds of nodes that are no elements. A map from nodes to bools that the call has made: made, asked, stored into. A set of nodes: made with a hint, kept, its members by places. The parents of places, those that are elements. Plain: no program. goquery.getParentNodes. goquery's Selection.Parent; impl.ParentOf. -/
import Derived.Test.YtoleejaabiafcaaGreatAloneAll
import Derived.Test.YtoleejaabiafcaaGreatBaseAll
import Derived.Test.YtoleejaabiafcaaGreatPtrAll
import Derived.LaidEqlPtr
import Derived.Maps.OwnOps
import Derived.Maps.OwnSet
import Derived.ChangeMaps5
import Derived.Test.YtoleejaabiafcaaGreatOnceF
import Derived.Test.YtoleejaabiafcaaGreatSegAll
import Derived.Test.YtoleejaabiafcaaGreatRightAll
namespace Go.Proofs.YtoleejaabiafcaaGreat
set_option linter.unusedVariables false
set_option linter.unusedSimpArgs false

theorem tyOf_ne {q : Int} (h : q = 1 ∨ q = 2 ∨ q = 4 ∨ q = 5) : tyOf q ≠ 3 := by
  rcases h with rfl | rfl | rfl | rfl <;> simp [tyOf]

end Go.Proofs.YtoleejaabiafcaaGreat

namespace Go.Proofs.YtoleejaabiafcaaGreat
open Go.RowKit
open Go.ChangeMaps (setBlock heap_setBlock_same heap_setBlock_other)
set_option linter.unusedVariables false
set_option linter.unusedSimpArgs false

/-- The pointer to a block. -/
def ptrB (p : Nat) : Value := .pointer (some ⟨p, 0, none⟩)

theorem ptrB_inj {p q : Nat} (h : ptrB p = ptrB q) : p = q := by
  simp [ptrB] at h
  exact h

/-- Block b is a map whose keys are the blocks of l, each true. -/
def PSet (w : World) (b : Nat) (l : List Nat) : Prop :=
  ∃ es clock, w.heap[b]? = some (.map es clock) ∧ (∀ e ∈ es.toList, ∃ p ∈ l, e.key = ptrB p ∧ e.val = .bool true) ∧ ∀ p ∈ l, ∃ e ∈ es.toList, e.key = ptrB p

theorem PSet.made (w : World) : PSet (w.alloc (.map #[] 0)) w.heap.size [] :=
  ⟨#[], 0, heap_alloc_new _ _, by simp, by simp⟩

theorem PSet.lt {w : World} {b : Nat} {l : List Nat} (h : PSet w b l) : b < w.heap.size := by
  obtain ⟨es, clock, h, _⟩ := h
  exact (Array.getElem?_eq_some_iff.1 h).1

theorem PSet.below {w w' : World} {b : Nat} {l : List Nat} (h : PSet w b l) (hb : Below w.heap.size w w') : PSet w' b l := by
  have hl := h.lt
  obtain ⟨es, clock, h, r⟩ := h
  exact ⟨es, clock, (hb.block b hl).trans h, r⟩

theorem run_findAsking_ptr {P : Program} {k te : TypeId} {j : TypeInfo} {w : World} (hk : P.underlying k = some (.pointer te)) (hte : P.info? te = some j) (hsz : j.size ≠ 0) {p : Nat} (hp : Alive w p) :
    ∀ (es : List MapEntry) (i : Nat), (∀ e ∈ es, ∃ q, e.key = ptrB q ∧ Alive w q) →
      ((Instr.findAsking k (ptrB p) es i).run P w = .ok none w ∧ ∀ e ∈ es, e.key ≠ ptrB p) ∨ ∃ m e, (Instr.findAsking k (ptrB p) es i).run P w = .ok (some (i + m, e.val)) w ∧ es[m]? = some e ∧ e.key = ptrB p
  | [], i, _ => .inl ⟨rfl, by simp⟩
  | e :: es, i, hes => by
    obtain ⟨q, hq, haq⟩ := hes e (by simp)
    by_cases hpq : p = q
    · subst hpq
      refine .inr ⟨0, e, ?_, rfl, hq⟩
      have h1 : (Op.equal k (ptrB p) e.key).run P w = .ok true w := by
        rw [hq]
        have h : ∀ d : Nat, (Op.equalIn (d + 1) k (ptrB p) (ptrB p)).run P w = .ok true w := fun d => by
          simp [ptrB, Op.equalIn, run_underlying hk, sizeOf, typeInfo, hte, run_sameAddr_same]
        exact h 9999
      simp [Instr.findAsking, h1]
    · have h1 : (Op.equal k (ptrB p) e.key).run P w = .ok false w := by
        rw [hq]
        obtain ⟨ca, ta, ha⟩ := hp
        obtain ⟨cb, tb, hb⟩ := haq
        have hne : (⟨p, 0, none⟩ : Addr) ≠ ⟨q, 0, none⟩ := fun e => hpq (by cases e; rfl)
        have h : ∀ d : Nat, (Op.equalIn (d + 1) k (ptrB p) (ptrB q)).run P w = .ok false w := fun d => by
          simp [ptrB, Op.equalIn, run_underlying hk, sizeOf, typeInfo, hte, hsz, run_sameAddr_other w hne ha hb]
        exact h 9999
      have ih := run_findAsking_ptr hk hte hsz hp es (i + 1) (fun e he => hes e (by simp [he]))
      rcases ih with ⟨h2, h3⟩ | ⟨m, e', h2, h3, h4⟩
      · refine .inl ⟨by simp [Instr.findAsking, h1, h2], ?_⟩
        intro e'' he''
        rcases List.mem_cons.1 he'' with rfl | he''
        · rw [hq]; exact fun h => hpq (ptrB_inj h).symm
        · exact h3 e'' he''
      · refine .inr ⟨m + 1, e', ?_, h3, h4⟩
        simp [Instr.findAsking, h1, h2]
        omega

theorem run_findKey_ptr {P : Program} {k te : TypeId} {j : TypeInfo} {w : World} (hk : P.underlying k = some (.pointer te)) (hte : P.info? te = some j) (hsz : j.size ≠ 0) {p : Nat} (hp : Alive w p)
    (es : List MapEntry) (hes : ∀ e ∈ es, ∃ q, e.key = ptrB q ∧ Alive w q) :
      ((Instr.findKey k (ptrB p) es).run P w = .ok none w ∧ ∀ e ∈ es, e.key ≠ ptrB p) ∨ ∃ m e, (Instr.findKey k (ptrB p) es).run P w = .ok (some (m, e.val)) w ∧ es[m]? = some e ∧ e.key = ptrB p := by
  cases es with
  | nil => exact .inl ⟨by simp [Instr.findKey, run_underlying hk, Instr.findNow], by simp⟩
  | cons e es =>
    have h0 : Instr.findNow (.pointer te) (ptrB p) (e :: es) 0 = none := by simp [Instr.findNow, Instr.sameNow]
    have h := run_findAsking_ptr hk hte hsz hp (e :: es) 0 hes
    rcases h with ⟨h1, h2⟩ | ⟨m, e', h1, h2, h3⟩
    · exact .inl ⟨by simp [Instr.findKey, run_underlying hk, h0, h1], h2⟩
    · exact .inr ⟨m, e', by simp [Instr.findKey, run_underlying hk, h0, h1], h2, h3⟩

theorem run_checkKey_ptr {P : Program} {k te : TypeId} {w : World} (hk : P.underlying k = some (.pointer te)) (c : Bool) (v : Value) : (Instr.checkKey c 10000 k v).run P w = .ok () w := by
  have h : ∀ d : Nat, (Instr.checkKey c (d + 1) k v).run P w = .ok () w := fun d => by
    simp [Instr.checkKey, run_underlying hk]
  exact h 9999

section
variable {P : Program} {t k te e : TypeId} {j : TypeInfo} {w : World} {b p : Nat} {l : List Nat}

/-- It is asked. -/
theorem PSet.look (h : PSet w b l) (ht : P.underlying t = some (.map k e)) (hk : P.underlying k = some (.pointer te)) (hte : P.info? te = some j) (hsz : j.size ≠ 0) (hz : (zeroValue e).run P w = .ok (.bool false) w)
    (hp : Alive w p) (hl : ∀ q ∈ l, Alive w q) : (Instr.lookup t (.map (some b)) (ptrB p) false).run P w = .ok (.bool (decide (p ∈ l))) w := by
  obtain ⟨es, clock, hb, h1, h2⟩ := h
  have hes : ∀ e ∈ es.toList, ∃ q, e.key = ptrB q ∧ Alive w q := fun e he => by
    obtain ⟨q, hq, hk, _⟩ := h1 e he
    exact ⟨q, hk, hl q hq⟩
  rcases run_findKey_ptr hk hte hsz hp es.toList hes with ⟨hf, hn⟩ | ⟨m, e0, hf, hm, hke⟩
  · have hno : p ∉ l := fun hp => by
      obtain ⟨e0, he0, hk0⟩ := h2 p hp
      exact hn e0 he0 hk0
    simp [Instr.lookup, run_underlying ht, MapKept.run_getObj_map hb, Result.andThen, run_checkKey_ptr hk, hf, hz, hno]
  · have he0 : e0 ∈ es.toList := List.mem_of_getElem? hm
    obtain ⟨q, hq, hk0, hv0⟩ := h1 e0 he0
    have : q = p := ptrB_inj (hk0.symm.trans hke)
    subst this
    simp [Instr.lookup, run_underlying ht, MapKept.run_getObj_map hb, Result.andThen, run_checkKey_ptr hk, hf, hv0, hq]

/-- It is stored into. -/
theorem PSet.store (h : PSet w b l) (ht : P.underlying t = some (.map k e)) (hk : P.underlying k = some (.pointer te)) (hte : P.info? te = some j) (hsz : j.size ≠ 0)
    (hp : Alive w p) (hl : ∀ q ∈ l, Alive w q) : ∃ w', (Instr.mapUpdate t (.map (some b)) (ptrB p) (.bool true)).run P w = .ok () w' ∧ PSet w' b (p :: l) ∧ w.grownBy w' (some b) := by
  obtain ⟨es, clock, hb, h1, h2⟩ := h
  have hes : ∀ e ∈ es.toList, ∃ q, e.key = ptrB q ∧ Alive w q := fun e he => by
    obtain ⟨q, hq, hk, _⟩ := h1 e he
    exact ⟨q, hk, hl q hq⟩
  have hgrow : ∀ es' clock', w.grownBy (setBlock w b (.map es' clock')) (some b) := fun es' clock' =>
    ⟨rfl, rfl, rfl, by simp [setBlock], fun i _ hi => heap_setBlock_other hb _ (fun e => hi (by rw [e]))⟩
  rcases run_findKey_ptr hk hte hsz hp es.toList hes with ⟨hf, hn⟩ | ⟨m, e0, hf, hm, hke⟩
  · refine ⟨setBlock w b (.map (es.push { key := ptrB p, val := .bool true, born := clock }) (clock + 1)), ?_, ⟨_, _, heap_setBlock_same hb _, ?_, ?_⟩, hgrow _ _⟩
    · simp [Instr.mapUpdate, run_underlying ht, MapKept.run_getObj_map hb, run_checkKey_ptr hk, hf, MapKept.run_setObj_map _ hb, Result.andThen, setBlock]
    · intro e1 he1
      simp only [Array.toList_push, List.mem_append, List.mem_singleton] at he1
      rcases he1 with he1 | rfl
      · obtain ⟨q, hq, r⟩ := h1 e1 he1
        exact ⟨q, by simp [hq], r⟩
      · exact ⟨p, by simp, rfl, rfl⟩
    · intro q hq
      rcases List.mem_cons.1 hq with rfl | hq
      · exact ⟨_, by simp; exact .inr rfl, rfl⟩
      · obtain ⟨e1, he1, hk1⟩ := h2 q hq
        exact ⟨e1, by simp [Array.mem_toList_iff.1 he1], hk1⟩
  · have he0 : e0 ∈ es.toList := List.mem_of_getElem? hm
    obtain ⟨q, hq, hk0, hv0⟩ := h1 e0 he0
    have : q = p := ptrB_inj (hk0.symm.trans hke)
    subst this
    have hm' : es[m]? = some e0 := by simpa using hm
    refine ⟨setBlock w b (.map (es.modify m fun e => { e with key := ptrB q, val := .bool true }) clock), ?_, ⟨_, _, heap_setBlock_same hb _, ?_, ?_⟩, hgrow _ _⟩
    · have hst : (Instr.keyThatStays (ptrB q) (ptrB q)).run P w = .ok (ptrB q) w := by simp [Instr.keyThatStays, Instr.sameBits, ptrB]
      simp [Instr.mapUpdate, run_underlying ht, MapKept.run_getObj_map hb, run_checkKey_ptr hk, hf, MapKept.run_setObj_map _ hb, Result.andThen, setBlock, hm', hke, hst]
    · intro e1 he1
      obtain ⟨i, hi, rfl⟩ := List.getElem_of_mem he1
      simp only [Array.getElem_toList, Array.getElem_modify]
      split
      · exact ⟨q, by simp, rfl, rfl⟩
      · have hmem : es[i]'(by simpa using hi) ∈ es.toList := by simp
        obtain ⟨q', hq', r⟩ := h1 _ hmem
        exact ⟨q', by simp [hq'], r⟩
    · intro q' hq'
      have hq1 : q' ∈ l := by
        rcases List.mem_cons.1 hq' with rfl | h
        · exact hq
        · exact h
      obtain ⟨e1, he1, hk1⟩ := h2 q' hq1
      obtain ⟨i, hi, rfl⟩ := List.getElem_of_mem he1
      have hi' : i < (es.modify m fun e => { e with key := ptrB q, val := .bool true }).size := by simpa using hi
      refine ⟨(es.modify m fun e => { e with key := ptrB q, val := .bool true })[i], Array.mem_toList_iff.2 (Array.getElem_mem hi'), ?_⟩
      rw [Array.getElem_modify]
      split
      · rename_i hmi
        subst hmi
        have : es[m]'(by simpa using hi) = e0 := by
          have := Array.getElem?_eq_getElem (xs := es) (i := m) (by simpa using hi)
          rw [hm'] at this
          cases this; rfl
        have hk1' : e0.key = ptrB q' := by rw [← this]; simpa using hk1
        show ptrB q = ptrB q'
        rw [← hk0, hk1']
      · simpa using hk1
end

end Go.Proofs.YtoleejaabiafcaaGreat

namespace Go.Proofs.YtoleejaabiafcaaGreat
open Go.RowKit
set_option linter.unusedVariables false
set_option linter.unusedSimpArgs false

theorem run_makeMap_hint {P : Program} {t k e : TypeId} (ht : P.underlying t = some (.map k e)) (n : Int) (w : World) : (Instr.makeMap t (some (.int .i64 n))).run P w = .ok (.map (some w.heap.size)) (w.alloc (.map #[] 0)) := by
  simp [Instr.makeMap, run_underlying ht, asInt]
  rfl

theorem PSet.keep {w w' : World} {b : Nat} {l : List Nat} (h : PSet w b l) (hb : w'.heap[b]? = w.heap[b]?) : PSet w' b l := by
  obtain ⟨es, clock, h, r⟩ := h
  exact ⟨es, clock, hb.trans h, r⟩
theorem PSet.congr {w : World} {b : Nat} {l l' : List Nat} (h : PSet w b l) (hl : ∀ p, p ∈ l ↔ p ∈ l') : PSet w b l' := by
  obtain ⟨es, clock, h, h1, h2⟩ := h
  refine ⟨es, clock, h, fun e he => ?_, fun p hp => h2 p ((hl p).2 hp)⟩
  obtain ⟨p, hp, r⟩ := h1 e he
  exact ⟨p, (hl p).1 hp, r⟩

theorem mem_nb {nb : Nat → Nat} {len p : Nat} {D : List Nat} (hinj : ∀ i j, i < len → j < len → nb i = nb j → i = j) (hp : p < len) (hD : ∀ i ∈ D, i < len) : decide (nb p ∈ D.map nb) = decide (p ∈ D) := by
  congr 1
  apply propext
  constructor
  · intro h
    obtain ⟨q, hq, he⟩ := List.mem_map.1 h
    have := hinj q p (hD q hq) hp he
    subst this
    exact hq
  · intro h; exact List.mem_map_of_mem h

end Go.Proofs.YtoleejaabiafcaaGreat

namespace Go.Proofs.YtoleejaabiafcaaGreat
open Go.RowKit
set_option linter.unusedVariables false
set_option linter.unusedSimpArgs false

/-- The parent that is an element. -/
def parEl (ts : List NodeD) (x : Nat) : Option Nat := match par (sz ts) x with | some p => if kd ts p = 3 then some p else none | none => none

theorem parEl_none {ts : List NodeD} {x : Nat} (h : par (sz ts) x = none) : parEl ts x = none := by unfold parEl; rw [h]
theorem parEl_some {ts : List NodeD} {x p : Nat} (h : par (sz ts) x = some p) : parEl ts x = if kd ts p = 3 then some p else none := by unfold parEl; rw [h]

def parList (ts : List NodeD) (l : List Nat) : List Nat := l.filterMap (parEl ts)

theorem parList_take {ts : List NodeD} {l : List Nat} {k : Nat} (hk : k < l.length) : parList ts (l.take (k + 1)) = parList ts (l.take k) ++ (parEl ts (l.getD k 0)).toList := by
  unfold parList
  rw [take_snoc hk, List.filterMap_append]
  congr 1

theorem parList_skip {ts : List NodeD} {l : List Nat} {k : Nat} (hk : k < l.length) (h : parEl ts (l.getD k 0) = none) : parList ts (l.take (k + 1)) = parList ts (l.take k) := by
  rw [parList_take hk, h]; simp

theorem parList_len {ts : List NodeD} {l : List Nat} : (parList ts l).length ≤ l.length := List.length_filterMap_le _ _

theorem parList_lt {ts : List NodeD} {l : List Nat} {n y : Nat} (hl : ∀ i ∈ l, i < n) (hy : y ∈ parList ts l) : y < n := by
  unfold parList at hy
  obtain ⟨x, hx, hp⟩ := List.mem_filterMap.1 hy
  unfold parEl at hp
  cases h : par (sz ts) x with
  | none => rw [h] at hp; cases hp
  | some p =>
    rw [h] at hp
    simp only at hp
    split at hp
    · cases hp
      have := (par_some h).1
      have := hl x hx
      omega
    · cases hp

/-- The first parents, each once, with one more. -/
theorem once_skip {ts : List NodeD} {l : List Nat} {k : Nat} (hk : k < l.length) (h : parEl ts (l.getD k 0) = none) : onceF (parList ts (l.take (k + 1))) = onceF (parList ts (l.take k)) := by rw [parList_skip hk h]
theorem once_there {ts : List NodeD} {l : List Nat} {k p : Nat} (hk : k < l.length) (h : parEl ts (l.getD k 0) = some p) (hm : p ∈ onceF (parList ts (l.take k))) : onceF (parList ts (l.take (k + 1))) = onceF (parList ts (l.take k)) := by
  rw [parList_take hk, h, Option.toList_some, onceF_snoc, if_pos hm]
theorem once_new {ts : List NodeD} {l : List Nat} {k p : Nat} (hk : k < l.length) (h : parEl ts (l.getD k 0) = some p) (hm : p ∉ onceF (parList ts (l.take k))) : onceF (parList ts (l.take (k + 1))) = onceF (parList ts (l.take k)) ++ [p] := by
  rw [parList_take hk, h, Option.toList_some, onceF_snoc, if_neg hm]
theorem once_len {l : List Nat} : (onceF l).length ≤ l.length := by
  have := onceF_len_take (l := l) l.length
  rwa [List.take_length] at this
theorem once_par_len {ts : List NodeD} {l : List Nat} {k : Nat} : (onceF (parList ts (l.take k))).length ≤ k := by
  have h1 := once_len (l := parList ts (l.take k))
  have h2 := parList_len (ts := ts) (l := l.take k)
  have h3 : (l.take k).length ≤ k := by simp; omega
  omega

end Go.Proofs.YtoleejaabiafcaaGreat

namespace Go.Proofs.YtoleejaabiafcaaGreat
open Go.RowKit
set_option linter.unusedVariables false
set_option linter.unusedSimpArgs false

theorem tyOf_root : tyOf 1 ≠ 3 := by decide

set_option maxRecDepth 100000 in
set_option maxHeartbeats 2000000 in
theorem parNodes_any {B : Nat} (v : Value) (l : List Nat) (w : World) (bl len : Nat) (nb : Nat → Nat) (vv : Nat → Value) (ts : List NodeD) (hF : Forest B w bl len nb vv ts) (hR : RightT ts len)
    (hv : PtrsOf w v (l.map nb)) (hin : ∀ i ∈ l, i < len) (hn : l.length ≤ 600) :
    Calls Tryz.prog 54 #[v] w (OwnPtrsPost ((onceF (parList ts l)).map nb) w) := by
  have hlen := hR.le
  obtain ⟨a, cap, b, off, rfl, hm, ha, hc⟩ := ptrs_open hv
  rw [List.length_map] at ha hc hm ⊢
  have hb0 : Below w.heap.size w (w.alloc (.map #[] 0)) := (Below.refl _ _).alloc (Nat.le_refl _) _
  have hs0 := PSet.made w
  obtain ⟨w0, hw0⟩ : ∃ w0, w.alloc (.map #[] 0) = w0 := ⟨_, rfl⟩
  have hsz0 : w.heap.size < w0.heap.size := by rw [← hw0]; simp
  rw [hw0] at hb0 hs0
  obtain ⟨m, hmm⟩ : ∃ m, w.heap.size = m := ⟨_, rfl⟩
  rw [hmm] at hs0 hsz0
  have HA := Lib.hid ha
  have HC := Lib.hid hc
  have HF := Lib.hid hF
  have HR := Lib.hid hR
  have HIN := Lib.hid hin
  have HS0 := Lib.hid (And.intro hb0 (And.intro hs0 hsz0))
  clear hv ha hc hF hR hin hb0 hs0 hsz0
  obtain ⟨i0, hi, hz0, hz1, hz2⟩ := info_parts Tryz.infoPtr
  obtain ⟨jn, hj, hjz⟩ := Tryz.node_info
  go_enter Tryz.func54, Tryz.ntmps54
  have hmk := run_makeMap_hint (P := Tryz.prog) Tryz.underlying130 (l.length : Int) w
  rw [hw0, hmm] at hmk
  go_wp2
  clear hmk
  go_loopw [3, 13] (fun x i wr => ∃ (k : Nat) (D : List Nat), i = .int .i64 k ∧ k ≤ l.length ∧ D.length ≤ k ∧ (onceF (parList ts (l.take k))).map nb = D ∧ OwnPtrs wr (m + 1) x D ∧ PSet wr m D ∧ Below w.heap.size w wr)
    (fun _ i _ => l.length - (intOf i).toNat)
  case atStart => exact ⟨0, [], by go_num, by omega, by simp, rfl, World.ownsRow_nil _ _ _ _, HS0.out.2.1, HS0.out.1⟩
  case round =>
    obtain ⟨k, D, rfl, hk, hdl, hdone, hown, hps, hbel⟩ := hrel
    by_cases hlt : k < l.length
    · obtain rfl := HA.out (by omega)
      have hx := HIN.out _ (getD_mem' (d := 0) hlt)
      have ck0 := HC.out k hlt
      have e1 : (l.map nb).getD k 0 = nb (l.getD k 0) := by simp [List.getD, hlt]
      rw [e1] at ck0
      have ck := cell_below hbel ck0
      have hskip := once_skip (ts := ts) hlt
      have hthere := fun p => once_there (ts := ts) (p := p) hlt
      have hnew := fun p => once_new (ts := ts) (p := p) hlt
      obtain ⟨x, hxx⟩ : ∃ x, l.getD k 0 = x := ⟨_, rfl⟩
      rw [hxx] at ck hx hskip hthere hnew
      have hF1 := HF.out.below hbel
      have kp := (hF1.node hx).par
      rw [show (nodeR (fun i => i + sz ts i) 0 nb (ts.getD x default) (vv x) x).par = (up (fun i => i + sz ts i) 0 x).map nb from rfl, up_par] at kp
      have hkI : (k : Int) < (l.length : Int) := by omega
      have hml := hps.lt
      cases hpar : par (sz ts) x with
      | none =>
        rw [hpar, Option.map_none, lk_none] at kp
        have H := Lib.hid (And.intro ((congrArg (List.map nb) (hskip (parEl_none hpar))).trans hdone) (And.intro hown (And.intro hps hbel)))
        clear hskip hthere hnew hdone hown hps hbel hF1 hpar ck0 e1 hxx
        go_wp2
        go_roundw
        case rel => exact ⟨k + 1, D, by go_num, by omega, by omega, H.out.1, H.out.2.1, H.out.2.2.1, H.out.2.2.2⟩
        case measure => simp [intOf]; omega
      | some p =>
        rw [hpar, Option.map_some, lk_some] at kp
        have hpx := (par_some hpar).1
        have hpl : p < len := by omega
        have kt := (hF1.node hpl).ty
        rw [show (nodeR (fun i => i + sz ts i) 0 nb (ts.getD p default) (vv p) p).ty = tyOf (kd ts p) from rfl] at kt
        by_cases h3 : kd ts p = 3
        · rw [show tyOf (kd ts p) = 3 by rw [h3]; rfl] at kt
          have hpe : parEl ts x = some p := by rw [parEl_some hpar, if_pos h3]
          have hDl : ∀ i ∈ onceF (parList ts (l.take k)), i < len := fun i hi => parList_lt (fun j hj => HIN.out j (List.mem_of_mem_take hj)) (onceF_mem.1 hi)
          have hmem := mem_nb (nb := nb) (fun i j hi hj h => hF1.seg.inj i j (Nat.zero_le _) hi (Nat.zero_le _) hj h) hpl hDl
          rw [hdone] at hmem
          have hal : Alive wr (nb p) := (hF1.node hpl).alive
          have halD : ∀ q ∈ D, Alive wr q := fun q hq => by
            rw [← hdone] at hq
            obtain ⟨i, hi, rfl⟩ := List.mem_map.1 hq
            exact (hF1.node (hDl i hi)).alive
          have hlook := PSet.look (P := Tryz.prog) (t := 130) hps Tryz.underlying130 Tryz.underlying58 hj hjz rfl hal halD
          unfold ptrB at hlook
          rw [hmem] at hlook
          by_cases hin : p ∈ onceF (parList ts (l.take k))
          · rw [decide_eq_true hin] at hlook
            have H := Lib.hid (And.intro ((congrArg (List.map nb) (hthere p hpe hin)).trans hdone) (And.intro hown (And.intro hps hbel)))
            clear hskip hthere hnew hdone hown hps hbel hF1 hpar ck0 e1 hxx hmem hal halD hDl hpe h3 hin
            go_wp2
            go_roundw
            case rel => exact ⟨k + 1, D, by go_num, by omega, by omega, H.out.1, H.out.2.1, H.out.2.2.1, H.out.2.2.2⟩
            case measure => simp [intOf]; omega
          · rw [decide_eq_false hin] at hlook
            obtain ⟨wu, hupd, hpsu, hgu⟩ := PSet.store (P := Tryz.prog) (t := 130) hps Tryz.underlying130 Tryz.underlying58 hj hjz hal halD
            unfold ptrB at hupd
            have hrow : ∀ q, u3.ownBlock = some q → m + 1 ≤ q ∧ q < wr.heap.size := fun q hq => World.ownsRow.lt hown q hq
            have hownu : wu.ownsRow (m + 1) 58 1 u3 D.length (D.map ptrV) := ownsRow_kept hown (fun q hq => hgu.block q (hrow q hq).2 (fun e => by have := (hrow q hq).1; simp at e; omega))
            have hbelu : Below w.heap.size w wu := hbel.grown hgu hbel.size (fun q hq => by simp at hq; omega)
            have hszu : m + 1 ≤ wu.heap.size := hpsu.lt
            have hnd : (onceF (parList ts (l.take (k + 1)))).map nb = D ++ [nb p] := by rw [hnew p hpe hin, List.map_append, hdone]; rfl
            have HU := Lib.hid (And.intro hpsu (And.intro hbelu (And.intro hrow hnd)))
            clear hskip hthere hnew hdone hown hps hbel hF1 hpar ck0 e1 hxx hmem hal halD hDl hpe h3 hin hgu hpsu hbelu hnd hrow
            go_wp2_with (at_builtin; refine wpList_append_own _ rfl _ _ 54 rfl (m + 1) 58 i0 (.pointer none) 1 8 Tryz.underlying54 hi hz0 hz1 hz2 rfl (by decide) _ _ _ rfl (hownu.alloc _) ⟨wu.heap.size, 0, none⟩ 1 1 [.pointer (some ⟨nb p, 0, none⟩)] rfl rfl ?c1 ?c2 ?c3 ?c4 ?c5 ?_)
            case c2 => rfl
            case c3 => unfold maxLen; omega
            case c4 => omega
            case c5 => first | omega | (simp; omega)
            intro v' w1 hown2 hgrow _
            have hsn := ownPtrs_snoc (k := nb p) hown2
            have hb1 : Below wu.heap.size wu (wu.alloc (.cells #[.pointer (some ⟨nb p, 0, none⟩)] 58)) := (Below.refl _ _).alloc (Nat.le_refl _) _
            have hps1 : PSet w1 m (nb p :: D) := (HU.out.1.below hb1).keep (hgrow.block m (by have := hb1.size; omega) (fun e => by
              have h1 := World.ownsRow.lt hownu m e.symm
              omega))
            have hbel1 : Below w.heap.size w w1 := (HU.out.2.1.alloc HU.out.2.1.size _).grown hgrow (by have := HU.out.2.1.size; have := hb1.size; omega) (fun q hq => by
              have h1 := (World.ownsRow.lt hownu q hq).1
              omega)
            have hps2 : PSet w1 m (D ++ [nb p]) := hps1.congr (fun q => by simp [or_comm])
            have H1 := Lib.hid (And.intro hsn (And.intro hps2 hbel1))
            clear hown2 hgrow hsn hb1 hps1 hbel1 hps2 hownu
            go_wp2
            go_roundw
            case rel => exact ⟨k + 1, D ++ [nb p], by go_num, by omega, by simp; omega, HU.out.2.2.2, H1.out.1, H1.out.2.1, H1.out.2.2⟩
            case measure => simp [intOf]; omega
        · have htn : tyOf (kd ts p) ≠ 3 := by
            rcases Nat.eq_zero_or_pos p with h0 | h0
            · rw [h0, HR.out.kind]; exact tyOf_root
            · rcases HR.out.kinds hpl h0 with hk | ⟨hk | hk | hk, _⟩
              · exact absurd hk h3
              · exact tyOf_ne (.inr (.inl hk))
              · exact tyOf_ne (.inr (.inr (.inl hk)))
              · exact tyOf_ne (.inr (.inr (.inr hk)))
          obtain ⟨u, hu⟩ : ∃ u, tyOf (kd ts p) = u := ⟨_, rfl⟩
          rw [hu] at kt htn
          have gt : (u == 3) = false := by simp [htn]
          have gt2 : (u != 3) = true := by simp [htn]
          have H := Lib.hid (And.intro ((congrArg (List.map nb) (hskip (by rw [parEl_some hpar, if_neg h3]))).trans hdone) (And.intro hown (And.intro hps hbel)))
          clear hskip hthere hnew hdone hown hps hbel hF1 hpar ck0 e1 hxx h3 htn hu
          go_wp2
          go_roundw
          case rel => exact ⟨k + 1, D, by go_num, by omega, by omega, H.out.1, H.out.2.1, H.out.2.2.1, H.out.2.2.2⟩
          case measure => simp [intOf]; omega
    · obtain rfl : k = l.length := by omega
      have hd := hdone
      rw [List.take_length] at hd
      have HO : Hid (OwnPtrs wr w.heap.size u3 ((onceF (parList ts l)).map nb)) := Lib.hid (by rw [hd]; exact ownsRow_base hown (by omega))
      have HB := Lib.hid hbel
      clear hdone hd hown hps hbel hlt
      go_wp2
      go_ret
      exact ⟨_, rfl, HO, HB⟩

end Go.Proofs.YtoleejaabiafcaaGreat

namespace Go.Proofs.YtoleejaabiafcaaGreat
open Go.RowKit
set_option linter.unusedVariables false
set_option linter.unusedSimpArgs false

set_option maxRecDepth 100000 in
set_option maxHeartbeats 1000000 in
theorem selParent_any {B B' : Nat} (s : Nat) (v : Value) (l : List Nat) (w : World) (bl len : Nat) (nb : Nat → Nat) (vv : Nat → Value) (ts : List NodeD) (hs : SelAt w s v (l.map nb) B) (hF : Forest B' w bl len nb vv ts) (hR : RightT ts len)
    (hin : ∀ i ∈ l, i < len) (hn : l.length ≤ 600) :
    Calls Tryz.prog 31 #[.pointer (some ⟨s, 0, none⟩)] w (SelPost ((onceF (parList ts l)).map nb) w) := by
  have hp := parNodes_any v l w bl len nb vv ts hF hR hs.own.ptrs hin hn
  obtain ⟨L, hL⟩ : ∃ L, (onceF (parList ts l)).map nb = L := ⟨_, rfl⟩
  rw [hL] at hp ⊢
  obtain ⟨d, hd⟩ := hs.doc
  have c0 := hs.nodes
  have HP := Lib.hid hp
  have HD := Lib.hid hd
  clear hp hs hF hR hd hL hin
  go_enter Tryz.func31, Tryz.ntmps31
  go_wp2_with fail
  refine HP.out.mono ?_
  rintro e w1 ⟨v', rfl, ho, hb⟩
  have c1' := cell_below hb.out HD.out
  have c0' := cell_below hb.out c0
  obtain ⟨a', cap', hv, _⟩ := ho.out.ptrs.nil
  rw [List.length_map] at hv
  subst hv
  clear HP HD
  go_wp2
  go_ret
  refine ⟨w1.heap.size, .slice a' L.length cap', rfl, Lib.hid ⟨?_, ⟨d, ?_⟩, ?_, hb.out.size⟩, Lib.hid ?_⟩
  · exact cell_alloc_new' _ _ _ (by simp) rfl
  · exact cell_alloc_new' _ _ _ (by simp) rfl
  · exact ho.out.alloc _
  · exact hb.out.alloc hb.out.size _

end Go.Proofs.YtoleejaabiafcaaGreat

