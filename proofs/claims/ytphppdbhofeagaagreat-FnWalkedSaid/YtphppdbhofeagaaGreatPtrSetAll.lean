/- A map from nodes to bools that the call has made: made, asked, stored into. A set of nodes: made with a hint, kept, its members by places. -/
import Derived.Test.YtphppdbhofeagaaGreatBaseAll
import Derived.Test.YtphppdbhofeagaaGreatPtrAll
import Derived.LaidEqlPtr
import Derived.Maps.OwnOps
import Derived.Maps.OwnSet
import Derived.ChangeMaps5
import Derived.Test.YtphppdbhofeagaaGreatSelBase
namespace Go.Proofs.YtphppdbhofeagaaGreat
open Go.RowKit
open Go.ChangeMaps (setBlock heap_setBlock_same heap_setBlock_other)
set_option linter.unusedVariables false
set_option linter.unusedSimpArgs false

/-- The pointer to a block. -/
def ptrB (p : Nat) : Value := .pointer (some ⟨p, 0, none⟩)

theorem ptrB_inj {p q : Nat} (h : ptrB p = ptrB q) : p = q := by
  simp [ptrB] at h
  exact h

/-- Block b is a map whose keys are the blocks of l, each true. -/
def PSet (w : World) (b : Nat) (l : List Nat) : Prop :=
  ∃ es clock, w.heap[b]? = some (.map es clock) ∧ (∀ e ∈ es.toList, ∃ p ∈ l, e.key = ptrB p ∧ e.val = .bool true) ∧ ∀ p ∈ l, ∃ e ∈ es.toList, e.key = ptrB p

theorem PSet.made (w : World) : PSet (w.alloc (.map #[] 0)) w.heap.size [] :=
  ⟨#[], 0, heap_alloc_new _ _, by simp, by simp⟩

theorem PSet.lt {w : World} {b : Nat} {l : List Nat} (h : PSet w b l) : b < w.heap.size := by
  obtain ⟨es, clock, h, _⟩ := h
  exact (Array.getElem?_eq_some_iff.1 h).1

theorem PSet.below {w w' : World} {b : Nat} {l : List Nat} (h : PSet w b l) (hb : Below w.heap.size w w') : PSet w' b l := by
  have hl := h.lt
  obtain ⟨es, clock, h, r⟩ := h
  exact ⟨es, clock, (hb.block b hl).trans h, r⟩

theorem run_findAsking_ptr {P : Program} {k te : TypeId} {j : TypeInfo} {w : World} (hk : P.underlying k = some (.pointer te)) (hte : P.info? te = some j) (hsz : j.size ≠ 0) {p : Nat} (hp : Alive w p) :
    ∀ (es : List MapEntry) (i : Nat), (∀ e ∈ es, ∃ q, e.key = ptrB q ∧ Alive w q) →
      ((Instr.findAsking k (ptrB p) es i).run P w = .ok none w ∧ ∀ e ∈ es, e.key ≠ ptrB p) ∨ ∃ m e, (Instr.findAsking k (ptrB p) es i).run P w = .ok (some (i + m, e.val)) w ∧ es[m]? = some e ∧ e.key = ptrB p
  | [], i, _ => .inl ⟨rfl, by simp⟩
  | e :: es, i, hes => by
    obtain ⟨q, hq, haq⟩ := hes e (by simp)
    by_cases hpq : p = q
    · subst hpq
      refine .inr ⟨0, e, ?_, rfl, hq⟩
      have h1 : (Op.equal k (ptrB p) e.key).run P w = .ok true w := by
        rw [hq]
        have h : ∀ d : Nat, (Op.equalIn (d + 1) k (ptrB p) (ptrB p)).run P w = .ok true w := fun d => by
          simp [ptrB, Op.equalIn, run_underlying hk, sizeOf, typeInfo, hte, run_sameAddr_same]
        exact h 9999
      simp [Instr.findAsking, h1]
    · have h1 : (Op.equal k (ptrB p) e.key).run P w = .ok false w := by
        rw [hq]
        obtain ⟨ca, ta, ha⟩ := hp
        obtain ⟨cb, tb, hb⟩ := haq
        have hne : (⟨p, 0, none⟩ : Addr) ≠ ⟨q, 0, none⟩ := fun e => hpq (by cases e; rfl)
        have h : ∀ d : Nat, (Op.equalIn (d + 1) k (ptrB p) (ptrB q)).run P w = .ok false w := fun d => by
          simp [ptrB, Op.equalIn, run_underlying hk, sizeOf, typeInfo, hte, hsz, run_sameAddr_other w hne ha hb]
        exact h 9999
      have ih := run_findAsking_ptr hk hte hsz hp es (i + 1) (fun e he => hes e (by simp [he]))
      rcases ih with ⟨h2, h3⟩ | ⟨m, e', h2, h3, h4⟩
      · refine .inl ⟨by simp [Instr.findAsking, h1, h2], ?_⟩
        intro e'' he''
        rcases List.mem_cons.1 he'' with rfl | he''
        · rw [hq]; exact fun h => hpq (ptrB_inj h).symm
        · exact h3 e'' he''
      · refine .inr ⟨m + 1, e', ?_, h3, h4⟩
        simp [Instr.findAsking, h1, h2]
        omega

theorem run_findKey_ptr {P : Program} {k te : TypeId} {j : TypeInfo} {w : World} (hk : P.underlying k = some (.pointer te)) (hte : P.info? te = some j) (hsz : j.size ≠ 0) {p : Nat} (hp : Alive w p)
    (es : List MapEntry) (hes : ∀ e ∈ es, ∃ q, e.key = ptrB q ∧ Alive w q) :
      ((Instr.findKey k (ptrB p) es).run P w = .ok none w ∧ ∀ e ∈ es, e.key ≠ ptrB p) ∨ ∃ m e, (Instr.findKey k (ptrB p) es).run P w = .ok (some (m, e.val)) w ∧ es[m]? = some e ∧ e.key = ptrB p := by
  cases es with
  | nil => exact .inl ⟨by simp [Instr.findKey, run_underlying hk, Instr.findNow], by simp⟩
  | cons e es =>
    have h0 : Instr.findNow (.pointer te) (ptrB p) (e :: es) 0 = none := by simp [Instr.findNow, Instr.sameNow]
    have h := run_findAsking_ptr hk hte hsz hp (e :: es) 0 hes
    rcases h with ⟨h1, h2⟩ | ⟨m, e', h1, h2, h3⟩
    · exact .inl ⟨by simp [Instr.findKey, run_underlying hk, h0, h1], h2⟩
    · exact .inr ⟨m, e', by simp [Instr.findKey, run_underlying hk, h0, h1], h2, h3⟩

theorem run_checkKey_ptr {P : Program} {k te : TypeId} {w : World} (hk : P.underlying k = some (.pointer te)) (c : Bool) (v : Value) : (Instr.checkKey c 10000 k v).run P w = .ok () w := by
  have h : ∀ d : Nat, (Instr.checkKey c (d + 1) k v).run P w = .ok () w := fun d => by
    simp [Instr.checkKey, run_underlying hk]
  exact h 9999

section
variable {P : Program} {t k te e : TypeId} {j : TypeInfo} {w : World} {b p : Nat} {l : List Nat}

/-- It is asked. -/
theorem PSet.look (h : PSet w b l) (ht : P.underlying t = some (.map k e)) (hk : P.underlying k = some (.pointer te)) (hte : P.info? te = some j) (hsz : j.size ≠ 0) (hz : (zeroValue e).run P w = .ok (.bool false) w)
    (hp : Alive w p) (hl : ∀ q ∈ l, Alive w q) : (Instr.lookup t (.map (some b)) (ptrB p) false).run P w = .ok (.bool (decide (p ∈ l))) w := by
  obtain ⟨es, clock, hb, h1, h2⟩ := h
  have hes : ∀ e ∈ es.toList, ∃ q, e.key = ptrB q ∧ Alive w q := fun e he => by
    obtain ⟨q, hq, hk, _⟩ := h1 e he
    exact ⟨q, hk, hl q hq⟩
  rcases run_findKey_ptr hk hte hsz hp es.toList hes with ⟨hf, hn⟩ | ⟨m, e0, hf, hm, hke⟩
  · have hno : p ∉ l := fun hp => by
      obtain ⟨e0, he0, hk0⟩ := h2 p hp
      exact hn e0 he0 hk0
    simp [Instr.lookup, run_underlying ht, MapKept.run_getObj_map hb, Result.andThen, run_checkKey_ptr hk, hf, hz, hno]
  · have he0 : e0 ∈ es.toList := List.mem_of_getElem? hm
    obtain ⟨q, hq, hk0, hv0⟩ := h1 e0 he0
    have : q = p := ptrB_inj (hk0.symm.trans hke)
    subst this
    simp [Instr.lookup, run_underlying ht, MapKept.run_getObj_map hb, Result.andThen, run_checkKey_ptr hk, hf, hv0, hq]

/-- It is stored into. -/
theorem PSet.store (h : PSet w b l) (ht : P.underlying t = some (.map k e)) (hk : P.underlying k = some (.pointer te)) (hte : P.info? te = some j) (hsz : j.size ≠ 0)
    (hp : Alive w p) (hl : ∀ q ∈ l, Alive w q) : ∃ w', (Instr.mapUpdate t (.map (some b)) (ptrB p) (.bool true)).run P w = .ok () w' ∧ PSet w' b (p :: l) ∧ w.grownBy w' (some b) := by
  obtain ⟨es, clock, hb, h1, h2⟩ := h
  have hes : ∀ e ∈ es.toList, ∃ q, e.key = ptrB q ∧ Alive w q := fun e he => by
    obtain ⟨q, hq, hk, _⟩ := h1 e he
    exact ⟨q, hk, hl q hq⟩
  have hgrow : ∀ es' clock', w.grownBy (setBlock w b (.map es' clock')) (some b) := fun es' clock' =>
    ⟨rfl, rfl, rfl, by simp [setBlock], fun i _ hi => heap_setBlock_other hb _ (fun e => hi (by rw [e]))⟩
  rcases run_findKey_ptr hk hte hsz hp es.toList hes with ⟨hf, hn⟩ | ⟨m, e0, hf, hm, hke⟩
  · refine ⟨setBlock w b (.map (es.push { key := ptrB p, val := .bool true, born := clock }) (clock + 1)), ?_, ⟨_, _, heap_setBlock_same hb _, ?_, ?_⟩, hgrow _ _⟩
    · simp [Instr.mapUpdate, run_underlying ht, MapKept.run_getObj_map hb, run_checkKey_ptr hk, hf, MapKept.run_setObj_map _ hb, Result.andThen, setBlock]
    · intro e1 he1
      simp only [Array.toList_push, List.mem_append, List.mem_singleton] at he1
      rcases he1 with he1 | rfl
      · obtain ⟨q, hq, r⟩ := h1 e1 he1
        exact ⟨q, by simp [hq], r⟩
      · exact ⟨p, by simp, rfl, rfl⟩
    · intro q hq
      rcases List.mem_cons.1 hq with rfl | hq
      · exact ⟨_, by simp; exact .inr rfl, rfl⟩
      · obtain ⟨e1, he1, hk1⟩ := h2 q hq
        exact ⟨e1, by simp [Array.mem_toList_iff.1 he1], hk1⟩
  · have he0 : e0 ∈ es.toList := List.mem_of_getElem? hm
    obtain ⟨q, hq, hk0, hv0⟩ := h1 e0 he0
    have : q = p := ptrB_inj (hk0.symm.trans hke)
    subst this
    have hm' : es[m]? = some e0 := by simpa using hm
    refine ⟨setBlock w b (.map (es.modify m fun e => { e with key := ptrB q, val := .bool true }) clock), ?_, ⟨_, _, heap_setBlock_same hb _, ?_, ?_⟩, hgrow _ _⟩
    · have hst : (Instr.keyThatStays (ptrB q) (ptrB q)).run P w = .ok (ptrB q) w := by simp [Instr.keyThatStays, Instr.sameBits, ptrB]
      simp [Instr.mapUpdate, run_underlying ht, MapKept.run_getObj_map hb, run_checkKey_ptr hk, hf, MapKept.run_setObj_map _ hb, Result.andThen, setBlock, hm', hke, hst]
    · intro e1 he1
      obtain ⟨i, hi, rfl⟩ := List.getElem_of_mem he1
      simp only [Array.getElem_toList, Array.getElem_modify]
      split
      · exact ⟨q, by simp, rfl, rfl⟩
      · have hmem : es[i]'(by simpa using hi) ∈ es.toList := by simp
        obtain ⟨q', hq', r⟩ := h1 _ hmem
        exact ⟨q', by simp [hq'], r⟩
    · intro q' hq'
      have hq1 : q' ∈ l := by
        rcases List.mem_cons.1 hq' with rfl | h
        · exact hq
        · exact h
      obtain ⟨e1, he1, hk1⟩ := h2 q' hq1
      obtain ⟨i, hi, rfl⟩ := List.getElem_of_mem he1
      have hi' : i < (es.modify m fun e => { e with key := ptrB q, val := .bool true }).size := by simpa using hi
      refine ⟨(es.modify m fun e => { e with key := ptrB q, val := .bool true })[i], Array.mem_toList_iff.2 (Array.getElem_mem hi'), ?_⟩
      rw [Array.getElem_modify]
      split
      · rename_i hmi
        subst hmi
        have : es[m]'(by simpa using hi) = e0 := by
          have := Array.getElem?_eq_getElem (xs := es) (i := m) (by simpa using hi)
          rw [hm'] at this
          cases this; rfl
        have hk1' : e0.key = ptrB q' := by rw [← this]; simpa using hk1
        show ptrB q = ptrB q'
        rw [← hk0, hk1']
      · simpa using hk1
end

end Go.Proofs.YtphppdbhofeagaaGreat

namespace Go.Proofs.YtphppdbhofeagaaGreat
open Go.RowKit
set_option linter.unusedVariables false
set_option linter.unusedSimpArgs false

theorem run_makeMap_hint {P : Program} {t k e : TypeId} (ht : P.underlying t = some (.map k e)) (n : Int) (w : World) : (Instr.makeMap t (some (.int .i64 n))).run P w = .ok (.map (some w.heap.size)) (w.alloc (.map #[] 0)) := by
  simp [Instr.makeMap, run_underlying ht, asInt]
  rfl

theorem PSet.keep {w w' : World} {b : Nat} {l : List Nat} (h : PSet w b l) (hb : w'.heap[b]? = w.heap[b]?) : PSet w' b l := by
  obtain ⟨es, clock, h, r⟩ := h
  exact ⟨es, clock, hb.trans h, r⟩
theorem PSet.congr {w : World} {b : Nat} {l l' : List Nat} (h : PSet w b l) (hl : ∀ p, p ∈ l ↔ p ∈ l') : PSet w b l' := by
  obtain ⟨es, clock, h, h1, h2⟩ := h
  refine ⟨es, clock, h, fun e he => ?_, fun p hp => h2 p ((hl p).2 hp)⟩
  obtain ⟨p, hp, r⟩ := h1 e he
  exact ⟨p, (hl p).1 hp, r⟩

theorem mem_nb {nb : Nat → Nat} {len p : Nat} {D : List Nat} (hinj : ∀ i j, i < len → j < len → nb i = nb j → i = j) (hp : p < len) (hD : ∀ i ∈ D, i < len) : decide (nb p ∈ D.map nb) = decide (p ∈ D) := by
  congr 1
  apply propext
  constructor
  · intro h
    obtain ⟨q, hq, he⟩ := List.mem_map.1 h
    have := hinj q p (hD q hq) hp he
    subst this
    exact hq
  · intro h; exact List.mem_map_of_mem h

end Go.Proofs.YtphppdbhofeagaaGreat

