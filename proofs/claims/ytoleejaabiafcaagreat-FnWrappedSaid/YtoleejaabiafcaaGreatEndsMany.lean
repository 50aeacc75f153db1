/- Places behind a change that made nodes; plain. A document behind a change that made nodes: impl's ends. -/
import Derived.Test.YtoleejaabiafcaaGreatTakenAll
import Derived.Test.YtoleejaabiafcaaGreatCloneAll
namespace Go.Proofs.YtoleejaabiafcaaGreat
open Go.RowKit
set_option linter.unusedVariables false
set_option linter.unusedSimpArgs false

theorem atSet_get2 {len n : Nat} {pl : Nat → Int} (hp : ∀ i, i < len → pl i = (i : Int)) (hq : ∀ i, len ≤ i → i < n → pl i = -1) : ∀ (C : List (Nat × Nat)) (vs : List Int) (N : Nat), (C.map (·.1)).Nodup → vs.length = len → (∀ y ∈ C, y.1 < n) → ∀ i, i < len → (atSet pl vs N C).getD i 0 = if i ∈ C.map (·.1) then posFrom (C.map (·.1)) N i else vs.getD i 0
  | [], vs, N, _, _, _, i, hi => by simp [atSet]
  | y :: C, vs, N, hd, hl, hn, i, hi => by
    rw [List.map_cons, List.nodup_cons] at hd
    have hy := hn y (List.mem_cons_self ..)
    by_cases hyl : y.1 < len
    · have e0 : (if 0 ≤ pl y.1 ∧ pl y.1 < (vs.length : Int) then vs.set (pl y.1).toNat (N : Int) else vs) = vs.set y.1 (N : Int) := by
        rw [hp y.1 hyl, if_pos ⟨by omega, by omega⟩]
        rfl
      simp only [atSet, e0]
      rw [atSet_get2 hp hq C _ (N + 1) hd.2 (by rw [List.length_set]; exact hl) (fun z hz => hn z (List.mem_cons_of_mem _ hz)) i hi]
      simp only [List.map_cons, List.mem_cons, posFrom]
      by_cases e : y.1 = i
      · subst e
        rw [if_neg hd.1, if_pos (.inl rfl), if_pos rfl]
        rw [List.getD_eq_getElem?_getD, List.getElem?_set_self (by omega)]
        rfl
      · by_cases h2 : i ∈ C.map (·.1)
        · rw [if_pos h2, if_pos (.inr h2), if_neg e]
        · rw [if_neg h2, if_neg (by rintro (h | h); exact e h.symm; exact h2 h)]
          rw [List.getD_eq_getElem?_getD, List.getElem?_set_ne e, ← List.getD_eq_getElem?_getD]
    · have e0 : (if 0 ≤ pl y.1 ∧ pl y.1 < (vs.length : Int) then vs.set (pl y.1).toNat (N : Int) else vs) = vs := by
        rw [hq y.1 (by omega) hy, if_neg (by omega)]
      simp only [atSet, e0]
      rw [atSet_get2 hp hq C _ (N + 1) hd.2 hl (fun z hz => hn z (List.mem_cons_of_mem _ hz)) i hi]
      have e : y.1 ≠ i := by omega
      simp only [List.map_cons, List.mem_cons, posFrom, if_neg e]
      by_cases h2 : i ∈ C.map (·.1)
      · rw [if_pos h2, if_pos (.inr h2)]
      · rw [if_neg h2, if_neg (by rintro (h | h); exact e h.symm; exact h2 h)]

theorem atSet_many {len n : Nat} {pl : Nat → Int} (hp : ∀ i, i < len → pl i = (i : Int)) (hq : ∀ i, len ≤ i → i < n → pl i = -1) {C : List (Nat × Nat)} (hd : (C.map (·.1)).Nodup) (hn : ∀ y ∈ C, y.1 < n) : atSet pl (List.replicate len (-1)) 0 C = placesW len C := by
  apply List.ext_getElem
  · rw [atSet_length]
    simp [placesW]
  · intro i h1 h2
    have hi : i < len := by rw [atSet_length] at h1; simpa using h1
    have h3 := atSet_get2 hp hq C (List.replicate len (-1)) 0 hd (by simp) hn i hi
    rw [List.getD_eq_getElem?_getD, List.getElem?_eq_getElem h1] at h3
    simp only [Option.getD_some] at h3
    rw [h3]
    simp only [placesW, List.getElem_map, List.getElem_range]
    by_cases h : i ∈ C.map (·.1)
    · rw [if_pos h]
    · rw [if_neg h, posFrom_not _ _ h]
      simp [List.getD_eq_getElem?_getD, hi]

end Go.Proofs.YtoleejaabiafcaaGreat

namespace Go.Proofs.YtoleejaabiafcaaGreat
open Go.RowKit
set_option linter.unusedVariables false
set_option linter.unusedSimpArgs false

set_option maxRecDepth 100000 in
set_option maxHeartbeats 1000000 in
theorem ends_many {B : Nat} {W : World} {n m : Nat} (hnm : n ≤ m) {nb : Nat → Nat} {v : Nat → Value} {lab : Nat → NodeD} {F : Wd} (hD : DomAt B W m nb v lab F) (hF : WOk m F) (hok : ∀ i, i < m → ∃ z a, NodeOk (lab i) z a) (h0 : 0 < n) (hn : n ≤ 600) (g bl : Nat) (hg : W.cell? ⟨g, 0, none⟩ = some (.slice (some ⟨bl, 0, none⟩) n n)) (hrow : ∀ i, i < n → W.cell? ⟨bl, i, none⟩ = some (.pointer (some ⟨nb i, 0, none⟩)))
    (C : List (Nat × Nat)) (hC : Fs F.kids [0] C) (hnd : (C.map (·.1)).Nodup) (hlt : ∀ y ∈ C, y.1 < m) (hCl : C.length ≤ 1000) :
    Calls Tryz.prog 19 #[.pointer (some ⟨g, 0, none⟩)] W (EndsPost lab n C W) := by
  have htk := taken_any hD hF hok C.length 0 C (.slice none 0 0) (.slice none 0 0) 0 [] [] W (by omega) hC (Nat.le_refl _) (by omega) (World.ownsRow_nil _ _ _ _) (World.ownsRow_nil _ _ _ _) (Below.refl _ _)
  have r0 := hrow 0 h0
  have HTK := Lib.hid htk
  have HD := Lib.hid hD
  have HR := Lib.hid hrow
  have HND := Lib.hid (And.intro hnd hlt)
  clear htk hD hF hok hrow hC hnd hlt
  go_enter Tryz.func19, Tryz.ntmps19
  go_wp2_with fail
  refine HTK.out.mono ?_
  rintro e w1 ⟨tv, lv, D, rfl, hDC, ht, hl, hk, hb, _⟩
  have hg1 := cell_below hb.out hg
  have hl1 : PtrsOf w1 lv ((C.map (·.1)).map nb) := by
    have h1 := hl.out
    have h2 : D.length = (C.map (·.1)).length := by rw [← hDC, List.length_map, szs_len]
    rw [Nat.zero_add, List.nil_append, h2] at h1
    refine OwnPtrs.ptrs (B := W.heap.size) ?_
    unfold OwnPtrs
    rw [List.length_map, List.map_map]
    exact h1
  have hpl := placesAt_any lv ((C.map (·.1)).map nb) (.slice (some ⟨bl, 0, none⟩) n n) ((List.range n).map nb) w1 hl1 (fun i hi => by
      have hi' : i < (C.map (·.1)).length := by simpa using hi
      have e1 : ((C.map (·.1)).map nb).getD i 0 = nb ((C.map (·.1)).getD i 0) := by simp only [List.getD_eq_getElem?_getD, List.getElem?_map, List.getElem?_eq_getElem hi', Option.map_some, Option.getD_some]
      rw [e1]
      obtain ⟨y, hy, hye⟩ := List.mem_map.1 (getD_mem' (d := 0) hi')
      rw [← hye]
      exact (HD.out.node _ (HND.out.2 y hy)).alive.below hb.out) (row_ptrs hn (fun i hi => cell_below hb.out (HR.out i hi))) (fun i hi => by
      have hi' : i < n := by simpa using hi
      have e1 : ((List.range n).map nb).getD i 0 = nb i := by simp [List.getD, hi']
      rw [e1]
      exact (HD.out.node i (by omega)).alive.below hb.out) (by simpa using hn)
  have HPL := Lib.hid hpl
  have HOUT := Lib.hid (show OutAt w1 W.heap.size tv lab C from ⟨D, hDC, by have := ht.out; rwa [Nat.zero_add, List.nil_append] at this, hk.out⟩)
  have heq : ((List.range n).map nb).map (fun p => findI ((C.map (·.1)).map nb) p) = placesW n C := by
    unfold placesW
    rw [List.map_map]
    refine List.map_congr_left (fun i hi => ?_)
    exact find_pos HD.out.inj HND.out.1 (fun y hy => by
      obtain ⟨q, hq, rfl⟩ := List.mem_map.1 hy
      exact HND.out.2 q hq) (by have := List.mem_range.1 hi; omega)
  have HEQ := Lib.hid heq
  clear hl1 hpl heq ht hl hk hDC HTK hg r0
  go_wp2_with fail
  refine HPL.out.mono ?_
  rintro e w2 ⟨pv, rfl, hz, hb2⟩
  have hb02 := Lib.hid (hb.out.trans (hb2.out.mono hb.out.size))
  have ho2 := Lib.hid (HOUT.out.below hb2.out)
  have hz2 : Hid (OwnZ w2 W.heap.size pv (placesW n C)) := Lib.hid (by rw [← HEQ.out]; exact ownsRow_base hz.out hb.out.size)
  clear HPL
  go_wp2
  go_ret2
  exact ⟨_, _, rfl, ho2, hz2, hb02⟩

/-- What a document that is changed keeps while its nodes are turned, and nodes made. -/
theorem BegunAt.keptG {W w w' : World} {g bl len : Nat} {nb : Nat → Nat} {vv : Nat → Value} {ts : List NodeD} {s : Nat} (h : BegunAt W w g bl len nb vv ts s) (ho : OnlyG len nb w w') :
    w'.cell? ⟨g, 0, none⟩ = some (.slice (some ⟨bl, 0, none⟩) len len) ∧ (∀ i, i < len → w'.cell? ⟨bl, i, none⟩ = some (.pointer (some ⟨nb i, 0, none⟩))) ∧ Below W.heap.size W w' := by
  have hnode : ∀ i, i < len → World.nodeAt w (nb i) _ := fun i hi => h.forest.node hi
  have hg : w'.heap[g]? = w.heap[g]? := ho.block g h.obj.lt (fun i hi e => by
    have h1 := h.obj
    have h2 := hnode i hi
    unfold World.objAt at h1
    unfold World.nodeAt at h2
    rw [e, h2] at h1
    simp only [NRec.obj, Option.some.injEq, Obj.cells.injEq] at h1
    exact absurd h1.2.1 (by decide))
  obtain ⟨arr, r1, r2, r3⟩ := h.forest.row
  have hbl : w'.heap[bl]? = w.heap[bl]? := ho.block bl (by
    rcases Nat.lt_or_ge bl w.heap.size with h9 | h9
    · exact h9
    · rw [Array.getElem?_eq_none h9] at r1; cases r1) (fun i hi e => by
    have h2 := hnode i hi
    unfold World.nodeAt at h2
    rw [e, h2] at r1
    simp only [NRec.obj, Option.some.injEq, Obj.cells.injEq] at r1
    exact absurd r1.2.1 (by decide))
  refine ⟨?_, fun i hi => ?_, h.bel.trans (ho.below _ h.bel.size (fun i hi => h.forest.seg.base i (Nat.zero_le _) hi))⟩
  · exact (World.cell?_of_block hg).trans (h.obj.cell (i := 0) rfl)
  · exact (World.cell?_of_block hbl).trans (h.forest.cell hi)

end Go.Proofs.YtoleejaabiafcaaGreat

