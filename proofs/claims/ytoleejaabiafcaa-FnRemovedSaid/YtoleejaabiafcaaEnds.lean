/- A document behind a change: impl's ends. -/
import Derived.Test.YtoleejaabiafcaaTaken
import Derived.Test.YtoleejaabiafcaaPlaceAt
import Derived.Test.YtoleejaabiafcaaBegun
namespace Go.Proofs.Ytoleejaabiafcaa
open Go.RowKit
set_option linter.unusedVariables false
set_option linter.unusedSimpArgs false

/-- A forest's order as data, in memory. -/
structure OutAt (w : World) (B : Nat) (v : Value) (lab : Nat → NodeD) (C : List (Nat × Nat)) : Prop where
  ex : ∃ D, szs D = C ∧ w.ownsRow B 39 5 v D.length (outD lab D) ∧ ∀ y ∈ D, OwnKV w B y.2.2 (lab y.1).attrs

theorem OutAt.below {w w' : World} {B : Nat} {v : Value} {lab : Nat → NodeD} {C : List (Nat × Nat)} (h : OutAt w B v lab C) (hb : Below w.heap.size w w') : OutAt w' B v lab C := by
  obtain ⟨D, h1, h2, h3⟩ := h.ex
  exact ⟨D, h1, ownsRow_kept h2 (fun k hk => hb.block k (World.ownsRow.lt h2 k hk).2), fun y hy => (h3 y hy).below hb⟩

theorem OutAt.base {w : World} {B B' : Nat} {v : Value} {lab : Nat → NodeD} {C : List (Nat × Nat)} (h : OutAt w B v lab C) (hB : B' ≤ B) : OutAt w B' v lab C := by
  obtain ⟨D, h1, h2, h3⟩ := h.ex
  exact ⟨D, h1, ownsRow_base h2 hB, fun y hy => ownsRow_base (h3 y hy) hB⟩

theorem OwnZ.below {w w' : World} {B : Nat} {v : Value} {l : List Int} (h : OwnZ w B v l) (hb : Below w.heap.size w w') : OwnZ w' B v l := ownsRow_kept h (fun k hk => hb.block k (World.ownsRow.lt h k hk).2)

theorem row_ptrs {w : World} {bl n : Nat} {nb : Nat → Nat} (hn : n ≤ 200) (h : ∀ i, i < n → w.cell? ⟨bl, i, none⟩ = some (.pointer (some ⟨nb i, 0, none⟩))) : PtrsOf w (.slice (some ⟨bl, 0, none⟩) n n) ((List.range n).map nb) := by
  refine ⟨some ⟨bl, 0, none⟩, n, by simp, by simp, by unfold maxLen; omega, by simp, by unfold maxLen; simp; omega, fun h0 => ⟨bl, 0, rfl, fun i hi => ?_⟩⟩
  have hi' : i < n := by simpa using hi
  rw [Nat.zero_add, h i hi']
  simp [List.getD, hi', ptrV]

def EndsPost (lab : Nat → NodeD) (n : Nat) (C : List (Nat × Nat)) (W : World) (e : Ending) (w' : World) : Prop :=
  ∃ tv pv, e = .returned (.tuple #[tv, pv]) ∧ Hid (OutAt w' W.heap.size tv lab C) ∧ Hid (OwnZ w' W.heap.size pv (placesW n C)) ∧ Hid (Below W.heap.size W w')

set_option maxRecDepth 100000 in
set_option maxHeartbeats 1000000 in
theorem ends_any {B : Nat} {W : World} {n : Nat} {nb : Nat → Nat} {v : Nat → Value} {lab : Nat → NodeD} {F : Wd} (hD : DomAt B W n nb v lab F) (hF : WOk n F) (hok : ∀ i, i < n → ∃ z a, NodeOk (lab i) z a) (h0 : 0 < n) (hn : n ≤ 200) (g bl : Nat) (hg : W.cell? ⟨g, 0, none⟩ = some (.slice (some ⟨bl, 0, none⟩) n n)) (hrow : ∀ i, i < n → W.cell? ⟨bl, i, none⟩ = some (.pointer (some ⟨nb i, 0, none⟩)))
    (C : List (Nat × Nat)) (hC : Fs F.kids [0] C) (hnd : (C.map (·.1)).Nodup) (hlt : ∀ y ∈ C, y.1 < n) (hCl : C.length ≤ 1000) :
    Calls Try.prog 51 #[.pointer (some ⟨g, 0, none⟩)] W (EndsPost lab n C W) := by
  have htk := taken_any hD hF hok C.length 0 C (.slice none 0 0) (.slice none 0 0) 0 [] [] W h0 hC (Nat.le_refl _) (by omega) (World.ownsRow_nil _ _ _ _) (World.ownsRow_nil _ _ _ _) (Below.refl _ _)
  have r0 := hrow 0 h0
  have HTK := Lib.hid htk
  have HD := Lib.hid hD
  have HR := Lib.hid hrow
  have HND := Lib.hid (And.intro hnd hlt)
  clear htk hD hF hok hrow hC hnd hlt
  go_enter Try.func51, Try.ntmps51
  go_wp2_with fail
  refine HTK.out.mono ?_
  rintro e w1 ⟨tv, lv, D, rfl, hDC, ht, hl, hk, hb, _⟩
  have hg1 := cell_below hb.out hg
  have hl1 : PtrsOf w1 lv ((C.map (·.1)).map nb) := by
    have h1 := hl.out
    have h2 : D.length = (C.map (·.1)).length := by rw [← hDC, List.length_map, szs_len]
    rw [Nat.zero_add, List.nil_append, h2] at h1
    refine OwnPtrs.ptrs (B := W.heap.size) ?_
    unfold OwnPtrs
    rw [List.length_map, List.map_map]
    exact h1
  have hpl := placesAt_any lv ((C.map (·.1)).map nb) (.slice (some ⟨bl, 0, none⟩) n n) ((List.range n).map nb) w1 hl1 (fun i hi => by
      have hi' : i < (C.map (·.1)).length := by simpa using hi
      have e1 : ((C.map (·.1)).map nb).getD i 0 = nb ((C.map (·.1)).getD i 0) := by simp only [List.getD_eq_getElem?_getD, List.getElem?_map, List.getElem?_eq_getElem hi', Option.map_some, Option.getD_some]
      rw [e1]
      obtain ⟨y, hy, hye⟩ := List.mem_map.1 (getD_mem' (d := 0) hi')
      rw [← hye]
      exact (HD.out.node _ (HND.out.2 y hy)).alive.below hb.out) (row_ptrs hn (fun i hi => cell_below hb.out (HR.out i hi))) (fun i hi => by
      have hi' : i < n := by simpa using hi
      have e1 : ((List.range n).map nb).getD i 0 = nb i := by simp [List.getD, hi']
      rw [e1]
      exact (HD.out.node i hi').alive.below hb.out) (by simpa using hn)
  have HPL := Lib.hid hpl
  have HOUT := Lib.hid (show OutAt w1 W.heap.size tv lab C from ⟨D, hDC, by have := ht.out; rwa [Nat.zero_add, List.nil_append] at this, hk.out⟩)
  have heq : ((List.range n).map nb).map (fun p => findI ((C.map (·.1)).map nb) p) = placesW n C := by
    unfold placesW
    rw [List.map_map]
    refine List.map_congr_left (fun i hi => ?_)
    exact find_pos HD.out.inj HND.out.1 (fun y hy => by
      obtain ⟨q, hq, rfl⟩ := List.mem_map.1 hy
      exact HND.out.2 q hq) (List.mem_range.1 hi)
  have HEQ := Lib.hid heq
  clear hl1 hpl heq ht hl hk hDC HTK hg r0
  go_wp2_with fail
  refine HPL.out.mono ?_
  rintro e w2 ⟨pv, rfl, hz, hb2⟩
  have hb02 := Lib.hid (hb.out.trans (hb2.out.mono hb.out.size))
  have ho2 := Lib.hid (HOUT.out.below hb2.out)
  have hz2 : Hid (OwnZ w2 W.heap.size pv (placesW n C)) := Lib.hid (by rw [← HEQ.out]; exact ownsRow_base hz.out hb.out.size)
  clear HPL
  go_wp2
  go_ret2
  exact ⟨_, _, rfl, ho2, hz2, hb02⟩

/-- What a document that is changed keeps while its nodes are turned. -/
theorem BegunAt.kept {W w w' : World} {g bl len : Nat} {nb : Nat → Nat} {vv : Nat → Value} {ts : List NodeD} {s : Nat} (h : BegunAt W w g bl len nb vv ts s) (ho : OnlyN len nb w w') :
    w'.cell? ⟨g, 0, none⟩ = some (.slice (some ⟨bl, 0, none⟩) len len) ∧ (∀ i, i < len → w'.cell? ⟨bl, i, none⟩ = some (.pointer (some ⟨nb i, 0, none⟩))) ∧ Below W.heap.size W w' := by
  have hnode : ∀ i, i < len → World.nodeAt w (nb i) _ := fun i hi => h.forest.node hi
  have hg : w'.heap[g]? = w.heap[g]? := ho.block g (fun i hi e => by
    have h1 := h.obj
    have h2 := hnode i hi
    unfold World.objAt at h1
    unfold World.nodeAt at h2
    rw [e, h2] at h1
    simp only [NRec.obj, Option.some.injEq, Obj.cells.injEq] at h1
    exact absurd h1.2.1 (by decide))
  obtain ⟨arr, r1, r2, r3⟩ := h.forest.row
  have hbl : w'.heap[bl]? = w.heap[bl]? := ho.block bl (fun i hi e => by
    have h2 := hnode i hi
    unfold World.nodeAt at h2
    rw [e, h2] at r1
    simp only [NRec.obj, Option.some.injEq, Obj.cells.injEq] at r1
    exact absurd r1.2.1 (by decide))
  refine ⟨?_, fun i hi => ?_, h.bel.trans (ho.below _ (fun i hi => h.forest.seg.base i (Nat.zero_le _) hi))⟩
  · exact (World.cell?_of_block hg).trans (h.obj.cell (i := 0) rfl)
  · exact (World.cell?_of_block hbl).trans (h.forest.cell hi)

end Go.Proofs.Ytoleejaabiafcaa
