/- What the laws of one insertion have in common. -/
import Derived.Test.YtoleejaabiafcaaInsSays
import Derived.Test.YtoleejaabiafcaaOutAll
import Derived.Test.YtoleejaabiafcaaTakenAll
import Derived.Test.YtoleejaabiafcaaKids
namespace Go.Proofs.Ytoleejaabiafcaa
open Go.RowKit
set_option linter.unusedVariables false
set_option linter.unusedSimpArgs false

theorem ints_one (w : World) (z : Int) : Ints (w.alloc (.cells #[.int .i64 z] 3)) (some ⟨w.heap.size, 0, none⟩) 1 [z] := by
  refine ⟨rfl, by unfold maxLen; omega, fun _ => ⟨w.heap.size, 0, rfl, fun i hi => ?_⟩⟩
  obtain rfl : i = 0 := by omega
  exact cell_alloc_new' _ _ _ (by simp) rfl

theorem ints_reads {w : World} {a : Option Addr} {n cap : Nat} {zs : List Int} {l : List Nat} (h : Ints w a n zs) (he : zs = l.map (fun (n : Nat) => (n : Int))) (h1 : n ≤ cap) (h2 : cap ≤ maxLen) : ReadsAs w (.slice a n cap) (l.map intV) := by
  subst he
  have hn : n = (l.map intV).length := by
    have := h.1
    simpa using this.symm
  refine ⟨a, cap, by rw [← hn], by omega, h2, ?_⟩
  rw [← hn]
  have : l.map intV = (l.map (fun (n : Nat) => (n : Int))).map intZ := by simp [intV, intZ, Function.comp_def]
  rw [this]
  exact h

theorem ownInts_ints {w : World} {B : Nat} {v : Value} {l : List Nat} (h : OwnInts w B v l) : ∃ a cap, v = .slice a l.length cap ∧ Ints w a l.length (l.map fun (n : Nat) => (n : Int)) := by
  have h1 : OwnZ w B v (l.map fun (n : Nat) => (n : Int)) := by
    unfold OwnZ
    rw [List.length_map, List.map_map]
    exact h
  obtain ⟨a, cap, e, hi⟩ := h1.ints
  rw [List.length_map] at e hi
  exact ⟨a, cap, e, hi⟩

theorem ShapedT.sz {ts : List NodeD} {len : Nat} (h : ShapedT ts len) : ∀ j, j < len → Sz ts j := fun j hj => ⟨h.nest.pos j hj, h.size j hj, fun k a b => h.nest.lam j k hj a b⟩

theorem like_sz {ts' : List NodeD} {lab : Nat → NodeD} {C : List (Nat × Nat)} (h : LikeOut ts' lab C) : ∀ i, i < C.length → sz ts' i = (C.getD i default).2 := fun i hi => by
  unfold sz
  rw [(h i hi).2.2.2.2]
  simp

theorem places_get {n : Nat} {C : List (Nat × Nat)} {y : Nat} (hy : y < n) : (placesW n C).getD y 0 = posFrom (C.map (·.1)) 0 y := by simp [placesW, List.getD, hy]

theorem map_get {l : List Nat} {i : Nat} (hi : i < l.length) : (l.map fun (n : Nat) => (n : Int)).getD i 0 = ((l.getD i 0 : Nat) : Int) := by simp [List.getD, hi]

end Go.Proofs.Ytoleejaabiafcaa
