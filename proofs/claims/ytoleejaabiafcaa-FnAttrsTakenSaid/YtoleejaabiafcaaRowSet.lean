/- A row of the call's own that is stored into. -/
import Derived.Test.YtoleejaabiafcaaBase
import Derived.Deep.AppendLies
namespace Go.Proofs.Ytoleejaabiafcaa
open Go.RowKit
set_option linter.unusedVariables false
set_option linter.unusedSimpArgs false

/-- A row that is stored into. -/
theorem ownsRow_set {w : World} {B : Nat} {e : TypeId} {size g n cap : Nat} {xs : List Value} (h : w.ownsRow B e size (.slice (some ⟨g, 0, none⟩) n cap) n xs) {i : Nat} (hi : i < n * size) (u : Value) :
    (w.setCell ⟨g, i, none⟩ u).ownsRow B e size (.slice (some ⟨g, 0, none⟩) n cap) n (xs.set i u) := by
  rcases h.2 with ⟨h1, _⟩ | ⟨g', cap', cur, hv, hb, hg, hn, hm, hcs, ht⟩
  · simp at h1
  · simp at hv
    obtain ⟨rfl, rfl⟩ := hv
    refine ⟨by rw [List.length_set]; exact h.1, .inr ⟨g, cap, cur.setIfInBounds i u, rfl, hb, heap_setCell_same w g i cur e u hg, hn, hm, by simpa using hcs, ?_⟩⟩
    rw [← ht, Array.toList_setIfInBounds]
    apply List.ext_getElem?
    intro j
    simp only [List.getElem?_take, List.getElem?_set, List.length_take]
    have hl : n * size ≤ cur.toList.length := by
      have := h.1
      rw [← ht, List.length_take] at this
      omega
    by_cases hj : j < n * size
    · simp only [hj, if_true]
      by_cases hji : i = j
      · subst hji
        simp only [if_true]
        rw [if_pos (by omega), if_pos (by omega)]
      · simp only [hji, if_false]
    · simp only [hj, if_false]
      by_cases hji : i = j
      · omega
      · simp only [hji, if_false]

end Go.Proofs.Ytoleejaabiafcaa
