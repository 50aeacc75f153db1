/- What a change hands back, read as slices. -/
import Derived.Test.YtoleejaabiafcaaTakenAll
namespace Go.Proofs.Ytoleejaabiafcaa
open Go.RowKit
set_option linter.unusedVariables false
set_option linter.unusedSimpArgs false

theorem OwnZ.ints {w : World} {B : Nat} {v : Value} {l : List Int} (h : OwnZ w B v l) : ∃ a cap, v = .slice a l.length cap ∧ Ints w a l.length l := by
  obtain ⟨a, cap, rfl⟩ := ownsRow_slice h
  refine ⟨a, cap, rfl, ?_⟩
  obtain ⟨a', c', he, _, _, hr⟩ := owns_reads (l := l.map intZ) (by simpa [OwnZ] using h)
  simp at he
  obtain ⟨rfl, rfl⟩ := he
  unfold Ints
  simpa using hr

theorem OutAt.cap {w : World} {B : Nat} {a : Option Addr} {n cap : Nat} {lab : Nat → NodeD} {C : List (Nat × Nat)} (h : OutAt w B (.slice a n cap) lab C) : n ≤ cap ∧ cap ≤ maxLen := by
  obtain ⟨D, _, ho, _⟩ := h.ex
  rcases ho.2 with ⟨hv, hz⟩ | ⟨g, cap', cur, hv, hb, hg, hn, hm, hcs, ht⟩
  · simp at hv
    obtain ⟨_, rfl, rfl⟩ := hv
    exact ⟨Nat.le_refl _, Nat.zero_le _⟩
  · simp at hv
    obtain ⟨_, rfl, rfl⟩ := hv
    exact ⟨hn, hm⟩

theorem places_get {n : Nat} {C : List (Nat × Nat)} {y : Nat} (hy : y < n) : (placesW n C).getD y 0 = posFrom (C.map (·.1)) 0 y := by simp [placesW, List.getD, hy]

end Go.Proofs.Ytoleejaabiafcaa
