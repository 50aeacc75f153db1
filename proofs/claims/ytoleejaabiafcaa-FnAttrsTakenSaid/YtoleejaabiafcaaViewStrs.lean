/- A slice of strings among the arguments, with its capacity. -/
import Derived.Test.YtoleejaabiafcaaViewsAll
namespace Go.Proofs.Ytoleejaabiafcaa
open Go.RowKit Go.ChangeShapes Go.WideShapes
set_option linter.unusedVariables false
set_option linter.unusedSimpArgs false

theorem strs2_of {H : Type} {enc : TypeId × Value → H} {W : World} {a : Option Addr} {len cap : Nat} {d : DataW H} {p : List MemPlace} (h : DataW.Trod enc Try.prog W 0 (fun _ => true) true 25 (.slice a len cap) d p) :
    ∃ ss : List ByteArray, Strs W a len ss ∧ (∀ s ∈ ss, s.size ≤ maxLen) ∧ len ≤ cap ∧ cap ≤ maxLen := by
  obtain ⟨ss, h1, h2⟩ := strs_of h
  refine ⟨ss, h1, h2, ?_⟩
  obtain ⟨fuel, hf⟩ := h
  rcases open_strings Try.underlying25 Try.underlying9 (by kernel_rfl) hf with ⟨hcs, _⟩ | ⟨x, l, c, ss', hcs, _, hl, hm, _⟩
  · simp [Value.cells] at hcs
    obtain ⟨rfl, rfl, rfl⟩ := hcs
    exact ⟨Nat.le_refl _, Nat.zero_le _⟩
  · simp [Value.cells] at hcs
    obtain ⟨rfl, rfl, rfl⟩ := hcs
    exact ⟨hl, hm⟩

end Go.Proofs.Ytoleejaabiafcaa
