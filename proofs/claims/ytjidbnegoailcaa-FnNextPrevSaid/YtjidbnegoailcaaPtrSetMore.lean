/- A set of nodes: made with a hint, kept, its members by places. -/
import Derived.Test.YtjidbnegoailcaaPtrSet
import Derived.Test.YtjidbnegoailcaaChosen
namespace Go.Proofs.Ytjidbnegoailcaa
open Go.RowKit
set_option linter.unusedVariables false
set_option linter.unusedSimpArgs false

theorem run_makeMap_hint {P : Program} {t k e : TypeId} (ht : P.underlying t = some (.map k e)) (n : Int) (w : World) : (Instr.makeMap t (some (.int .i64 n))).run P w = .ok (.map (some w.heap.size)) (w.alloc (.map #[] 0)) := by
  simp [Instr.makeMap, run_underlying ht, asInt]
  rfl

theorem PSet.keep {w w' : World} {b : Nat} {l : List Nat} (h : PSet w b l) (hb : w'.heap[b]? = w.heap[b]?) : PSet w' b l := by
  obtain ⟨es, clock, h, r⟩ := h
  exact ⟨es, clock, hb.trans h, r⟩
theorem PSet.congr {w : World} {b : Nat} {l l' : List Nat} (h : PSet w b l) (hl : ∀ p, p ∈ l ↔ p ∈ l') : PSet w b l' := by
  obtain ⟨es, clock, h, h1, h2⟩ := h
  refine ⟨es, clock, h, fun e he => ?_, fun p hp => h2 p ((hl p).2 hp)⟩
  obtain ⟨p, hp, r⟩ := h1 e he
  exact ⟨p, (hl p).1 hp, r⟩

theorem mem_nb {nb : Nat → Nat} {len p : Nat} {D : List Nat} (hinj : ∀ i j, i < len → j < len → nb i = nb j → i = j) (hp : p < len) (hD : ∀ i ∈ D, i < len) : decide (nb p ∈ D.map nb) = decide (p ∈ D) := by
  congr 1
  apply propext
  constructor
  · intro h
    obtain ⟨q, hq, he⟩ := List.mem_map.1 h
    have := hinj q p (hD q hq) hp he
    subst this
    exact hq
  · intro h; exact List.mem_map_of_mem h

end Go.Proofs.Ytjidbnegoailcaa
