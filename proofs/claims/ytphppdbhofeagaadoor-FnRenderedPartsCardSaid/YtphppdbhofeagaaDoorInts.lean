/- Integers behind a slice's address. -/
import Derived.Test.YtphppdbhofeagaaDoorPtrAll
namespace Go.Proofs.YtphppdbhofeagaaDoor
open Go.RowKit
set_option linter.unusedVariables false
set_option linter.unusedSimpArgs false

def intZ (z : Int) : Value := .int .i64 z

/-- Integers behind a slice's address. -/
def Ints (w : World) (a : Option Addr) (n : Nat) (zs : List Int) : Prop := Row w a n (zs.map intZ)

theorem Ints.below {w w' : World} {a : Option Addr} {n : Nat} {zs : List Int} (h : Ints w a n zs) (hb : Below w.heap.size w w') : Ints w' a n zs := Row.below h hb

theorem Ints.open {w : World} {a : Option Addr} {n : Nat} {zs : List Int} (h : Ints w a n zs) : zs.length = n ∧ n ≤ 9223372036854775807 ∧ ∃ b off, (0 < n → a = some ⟨b, off, none⟩) ∧ ∀ i, i < n → w.cell? ⟨b, off + i, none⟩ = some (.int .i64 (zs.getD i 0)) := by
  obtain ⟨h1, h2, h3⟩ := h
  have hl : zs.length = n := by simpa using h1
  refine ⟨hl, h2, ?_⟩
  by_cases h0 : 0 < n
  · obtain ⟨b, off, rfl, hc⟩ := h3 h0
    refine ⟨b, off, fun _ => rfl, fun i hi => ?_⟩
    rw [hc i hi]
    have : i < zs.length := by omega
    simp [List.getD, this, intZ]
  · exact ⟨0, 0, fun h => absurd h h0, fun i hi => by omega⟩

end Go.Proofs.YtphppdbhofeagaaDoor
