/-
  DERIVED. GIVEN WITH THE SEED: THE CARDS: each row of YtphppdbhofeagaaDoorRows.lean that lists a variable, with what it lists TIED to the program's text (the seventh form; the later family's looks); each row that meets fmt, with fmt's text TOLD by the authors' own Lean function (tested against real Go, not proved from fmt's source: count such statements apart). THE CARD IS WHAT COUNTS. Prove the row's statement (the work); the ties are given (YtphppdbhofeagaaDoorTie.lean); close each card by the builder's one call (the guide's Derived/Test/ToyasCard.lean, 'card_holds'). Laid BY PROGRAM, IN A SANDBOX (cutbox-door.mjs). By AI agents, Wed Nov 11 2026. No macro, syntax, notation, axiom, sorry.
-/
import Derived.Test.YtphppdbhofeagaaDoorRows
import GoSem.ClaimSeven
namespace Go.Proofs.YtphppdbhofeagaaDoor
namespace Rows

/-- THE TIED CARD OF 'laws.FnRenderedParts'. -/
def fnRenderedPartsCard : Claim7 := { stood := { row := fnRenderedPartsRow, standIns := [], harness := (true, "3e66166d3ca6d18871d4af425edf999b4f2ddf5617036a64a78098e999f6420d"), looks := true }, kinds := [], alts := [], laidByText := true, laidKinds := [.data, .sentinel, .mapped, .pinned], laidTests := true, laidLooks := .later }
def FnRenderedPartsCardSaid : Prop := Claim7.holds Tryd.pinned (.plain (OpenSpec.ofChange fnRenderedPartsSpec)) fnRenderedPartsCard

/-- THE SECOND FORM's CARD OF 'laws.FnRenderedParts'. -/
def fnRenderedPartsUptoCard : Claim7 := { stood := { row := fnRenderedPartsUptoRow, standIns := [], harness := (true, "3e66166d3ca6d18871d4af425edf999b4f2ddf5617036a64a78098e999f6420d"), looks := true }, kinds := [], alts := [], laidByText := true, laidKinds := [.data, .sentinel, .mapped, .pinned], laidTests := true, laidLooks := .later }
def FnRenderedPartsUptoCardSaid : Prop := Claim7.holds Tryd.pinned (.plain (OpenSpec.upto fnRenderedPartsSpec)) fnRenderedPartsUptoCard
end Rows
end Go.Proofs.YtphppdbhofeagaaDoor
