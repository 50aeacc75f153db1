/-
  DERIVED. GIVEN WITH THE SEED: THE CARDS: each row of YtoanofdomhnafaaGreatDoorRows.lean that lists a variable, with what it lists TIED to the program's text (the seventh form; the later family's looks); each row that meets fmt, with fmt's text TOLD by the authors' own Lean function (tested against real Go, not proved from fmt's source: count such statements apart). THE CARD IS WHAT COUNTS. Prove the row's statement (the work); the ties are given (YtoanofdomhnafaaGreatDoorTie.lean); close each card by the builder's one call (the guide's Derived/Test/ToyasCard.lean, 'card_holds'). Laid BY PROGRAM, IN A SANDBOX (cutbox-door.mjs). By AI agents, Wed Nov 11 2026. No macro, syntax, notation, axiom, sorry.
-/
import Derived.Test.YtoanofdomhnafaaGreatDoorRows
import GoSem.ClaimSeven
namespace Go.Proofs.YtoanofdomhnafaaGreatDoor
namespace Rows

/-- THE TIED CARD OF 'laws.FnSpecific'. -/
def fnSpecificCard : Claim7 := { stood := { row := fnSpecificRow, standIns := [], harness := (true, "67a72a37d47e416e2d13e982829b15fd13c4deb94e79298590b6d4d44ef72f4f"), looks := true }, kinds := [], alts := [], laidByText := true, laidKinds := [.data, .data, .data, .sentinel, .sentinel, .sentinel, .sentinel, .sentinel], laidTests := true, laidLooks := .later }
def FnSpecificCardSaid : Prop := Claim7.holds Tryz.pinned (.plain (OpenSpec.ofChange fnSpecificSpec)) fnSpecificCard

/-- THE SECOND FORM's CARD OF 'laws.FnSpecific'. -/
def fnSpecificUptoCard : Claim7 := { stood := { row := fnSpecificUptoRow, standIns := [], harness := (true, "67a72a37d47e416e2d13e982829b15fd13c4deb94e79298590b6d4d44ef72f4f"), looks := true }, kinds := [], alts := [], laidByText := true, laidKinds := [.data, .data, .data, .sentinel, .sentinel, .sentinel, .sentinel, .sentinel], laidTests := true, laidLooks := .later }
def FnSpecificUptoCardSaid : Prop := Claim7.holds Tryz.pinned (.plain (OpenSpec.upto fnSpecificSpec)) fnSpecificUptoCard
end Rows
end Go.Proofs.YtoanofdomhnafaaGreatDoor
