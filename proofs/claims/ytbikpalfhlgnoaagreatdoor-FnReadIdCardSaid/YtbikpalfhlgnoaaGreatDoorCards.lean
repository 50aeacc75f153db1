/-
  DERIVED. GIVEN WITH THE SEED: THE CARDS: each row of YtbikpalfhlgnoaaGreatDoorRows.lean that lists a variable, with what it lists TIED to the program's text (the seventh form; the later family's looks); each row that meets fmt, with fmt's text TOLD by the authors' own Lean function (tested against real Go, not proved from fmt's source: count such statements apart). THE CARD IS WHAT COUNTS. Prove the row's statement (the work); the ties are given (YtbikpalfhlgnoaaGreatDoorTie.lean); close each card by the builder's one call (the guide's Derived/Test/ToyasCard.lean, 'card_holds'). Laid BY PROGRAM, IN A SANDBOX (cutbox-door.mjs). By AI agents, Wed Nov 11 2026. No macro, syntax, notation, axiom, sorry.
-/
import Derived.Test.YtbikpalfhlgnoaaGreatDoorRows
import GoSem.ClaimSeven
namespace Go.Proofs.YtbikpalfhlgnoaaGreatDoor
namespace Rows

/-- THE TIED CARD OF 'laws.FnReadId'. -/
def fnReadIdCard : Claim7 := { stood := { row := fnReadIdRow, standIns := [], harness := (true, "afa697751acb01b075ae464e143c6e52b89b2516e2581050e248591ac637ef0e"), looks := true }, kinds := [], alts := [], laidByText := true, laidKinds := [.data, .data, .data, .sentinel, .sentinel], laidTests := true, laidLooks := .later }
def FnReadIdCardSaid : Prop := Claim7.holds Tryz.pinned (.plain (OpenSpec.ofChange fnReadIdSpec)) fnReadIdCard

/-- THE SECOND FORM's CARD OF 'laws.FnReadId'. -/
def fnReadIdUptoCard : Claim7 := { stood := { row := fnReadIdUptoRow, standIns := [], harness := (true, "afa697751acb01b075ae464e143c6e52b89b2516e2581050e248591ac637ef0e"), looks := true }, kinds := [], alts := [], laidByText := true, laidKinds := [.data, .data, .data, .sentinel, .sentinel], laidTests := true, laidLooks := .later }
def FnReadIdUptoCardSaid : Prop := Claim7.holds Tryz.pinned (.plain (OpenSpec.upto fnReadIdSpec)) fnReadIdUptoCard
end Rows
end Go.Proofs.YtbikpalfhlgnoaaGreatDoor
