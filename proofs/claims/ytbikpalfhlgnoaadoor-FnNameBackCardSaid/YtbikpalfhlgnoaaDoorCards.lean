/-
  DERIVED. GIVEN WITH THE SEED: THE CARDS: each row of YtbikpalfhlgnoaaDoorRows.lean that lists a variable, with what it lists TIED to the program's text (the seventh form; the later family's looks); each row that meets fmt, with fmt's text TOLD by the authors' own Lean function (tested against real Go, not proved from fmt's source: count such statements apart). THE CARD IS WHAT COUNTS. Prove the row's statement (the work); the ties are given (YtbikpalfhlgnoaaDoorTie.lean); close each card by the builder's one call (the guide's Derived/Test/ToyasCard.lean, 'card_holds'). Laid BY PROGRAM, IN A SANDBOX (cutbox-door.mjs). By AI agents, Wed Nov 11 2026. No macro, syntax, notation, axiom, sorry.
-/
import Derived.Test.YtbikpalfhlgnoaaDoorRows
import GoSem.ClaimSeven
namespace Go.Proofs.YtbikpalfhlgnoaaDoor
namespace Rows

/-- THE TIED CARD OF 'laws.FnReadInteger'. -/
def fnReadIntegerCard : Claim7 := { stood := { row := fnReadIntegerRow, standIns := [], harness := (true, "767e1d0b10485a4119b041a8764c265506b919b386826d4e4a051e55903028e8"), looks := true }, kinds := [], alts := [], laidByText := true, laidKinds := [.data, .data, .data, .sentinel, .sentinel], laidTests := true, laidLooks := .later }
def FnReadIntegerCardSaid : Prop := Claim7.holds Tryd.pinned (.plain (OpenSpec.ofChange fnReadIntegerSpec)) fnReadIntegerCard

/-- THE TIED CARD OF 'laws.FnReadIdentifier'. -/
def fnReadIdentifierCard : Claim7 := { stood := { row := fnReadIdentifierRow, standIns := [], harness := (true, "767e1d0b10485a4119b041a8764c265506b919b386826d4e4a051e55903028e8"), looks := true }, kinds := [], alts := [], laidByText := true, laidKinds := [.data, .data, .data, .sentinel, .sentinel], laidTests := true, laidLooks := .later }
def FnReadIdentifierCardSaid : Prop := Claim7.holds Tryd.pinned (.plain (OpenSpec.ofChange fnReadIdentifierSpec)) fnReadIdentifierCard

/-- THE TIED CARD OF 'laws.FnNameBack'. -/
def fnNameBackCard : Claim7 := { stood := { row := fnNameBackRow, standIns := [], harness := (true, "767e1d0b10485a4119b041a8764c265506b919b386826d4e4a051e55903028e8"), looks := true }, kinds := [], alts := [], laidByText := true, laidKinds := [.data, .data, .data, .sentinel, .sentinel], laidTests := true, laidLooks := .later }
def FnNameBackCardSaid : Prop := Claim7.holds Tryd.pinned (.plain (OpenSpec.ofChange fnNameBackSpec)) fnNameBackCard

/-- THE TIED CARD OF 'laws.FnEscapedBack'. -/
def fnEscapedBackCard : Claim7 := { stood := { row := fnEscapedBackRow, standIns := [], harness := (true, "767e1d0b10485a4119b041a8764c265506b919b386826d4e4a051e55903028e8"), looks := true }, kinds := [], alts := [], laidByText := true, laidKinds := [.data, .data, .data, .sentinel, .sentinel], laidTests := true, laidLooks := .later }
def FnEscapedBackCardSaid : Prop := Claim7.holds Tryd.pinned (.plain (OpenSpec.ofChange fnEscapedBackSpec)) fnEscapedBackCard

/-- THE SECOND FORM's CARD OF 'laws.FnReadInteger'. -/
def fnReadIntegerUptoCard : Claim7 := { stood := { row := fnReadIntegerUptoRow, standIns := [], harness := (true, "767e1d0b10485a4119b041a8764c265506b919b386826d4e4a051e55903028e8"), looks := true }, kinds := [], alts := [], laidByText := true, laidKinds := [.data, .data, .data, .sentinel, .sentinel], laidTests := true, laidLooks := .later }
def FnReadIntegerUptoCardSaid : Prop := Claim7.holds Tryd.pinned (.plain (OpenSpec.upto fnReadIntegerSpec)) fnReadIntegerUptoCard

/-- THE SECOND FORM's CARD OF 'laws.FnReadIdentifier'. -/
def fnReadIdentifierUptoCard : Claim7 := { stood := { row := fnReadIdentifierUptoRow, standIns := [], harness := (true, "767e1d0b10485a4119b041a8764c265506b919b386826d4e4a051e55903028e8"), looks := true }, kinds := [], alts := [], laidByText := true, laidKinds := [.data, .data, .data, .sentinel, .sentinel], laidTests := true, laidLooks := .later }
def FnReadIdentifierUptoCardSaid : Prop := Claim7.holds Tryd.pinned (.plain (OpenSpec.upto fnReadIdentifierSpec)) fnReadIdentifierUptoCard

/-- THE SECOND FORM's CARD OF 'laws.FnNameBack'. -/
def fnNameBackUptoCard : Claim7 := { stood := { row := fnNameBackUptoRow, standIns := [], harness := (true, "767e1d0b10485a4119b041a8764c265506b919b386826d4e4a051e55903028e8"), looks := true }, kinds := [], alts := [], laidByText := true, laidKinds := [.data, .data, .data, .sentinel, .sentinel], laidTests := true, laidLooks := .later }
def FnNameBackUptoCardSaid : Prop := Claim7.holds Tryd.pinned (.plain (OpenSpec.upto fnNameBackSpec)) fnNameBackUptoCard

/-- THE SECOND FORM's CARD OF 'laws.FnEscapedBack'. -/
def fnEscapedBackUptoCard : Claim7 := { stood := { row := fnEscapedBackUptoRow, standIns := [], harness := (true, "767e1d0b10485a4119b041a8764c265506b919b386826d4e4a051e55903028e8"), looks := true }, kinds := [], alts := [], laidByText := true, laidKinds := [.data, .data, .data, .sentinel, .sentinel], laidTests := true, laidLooks := .later }
def FnEscapedBackUptoCardSaid : Prop := Claim7.holds Tryd.pinned (.plain (OpenSpec.upto fnEscapedBackSpec)) fnEscapedBackUptoCard
end Rows
end Go.Proofs.YtbikpalfhlgnoaaDoor
