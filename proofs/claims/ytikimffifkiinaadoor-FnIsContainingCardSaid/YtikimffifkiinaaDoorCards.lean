/-
  DERIVED. GIVEN WITH THE SEED: THE CARDS: each row of YtikimffifkiinaaDoorRows.lean that lists a variable, with what it lists TIED to the program's text (the seventh form; the later family's looks); each row that meets fmt, with fmt's text TOLD by the authors' own Lean function (tested against real Go, not proved from fmt's source: count such statements apart). THE CARD IS WHAT COUNTS. Prove the row's statement (the work); the ties are given (YtikimffifkiinaaDoorTie.lean); close each card by the builder's one call (the guide's Derived/Test/ToyasCard.lean, 'card_holds'). Laid BY PROGRAM, IN A SANDBOX (cutbox-door.mjs). By AI agents, Wed Nov 11 2026. No macro, syntax, notation, axiom, sorry.
-/
import Derived.Test.YtikimffifkiinaaDoorRows
import GoSem.ClaimSeven
namespace Go.Proofs.YtikimffifkiinaaDoor
namespace Rows

/-- THE TIED CARD OF 'laws.FnNodeName'. -/
def fnNodeNameCard : Claim7 := { stood := { row := fnNodeNameRow, standIns := [], harness := (true, "9986d393ec981d651b52ed0123f2a341ef73574a01d7d5363f12c1e32ecf4ada"), looks := false }, kinds := [], alts := [], laidByText := true, laidKinds := [.data], laidTests := true, laidLooks := .later }
def FnNodeNameCardSaid : Prop := Claim7.holds Tryd.pinned (.plain (OpenSpec.ofChange fnNodeNameSpec)) fnNodeNameCard

/-- THE TIED CARD OF 'laws.FnIsContaining'. -/
def fnIsContainingCard : Claim7 := { stood := { row := fnIsContainingRow, standIns := [], harness := (true, "9986d393ec981d651b52ed0123f2a341ef73574a01d7d5363f12c1e32ecf4ada"), looks := false }, kinds := [], alts := [], laidByText := true, laidKinds := [.sentinel], laidTests := true, laidLooks := .later }
def FnIsContainingCardSaid : Prop := Claim7.holds Tryd.pinned (.plain (OpenSpec.ofChange fnIsContainingSpec)) fnIsContainingCard

/-- THE SECOND FORM's CARD OF 'laws.FnNodeName'. -/
def fnNodeNameUptoCard : Claim7 := { stood := { row := fnNodeNameUptoRow, standIns := [], harness := (true, "9986d393ec981d651b52ed0123f2a341ef73574a01d7d5363f12c1e32ecf4ada"), looks := false }, kinds := [], alts := [], laidByText := true, laidKinds := [.data], laidTests := true, laidLooks := .later }
def FnNodeNameUptoCardSaid : Prop := Claim7.holds Tryd.pinned (.plain (OpenSpec.upto fnNodeNameSpec)) fnNodeNameUptoCard

/-- THE SECOND FORM's CARD OF 'laws.FnIsContaining'. -/
def fnIsContainingUptoCard : Claim7 := { stood := { row := fnIsContainingUptoRow, standIns := [], harness := (true, "9986d393ec981d651b52ed0123f2a341ef73574a01d7d5363f12c1e32ecf4ada"), looks := false }, kinds := [], alts := [], laidByText := true, laidKinds := [.sentinel], laidTests := true, laidLooks := .later }
def FnIsContainingUptoCardSaid : Prop := Claim7.holds Tryd.pinned (.plain (OpenSpec.upto fnIsContainingSpec)) fnIsContainingUptoCard
end Rows
end Go.Proofs.YtikimffifkiinaaDoor
