/-
  NARROWER THAN 'FOR EVERY INPUT', by the rows' own cells (each row's printed sentence says how): FnRenderedParts: ifaces, maps, laid.
  DERIVED. THE GIVEN ROWS OF THIS SEAT. 1 by the template 'for every input the law returns true; each argument reads behind the call as it read before'; 0 by the template 'total and deterministic' (their statements: YtphppdbhofeagaaDoorTotals.lean).
  GIVEN WITH THE SEED: the statements are not yours to turn. If you find one false, say at which input.
  Laid BY PROGRAM, IN A SANDBOX (cutbox-rows.mjs): the forced cells as the released guide's own fill.sh prints them over the translation 8ece552739d6d282… (all of the seat's roots in one cut). By AI agents, Wed Nov 11 2026. No macro, syntax, notation, axiom, sorry.
-/
import Derived.Test.YtphppdbhofeagaaDoorChecked
import GoSem.PinnedTables
import GoSem.Claim
import GoSem.ClaimJoined
import GoSem.ClaimMapViews
import Derived.JoinedTies
import Derived.KernelRfl
namespace Go.Proofs.YtphppdbhofeagaaDoor
/- THE CELL 'sum', in the pinned program and in every row, IS THE sha256 OF THE DUMP (.gsa) THAT YtphppdbhofeagaaDoorProg.lean LOADS. Nothing in Lean hashes anything: it is a label: what it is worth is what the hold of that sum in a sandbox is worth. -/
noncomputable def Tryd.pinned : Pinned := { name := "ytphppdbhofeagaadoor", sum := "8ece552739d6d2821adb3b69c32e4e19b324c8f243cb221e71a2d90889ee8ae4", checked := Tryd.checked }
namespace Rows
def none {H : Type} : Left H := { results := [], args := [] }

/- WHAT THE LISTED PACKAGE-LEVEL VARIABLES READ AS WHEN THE CALL BEGINS. Each datum BY PROGRAM (the guide's laid-datum.mjs) off the statement by which the dump's own 'gosem.cut.vars' lays the variable. In a bare row this is a premise. The card (YtphppdbhofeagaaDoorCards.lean) ties it to the program's text. -/
def laid_unicode_utf8_acceptRanges {H : Type} : DataW H := .agg [.agg [.lit (.int .u8 128), .lit (.int .u8 191)], .agg [.lit (.int .u8 160), .lit (.int .u8 191)], .agg [.lit (.int .u8 128), .lit (.int .u8 159)], .agg [.lit (.int .u8 144), .lit (.int .u8 191)], .agg [.lit (.int .u8 128), .lit (.int .u8 143)], .agg [.lit (.int .u8 0), .lit (.int .u8 0)], .agg [.lit (.int .u8 0), .lit (.int .u8 0)], .agg [.lit (.int .u8 0), .lit (.int .u8 0)], .agg [.lit (.int .u8 0), .lit (.int .u8 0)], .agg [.lit (.int .u8 0), .lit (.int .u8 0)], .agg [.lit (.int .u8 0), .lit (.int .u8 0)], .agg [.lit (.int .u8 0), .lit (.int .u8 0)], .agg [.lit (.int .u8 0), .lit (.int .u8 0)], .agg [.lit (.int .u8 0), .lit (.int .u8 0)], .agg [.lit (.int .u8 0), .lit (.int .u8 0)], .agg [.lit (.int .u8 0), .lit (.int .u8 0)]]
def laid_given_example_pub_bosquet_pub_net_html_plaintextAbort {H : Type} : DataW H := .iface "*errors.errorString" (.ptr (.agg [.lit (.string [104, 116, 109, 108, 58, 32, 105, 110, 116, 101, 114, 110, 97, 108, 32, 101, 114, 114, 111, 114, 32, 40, 112, 108, 97, 105, 110, 116, 101, 120, 116, 32, 97, 98, 111, 114, 116, 41])]))
def laid_given_example_pub_bosquet_pub_net_html_voidElements {H : Type} : DataW H := .map [(.string [97, 114, 101, 97], .lit (.bool true)), (.string [98, 97, 115, 101], .lit (.bool true)), (.string [98, 114], .lit (.bool true)), (.string [99, 111, 108], .lit (.bool true)), (.string [101, 109, 98, 101, 100], .lit (.bool true)), (.string [104, 114], .lit (.bool true)), (.string [105, 109, 103], .lit (.bool true)), (.string [105, 110, 112, 117, 116], .lit (.bool true)), (.string [107, 101, 121, 103, 101, 110], .lit (.bool true)), (.string [108, 105, 110, 107], .lit (.bool true)), (.string [109, 101, 116, 97], .lit (.bool true)), (.string [112, 97, 114, 97, 109], .lit (.bool true)), (.string [115, 111, 117, 114, 99, 101], .lit (.bool true)), (.string [116, 114, 97, 99, 107], .lit (.bool true)), (.string [119, 98, 114], .lit (.bool true))]
/-- One of Go's own tables, pinned by name: the form's constant. -/
def laid_unicode_utf8_first : DataW Unit := Go.Pinned.utf8First

/-- 'laws.FnRenderedParts': WHATEVER THE INPUT: true; the input reads as it did. -/
def fnRenderedPartsSpec : ChangeSpec := { name := "fnRenderedParts", vars := ["given.example/pub-bosquet/pub/net/html.plaintextAbort", "given.example/pub-bosquet/pub/net/html.voidElements"], fn := fun _ => fun
  | [d1, d2, g1, g2] => { results := [.lit (.bool true)], args := [d1, d2], vars := [g1, g2] }
  | _ => none }
def fnRenderedPartsRow : OpenClaim := { program := "ytphppdbhofeagaadoor", sum := "8ece552739d6d2821adb3b69c32e4e19b324c8f243cb221e71a2d90889ee8ae4", func := "given.example/pub-bosquet/laws.FnRenderedParts", spec := "fnRenderedParts", unfollowed := true, recurses := true, named := ["unicode/utf8.first", "unicode/utf8.acceptRanges", "given.example/pub-bosquet/pub/net/html.plaintextAbort", "given.example/pub-bosquet/pub/net/html.voidElements"], maps := true, ifaces := true, apart := false, laid := [("unicode/utf8.acceptRanges", laid_unicode_utf8_acceptRanges), ("given.example/pub-bosquet/pub/net/html.plaintextAbort", laid_given_example_pub_bosquet_pub_net_html_plaintextAbort), ("given.example/pub-bosquet/pub/net/html.voidElements", laid_given_example_pub_bosquet_pub_net_html_voidElements), ("unicode/utf8.first", laid_unicode_utf8_first)] }
def FnRenderedPartsSaid : Prop := fnRenderedPartsRow.holds Tryd.pinned (OpenSpec.ofChange fnRenderedPartsSpec)

/-- ITS FALSE NEIGHBOUR: 'it returns false'. Refute it at one input. -/
def fnRenderedPartsWrong : ChangeSpec := { name := "fnRenderedParts", vars := ["given.example/pub-bosquet/pub/net/html.plaintextAbort", "given.example/pub-bosquet/pub/net/html.voidElements"], fn := fun _ => fun
  | [d1, d2, g1, g2] => { results := [.lit (.bool false)], args := [d1, d2], vars := [g1, g2] }
  | _ => none }
def FnRenderedPartsWrongFalsely : Prop := fnRenderedPartsRow.holds Tryd.pinned (OpenSpec.ofChange fnRenderedPartsWrong)

/- THE SECOND FORM. 'bulk': how many values and letters a reading holds, each counted each time it is reached (what is shared counts as often as it is met; a slice's spare places count too). A statement '..UptoSaid' is the law's where the arguments, and the package variables that the reading takes, are together of bulk at most 1048576: NARROWER than '..Said'. Prove '..Said' where nothing that the law and all that it calls make is longer than what came in: it says more and counts as full. Else prove '..UptoSaid'. A law counts once. -/
mutual
def uptoBulk {H : Type} : DataW H → Nat
  | .lit (.string bytes) => bytes.length + 1
  | .lit _ => 1
  | .nil => 1
  | .ptr d => uptoBulk d + 1
  | .slice elems spare => uptoBulkAll elems + uptoBulkAll spare + 1
  | .agg parts => uptoBulkAll parts + 1
  | .iface _ d => uptoBulk d + 1
  | .map entries => uptoBulkEntries entries + 1
  | .held _ => 1
def uptoBulkAll {H : Type} : List (DataW H) → Nat
  | [] => 0
  | d :: r => uptoBulk d + uptoBulkAll r
def uptoBulkEntries {H : Type} : List (Lit × DataW H) → Nat
  | [] => 0
  | x :: r => uptoBulkEntry x + uptoBulkEntries r
def uptoBulkEntry {H : Type} : Lit × DataW H → Nat
  | (.string bytes, d) => bytes.length + uptoBulk d + 1
  | (_, d) => uptoBulk d + 1
 end
def uptoSmall : (H : Type) → List (DataW H) → Bool := fun _ ds => decide (uptoBulkAll ds ≤ 1048576)
def OpenSpec.upto (s : _root_.Go.ChangeSpec) : _root_.Go.OpenSpec := { _root_.Go.OpenSpec.ofChange s with cond := some uptoSmall }

/-- 'laws.FnRenderedParts', WHERE WHAT IT READS IS OF BULK AT MOST 1048576: true; the input reads as it did. -/
def fnRenderedPartsUptoRow : OpenClaim := { program := "ytphppdbhofeagaadoor", sum := "8ece552739d6d2821adb3b69c32e4e19b324c8f243cb221e71a2d90889ee8ae4", func := "given.example/pub-bosquet/laws.FnRenderedParts", spec := "fnRenderedParts", unfollowed := true, recurses := true, named := ["unicode/utf8.first", "unicode/utf8.acceptRanges", "given.example/pub-bosquet/pub/net/html.plaintextAbort", "given.example/pub-bosquet/pub/net/html.voidElements"], maps := true, ifaces := true, apart := false, laid := [("unicode/utf8.acceptRanges", laid_unicode_utf8_acceptRanges), ("given.example/pub-bosquet/pub/net/html.plaintextAbort", laid_given_example_pub_bosquet_pub_net_html_plaintextAbort), ("given.example/pub-bosquet/pub/net/html.voidElements", laid_given_example_pub_bosquet_pub_net_html_voidElements), ("unicode/utf8.first", laid_unicode_utf8_first)], narrowed := true }
def FnRenderedPartsUptoSaid : Prop := fnRenderedPartsUptoRow.holds Tryd.pinned (OpenSpec.upto fnRenderedPartsSpec)

end Rows
end Go.Proofs.YtphppdbhofeagaaDoor
