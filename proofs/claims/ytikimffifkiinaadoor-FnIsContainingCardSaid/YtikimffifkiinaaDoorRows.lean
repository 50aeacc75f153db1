/-
  NARROWER THAN 'FOR EVERY INPUT', by the rows' own cells (each row's printed sentence says how): FnNodeName: laid · FnIsContaining: laid.
  DERIVED. THE GIVEN ROWS OF THIS SEAT. 2 by the template 'for every input the law returns true; each argument reads behind the call as it read before'; 0 by the template 'total and deterministic' (their statements: YtikimffifkiinaaDoorTotals.lean).
  GIVEN WITH THE SEED: the statements are not yours to turn. If you find one false, say at which input.
  Laid BY PROGRAM, IN A SANDBOX (cutbox-rows.mjs): the forced cells as the released guide's own fill.sh prints them over the translation b06d3a9db06ecdf9… (all of the seat's roots in one cut). By AI agents, Wed Nov 11 2026. No macro, syntax, notation, axiom, sorry.
-/
import Derived.Test.YtikimffifkiinaaDoorChecked
import GoSem.Claim
import GoSem.ClaimJoined
import GoSem.ClaimMapViews
import Derived.JoinedTies
import Derived.KernelRfl
namespace Go.Proofs.YtikimffifkiinaaDoor
/- THE CELL 'sum', in the pinned program and in every row, IS THE sha256 OF THE DUMP (.gsa) THAT YtikimffifkiinaaDoorProg.lean LOADS. Nothing in Lean hashes anything: it is a label: what it is worth is what the hold of that sum in a sandbox is worth. -/
noncomputable def Tryd.pinned : Pinned := { name := "ytikimffifkiinaadoor", sum := "b06d3a9db06ecdf9f8ac94ae7e39bd519e9b908e5cb927168515754030ff3700", checked := Tryd.checked }
namespace Rows
def none {H : Type} : Left H := { results := [], args := [] }

/- WHAT THE LISTED PACKAGE-LEVEL VARIABLES READ AS WHEN THE CALL BEGINS. Each datum BY PROGRAM (the guide's laid-datum.mjs) off the statement by which the dump's own 'gosem.cut.vars' lays the variable. In a bare row this is a premise. The card (YtikimffifkiinaaDoorCards.lean) ties it to the program's text. -/
def laid_given_example_pub_bosquet_pub_goquery_nodeNames {H : Type} : DataW H := .slice [.lit (.string [35, 101, 114, 114, 111, 114]), .lit (.string [35, 116, 101, 120, 116]), .lit (.string [35, 100, 111, 99, 117, 109, 101, 110, 116]), .lit (.string []), .lit (.string [35, 99, 111, 109, 109, 101, 110, 116])] []
def laid_bytes_ErrTooLarge {H : Type} : DataW H := .iface "*errors.errorString" (.ptr (.agg [.lit (.string [98, 121, 116, 101, 115, 46, 66, 117, 102, 102, 101, 114, 58, 32, 116, 111, 111, 32, 108, 97, 114, 103, 101])]))

/-- 'laws.FnNodeName': WHATEVER THE INPUT: true; the input reads as it did. -/
def fnNodeNameSpec : ChangeSpec := { name := "fnNodeName", vars := ["given.example/pub-bosquet/pub/goquery.nodeNames"], fn := fun _ => fun
  | [d1, d2, g1] => { results := [.lit (.bool true)], args := [d1, d2], vars := [g1] }
  | _ => none }
def fnNodeNameRow : OpenClaim := { program := "ytikimffifkiinaadoor", sum := "b06d3a9db06ecdf9f8ac94ae7e39bd519e9b908e5cb927168515754030ff3700", func := "given.example/pub-bosquet/laws.FnNodeName", spec := "fnNodeName", recurses := true, named := ["given.example/pub-bosquet/pub/goquery.nodeNames"], apart := false, laid := [("given.example/pub-bosquet/pub/goquery.nodeNames", laid_given_example_pub_bosquet_pub_goquery_nodeNames)] }
def FnNodeNameSaid : Prop := fnNodeNameRow.holds Tryd.pinned (OpenSpec.ofChange fnNodeNameSpec)

/-- ITS FALSE NEIGHBOUR: 'it returns false'. Refute it at one input. -/
def fnNodeNameWrong : ChangeSpec := { name := "fnNodeName", vars := ["given.example/pub-bosquet/pub/goquery.nodeNames"], fn := fun _ => fun
  | [d1, d2, g1] => { results := [.lit (.bool false)], args := [d1, d2], vars := [g1] }
  | _ => none }
def FnNodeNameWrongFalsely : Prop := fnNodeNameRow.holds Tryd.pinned (OpenSpec.ofChange fnNodeNameWrong)

/-- 'laws.FnIsContaining': WHATEVER THE INPUT: true; the input reads as it did. -/
def fnIsContainingSpec : ChangeSpec := { name := "fnIsContaining", fn := fun _ => fun
  | [d1, d2, d3, d4] => { results := [.lit (.bool true)], args := [d1, d2, d3, d4] }
  | _ => none }
def fnIsContainingRow : OpenClaim := { program := "ytikimffifkiinaadoor", sum := "b06d3a9db06ecdf9f8ac94ae7e39bd519e9b908e5cb927168515754030ff3700", func := "given.example/pub-bosquet/laws.FnIsContaining", spec := "fnIsContaining", unfollowed := true, recurses := true, named := ["bytes.ErrTooLarge"], apart := false, laid := [("bytes.ErrTooLarge", laid_bytes_ErrTooLarge)] }
def FnIsContainingSaid : Prop := fnIsContainingRow.holds Tryd.pinned (OpenSpec.ofChange fnIsContainingSpec)

/-- ITS FALSE NEIGHBOUR: 'it returns false'. Refute it at one input. -/
def fnIsContainingWrong : ChangeSpec := { name := "fnIsContaining", fn := fun _ => fun
  | [d1, d2, d3, d4] => { results := [.lit (.bool false)], args := [d1, d2, d3, d4] }
  | _ => none }
def FnIsContainingWrongFalsely : Prop := fnIsContainingRow.holds Tryd.pinned (OpenSpec.ofChange fnIsContainingWrong)

/- THE SECOND FORM. 'bulk': how many values and letters a reading holds, each counted each time it is reached (what is shared counts as often as it is met; a slice's spare places count too). A statement '..UptoSaid' is the law's where the arguments, and the package variables that the reading takes, are together of bulk at most 1048576: NARROWER than '..Said'. Prove '..Said' where nothing that the law and all that it calls make is longer than what came in: it says more and counts as full. Else prove '..UptoSaid'. A law counts once. -/
mutual
def uptoBulk {H : Type} : DataW H → Nat
  | .lit (.string bytes) => bytes.length + 1
  | .lit _ => 1
  | .nil => 1
  | .ptr d => uptoBulk d + 1
  | .slice elems spare => uptoBulkAll elems + uptoBulkAll spare + 1
  | .agg parts => uptoBulkAll parts + 1
  | .iface _ d => uptoBulk d + 1
  | .map entries => uptoBulkEntries entries + 1
  | .held _ => 1
def uptoBulkAll {H : Type} : List (DataW H) → Nat
  | [] => 0
  | d :: r => uptoBulk d + uptoBulkAll r
def uptoBulkEntries {H : Type} : List (Lit × DataW H) → Nat
  | [] => 0
  | x :: r => uptoBulkEntry x + uptoBulkEntries r
def uptoBulkEntry {H : Type} : Lit × DataW H → Nat
  | (.string bytes, d) => bytes.length + uptoBulk d + 1
  | (_, d) => uptoBulk d + 1
 end
def uptoSmall : (H : Type) → List (DataW H) → Bool := fun _ ds => decide (uptoBulkAll ds ≤ 1048576)
def OpenSpec.upto (s : _root_.Go.ChangeSpec) : _root_.Go.OpenSpec := { _root_.Go.OpenSpec.ofChange s with cond := some uptoSmall }

/-- 'laws.FnNodeName', WHERE WHAT IT READS IS OF BULK AT MOST 1048576: true; the input reads as it did. -/
def fnNodeNameUptoRow : OpenClaim := { program := "ytikimffifkiinaadoor", sum := "b06d3a9db06ecdf9f8ac94ae7e39bd519e9b908e5cb927168515754030ff3700", func := "given.example/pub-bosquet/laws.FnNodeName", spec := "fnNodeName", recurses := true, named := ["given.example/pub-bosquet/pub/goquery.nodeNames"], apart := false, laid := [("given.example/pub-bosquet/pub/goquery.nodeNames", laid_given_example_pub_bosquet_pub_goquery_nodeNames)], narrowed := true }
def FnNodeNameUptoSaid : Prop := fnNodeNameUptoRow.holds Tryd.pinned (OpenSpec.upto fnNodeNameSpec)

/-- 'laws.FnIsContaining', WHERE WHAT IT READS IS OF BULK AT MOST 1048576: true; the input reads as it did. -/
def fnIsContainingUptoRow : OpenClaim := { program := "ytikimffifkiinaadoor", sum := "b06d3a9db06ecdf9f8ac94ae7e39bd519e9b908e5cb927168515754030ff3700", func := "given.example/pub-bosquet/laws.FnIsContaining", spec := "fnIsContaining", unfollowed := true, recurses := true, named := ["bytes.ErrTooLarge"], apart := false, laid := [("bytes.ErrTooLarge", laid_bytes_ErrTooLarge)], narrowed := true }
def FnIsContainingUptoSaid : Prop := fnIsContainingUptoRow.holds Tryd.pinned (OpenSpec.upto fnIsContainingSpec)

end Rows
end Go.Proofs.YtikimffifkiinaaDoor
