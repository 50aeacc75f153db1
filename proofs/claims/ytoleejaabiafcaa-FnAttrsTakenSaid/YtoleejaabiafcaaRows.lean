/-
  No cell of these rows narrows 'for every input' (looked for: loops, veiled, ifaces, maps, wideKeys, modest, calm, conditions, laid).
  DERIVED. THE GIVEN ROWS OF THIS SEAT. 9 by the template 'for every input the law returns true; each argument reads behind the call as it read before'; 0 by the template 'total and deterministic' (their statements: YtoleejaabiafcaaTotals.lean).
  GIVEN WITH THE SEED: the statements are not yours to turn. If you find one false, say at which input.
  Laid BY PROGRAM, IN A SANDBOX (cutbox-rows.mjs): the forced cells as the released guide's own fill.sh prints them over the translation 4ff29da787df8460… (all of the seat's roots in one cut). By AI agents, Wed Nov 11 2026. No macro, syntax, notation, axiom, sorry.
-/
import Derived.Test.YtoleejaabiafcaaChecked
import GoSem.Claim
import GoSem.ClaimJoined
import GoSem.ClaimMapViews
import Derived.JoinedTies
import Derived.KernelRfl
namespace Go.Proofs.Ytoleejaabiafcaa
/- THE CELL 'sum', in the pinned program and in every row, IS THE sha256 OF THE DUMP (.gsa) THAT YtoleejaabiafcaaProg.lean LOADS. Nothing in Lean hashes anything: it is a label: what it is worth is what the hold of that sum in a sandbox is worth. -/
noncomputable def Try.pinned : Pinned := { name := "ytoleejaabiafcaa", sum := "4ff29da787df846078722b0d6d4ce79d3120c0257e323e73796b7aafc4aad498", checked := Try.checked }
namespace Rows
def none {H : Type} : Left H := { results := [], args := [] }

/-- 'laws.FnRemoveOf': WHATEVER THE INPUT: true; the input reads as it did. -/
def fnRemoveOfSpec : ChangeSpec := { name := "fnRemoveOf", fn := fun _ => fun
  | [d1, d2] => { results := [.lit (.bool true)], args := [d1, d2] }
  | _ => none }
def fnRemoveOfRow : OpenClaim := { program := "ytoleejaabiafcaa", sum := "4ff29da787df846078722b0d6d4ce79d3120c0257e323e73796b7aafc4aad498", func := "given.example/pub-bosquet/laws.FnRemoveOf", spec := "fnRemoveOf", recurses := true, apart := false }
def FnRemoveOfSaid : Prop := fnRemoveOfRow.holds Try.pinned (OpenSpec.ofChange fnRemoveOfSpec)

/-- ITS FALSE NEIGHBOUR: 'it returns false'. Refute it at one input. -/
def fnRemoveOfWrong : ChangeSpec := { name := "fnRemoveOf", fn := fun _ => fun
  | [d1, d2] => { results := [.lit (.bool false)], args := [d1, d2] }
  | _ => none }
def FnRemoveOfWrongFalsely : Prop := fnRemoveOfRow.holds Try.pinned (OpenSpec.ofChange fnRemoveOfWrong)

/-- 'laws.FnRemoved': WHATEVER THE INPUT: true; the input reads as it did. -/
def fnRemovedSpec : ChangeSpec := { name := "fnRemoved", fn := fun _ => fun
  | [d1, d2] => { results := [.lit (.bool true)], args := [d1, d2] }
  | _ => none }
def fnRemovedRow : OpenClaim := { program := "ytoleejaabiafcaa", sum := "4ff29da787df846078722b0d6d4ce79d3120c0257e323e73796b7aafc4aad498", func := "given.example/pub-bosquet/laws.FnRemoved", spec := "fnRemoved", recurses := true, apart := false }
def FnRemovedSaid : Prop := fnRemovedRow.holds Try.pinned (OpenSpec.ofChange fnRemovedSpec)

/-- ITS FALSE NEIGHBOUR: 'it returns false'. Refute it at one input. -/
def fnRemovedWrong : ChangeSpec := { name := "fnRemoved", fn := fun _ => fun
  | [d1, d2] => { results := [.lit (.bool false)], args := [d1, d2] }
  | _ => none }
def FnRemovedWrongFalsely : Prop := fnRemovedRow.holds Try.pinned (OpenSpec.ofChange fnRemovedWrong)

/-- 'laws.FnAppended': WHATEVER THE INPUT: true; the input reads as it did. -/
def fnAppendedSpec : ChangeSpec := { name := "fnAppended", fn := fun _ => fun
  | [d1, d2, d3] => { results := [.lit (.bool true)], args := [d1, d2, d3] }
  | _ => none }
def fnAppendedRow : OpenClaim := { program := "ytoleejaabiafcaa", sum := "4ff29da787df846078722b0d6d4ce79d3120c0257e323e73796b7aafc4aad498", func := "given.example/pub-bosquet/laws.FnAppended", spec := "fnAppended", unfollowed := true, recurses := true, apart := false }
def FnAppendedSaid : Prop := fnAppendedRow.holds Try.pinned (OpenSpec.ofChange fnAppendedSpec)

/-- ITS FALSE NEIGHBOUR: 'it returns false'. Refute it at one input. -/
def fnAppendedWrong : ChangeSpec := { name := "fnAppended", fn := fun _ => fun
  | [d1, d2, d3] => { results := [.lit (.bool false)], args := [d1, d2, d3] }
  | _ => none }
def FnAppendedWrongFalsely : Prop := fnAppendedRow.holds Try.pinned (OpenSpec.ofChange fnAppendedWrong)

/-- 'laws.FnAfterMoves': WHATEVER THE INPUT: true; the input reads as it did. -/
def fnAfterMovesSpec : ChangeSpec := { name := "fnAfterMoves", fn := fun _ => fun
  | [d1, d2, d3] => { results := [.lit (.bool true)], args := [d1, d2, d3] }
  | _ => none }
def fnAfterMovesRow : OpenClaim := { program := "ytoleejaabiafcaa", sum := "4ff29da787df846078722b0d6d4ce79d3120c0257e323e73796b7aafc4aad498", func := "given.example/pub-bosquet/laws.FnAfterMoves", spec := "fnAfterMoves", unfollowed := true, recurses := true, apart := false }
def FnAfterMovesSaid : Prop := fnAfterMovesRow.holds Try.pinned (OpenSpec.ofChange fnAfterMovesSpec)

/-- ITS FALSE NEIGHBOUR: 'it returns false'. Refute it at one input. -/
def fnAfterMovesWrong : ChangeSpec := { name := "fnAfterMoves", fn := fun _ => fun
  | [d1, d2, d3] => { results := [.lit (.bool false)], args := [d1, d2, d3] }
  | _ => none }
def FnAfterMovesWrongFalsely : Prop := fnAfterMovesRow.holds Try.pinned (OpenSpec.ofChange fnAfterMovesWrong)

/-- 'laws.FnAfterOf': WHATEVER THE INPUT: true; the input reads as it did. -/
def fnAfterOfSpec : ChangeSpec := { name := "fnAfterOf", fn := fun _ => fun
  | [d1, d2, d3] => { results := [.lit (.bool true)], args := [d1, d2, d3] }
  | _ => none }
def fnAfterOfRow : OpenClaim := { program := "ytoleejaabiafcaa", sum := "4ff29da787df846078722b0d6d4ce79d3120c0257e323e73796b7aafc4aad498", func := "given.example/pub-bosquet/laws.FnAfterOf", spec := "fnAfterOf", unfollowed := true, recurses := true, apart := false }
def FnAfterOfSaid : Prop := fnAfterOfRow.holds Try.pinned (OpenSpec.ofChange fnAfterOfSpec)

/-- ITS FALSE NEIGHBOUR: 'it returns false'. Refute it at one input. -/
def fnAfterOfWrong : ChangeSpec := { name := "fnAfterOf", fn := fun _ => fun
  | [d1, d2, d3] => { results := [.lit (.bool false)], args := [d1, d2, d3] }
  | _ => none }
def FnAfterOfWrongFalsely : Prop := fnAfterOfRow.holds Try.pinned (OpenSpec.ofChange fnAfterOfWrong)

/-- 'laws.FnInsertedBefore': WHATEVER THE INPUT: true; the input reads as it did. -/
def fnInsertedBeforeSpec : ChangeSpec := { name := "fnInsertedBefore", fn := fun _ => fun
  | [d1, d2, d3] => { results := [.lit (.bool true)], args := [d1, d2, d3] }
  | _ => none }
def fnInsertedBeforeRow : OpenClaim := { program := "ytoleejaabiafcaa", sum := "4ff29da787df846078722b0d6d4ce79d3120c0257e323e73796b7aafc4aad498", func := "given.example/pub-bosquet/laws.FnInsertedBefore", spec := "fnInsertedBefore", unfollowed := true, recurses := true, apart := false }
def FnInsertedBeforeSaid : Prop := fnInsertedBeforeRow.holds Try.pinned (OpenSpec.ofChange fnInsertedBeforeSpec)

/-- ITS FALSE NEIGHBOUR: 'it returns false'. Refute it at one input. -/
def fnInsertedBeforeWrong : ChangeSpec := { name := "fnInsertedBefore", fn := fun _ => fun
  | [d1, d2, d3] => { results := [.lit (.bool false)], args := [d1, d2, d3] }
  | _ => none }
def FnInsertedBeforeWrongFalsely : Prop := fnInsertedBeforeRow.holds Try.pinned (OpenSpec.ofChange fnInsertedBeforeWrong)

/-- 'laws.FnWrapOf': WHATEVER THE INPUT: true; the input reads as it did. -/
def fnWrapOfSpec : ChangeSpec := { name := "fnWrapOf", fn := fun _ => fun
  | [d1, d2, d3] => { results := [.lit (.bool true)], args := [d1, d2, d3] }
  | _ => none }
def fnWrapOfRow : OpenClaim := { program := "ytoleejaabiafcaa", sum := "4ff29da787df846078722b0d6d4ce79d3120c0257e323e73796b7aafc4aad498", func := "given.example/pub-bosquet/laws.FnWrapOf", spec := "fnWrapOf", unfollowed := true, recurses := true, apart := false }
def FnWrapOfSaid : Prop := fnWrapOfRow.holds Try.pinned (OpenSpec.ofChange fnWrapOfSpec)

/-- ITS FALSE NEIGHBOUR: 'it returns false'. Refute it at one input. -/
def fnWrapOfWrong : ChangeSpec := { name := "fnWrapOf", fn := fun _ => fun
  | [d1, d2, d3] => { results := [.lit (.bool false)], args := [d1, d2, d3] }
  | _ => none }
def FnWrapOfWrongFalsely : Prop := fnWrapOfRow.holds Try.pinned (OpenSpec.ofChange fnWrapOfWrong)

/-- 'laws.FnAttrsTaken': WHATEVER THE INPUT: true; the input reads as it did. -/
def fnAttrsTakenSpec : ChangeSpec := { name := "fnAttrsTaken", fn := fun _ => fun
  | [d1, d2] => { results := [.lit (.bool true)], args := [d1, d2] }
  | _ => none }
def fnAttrsTakenRow : OpenClaim := { program := "ytoleejaabiafcaa", sum := "4ff29da787df846078722b0d6d4ce79d3120c0257e323e73796b7aafc4aad498", func := "given.example/pub-bosquet/laws.FnAttrsTaken", spec := "fnAttrsTaken", inPlace := ["internal/abi.NoEscape", "internal/bytealg.MakeNoZero"], apart := false }
def FnAttrsTakenSaid : Prop := fnAttrsTakenRow.holds Try.pinned (OpenSpec.ofChange fnAttrsTakenSpec)

/-- ITS FALSE NEIGHBOUR: 'it returns false'. Refute it at one input. -/
def fnAttrsTakenWrong : ChangeSpec := { name := "fnAttrsTaken", fn := fun _ => fun
  | [d1, d2] => { results := [.lit (.bool false)], args := [d1, d2] }
  | _ => none }
def FnAttrsTakenWrongFalsely : Prop := fnAttrsTakenRow.holds Try.pinned (OpenSpec.ofChange fnAttrsTakenWrong)

/-- 'laws.FnClassesGone': WHATEVER THE INPUT: true; the input reads as it did. -/
def fnClassesGoneSpec : ChangeSpec := { name := "fnClassesGone", fn := fun _ => fun
  | [d1, d2] => { results := [.lit (.bool true)], args := [d1, d2] }
  | _ => none }
def fnClassesGoneRow : OpenClaim := { program := "ytoleejaabiafcaa", sum := "4ff29da787df846078722b0d6d4ce79d3120c0257e323e73796b7aafc4aad498", func := "given.example/pub-bosquet/laws.FnClassesGone", spec := "fnClassesGone", inPlace := ["internal/abi.NoEscape", "internal/bytealg.MakeNoZero"], recurses := true, apart := false }
def FnClassesGoneSaid : Prop := fnClassesGoneRow.holds Try.pinned (OpenSpec.ofChange fnClassesGoneSpec)

/-- ITS FALSE NEIGHBOUR: 'it returns false'. Refute it at one input. -/
def fnClassesGoneWrong : ChangeSpec := { name := "fnClassesGone", fn := fun _ => fun
  | [d1, d2] => { results := [.lit (.bool false)], args := [d1, d2] }
  | _ => none }
def FnClassesGoneWrongFalsely : Prop := fnClassesGoneRow.holds Try.pinned (OpenSpec.ofChange fnClassesGoneWrong)

/- THE SECOND FORM. 'bulk': how many values and letters a reading holds, each counted each time it is reached (what is shared counts as often as it is met; a slice's spare places count too). A statement '..UptoSaid' is the law's where the arguments, and the package variables that the reading takes, are together of bulk at most 1048576: NARROWER than '..Said'. Prove '..Said' where nothing that the law and all that it calls make is longer than what came in: it says more and counts as full. Else prove '..UptoSaid'. A law counts once. -/
mutual
def uptoBulk {H : Type} : DataW H → Nat
  | .lit (.string bytes) => bytes.length + 1
  | .lit _ => 1
  | .nil => 1
  | .ptr d => uptoBulk d + 1
  | .slice elems spare => uptoBulkAll elems + uptoBulkAll spare + 1
  | .agg parts => uptoBulkAll parts + 1
  | .iface _ d => uptoBulk d + 1
  | .map entries => uptoBulkEntries entries + 1
  | .held _ => 1
def uptoBulkAll {H : Type} : List (DataW H) → Nat
  | [] => 0
  | d :: r => uptoBulk d + uptoBulkAll r
def uptoBulkEntries {H : Type} : List (Lit × DataW H) → Nat
  | [] => 0
  | x :: r => uptoBulkEntry x + uptoBulkEntries r
def uptoBulkEntry {H : Type} : Lit × DataW H → Nat
  | (.string bytes, d) => bytes.length + uptoBulk d + 1
  | (_, d) => uptoBulk d + 1
 end
def uptoSmall : (H : Type) → List (DataW H) → Bool := fun _ ds => decide (uptoBulkAll ds ≤ 1048576)
def OpenSpec.upto (s : _root_.Go.ChangeSpec) : _root_.Go.OpenSpec := { _root_.Go.OpenSpec.ofChange s with cond := some uptoSmall }

/-- 'laws.FnRemoveOf', WHERE WHAT IT READS IS OF BULK AT MOST 1048576: true; the input reads as it did. -/
def fnRemoveOfUptoRow : OpenClaim := { program := "ytoleejaabiafcaa", sum := "4ff29da787df846078722b0d6d4ce79d3120c0257e323e73796b7aafc4aad498", func := "given.example/pub-bosquet/laws.FnRemoveOf", spec := "fnRemoveOf", recurses := true, apart := false, narrowed := true }
def FnRemoveOfUptoSaid : Prop := fnRemoveOfUptoRow.holds Try.pinned (OpenSpec.upto fnRemoveOfSpec)

/-- 'laws.FnRemoved', WHERE WHAT IT READS IS OF BULK AT MOST 1048576: true; the input reads as it did. -/
def fnRemovedUptoRow : OpenClaim := { program := "ytoleejaabiafcaa", sum := "4ff29da787df846078722b0d6d4ce79d3120c0257e323e73796b7aafc4aad498", func := "given.example/pub-bosquet/laws.FnRemoved", spec := "fnRemoved", recurses := true, apart := false, narrowed := true }
def FnRemovedUptoSaid : Prop := fnRemovedUptoRow.holds Try.pinned (OpenSpec.upto fnRemovedSpec)

/-- 'laws.FnAppended', WHERE WHAT IT READS IS OF BULK AT MOST 1048576: true; the input reads as it did. -/
def fnAppendedUptoRow : OpenClaim := { program := "ytoleejaabiafcaa", sum := "4ff29da787df846078722b0d6d4ce79d3120c0257e323e73796b7aafc4aad498", func := "given.example/pub-bosquet/laws.FnAppended", spec := "fnAppended", unfollowed := true, recurses := true, apart := false, narrowed := true }
def FnAppendedUptoSaid : Prop := fnAppendedUptoRow.holds Try.pinned (OpenSpec.upto fnAppendedSpec)

/-- 'laws.FnAfterMoves', WHERE WHAT IT READS IS OF BULK AT MOST 1048576: true; the input reads as it did. -/
def fnAfterMovesUptoRow : OpenClaim := { program := "ytoleejaabiafcaa", sum := "4ff29da787df846078722b0d6d4ce79d3120c0257e323e73796b7aafc4aad498", func := "given.example/pub-bosquet/laws.FnAfterMoves", spec := "fnAfterMoves", unfollowed := true, recurses := true, apart := false, narrowed := true }
def FnAfterMovesUptoSaid : Prop := fnAfterMovesUptoRow.holds Try.pinned (OpenSpec.upto fnAfterMovesSpec)

/-- 'laws.FnAfterOf', WHERE WHAT IT READS IS OF BULK AT MOST 1048576: true; the input reads as it did. -/
def fnAfterOfUptoRow : OpenClaim := { program := "ytoleejaabiafcaa", sum := "4ff29da787df846078722b0d6d4ce79d3120c0257e323e73796b7aafc4aad498", func := "given.example/pub-bosquet/laws.FnAfterOf", spec := "fnAfterOf", unfollowed := true, recurses := true, apart := false, narrowed := true }
def FnAfterOfUptoSaid : Prop := fnAfterOfUptoRow.holds Try.pinned (OpenSpec.upto fnAfterOfSpec)

/-- 'laws.FnInsertedBefore', WHERE WHAT IT READS IS OF BULK AT MOST 1048576: true; the input reads as it did. -/
def fnInsertedBeforeUptoRow : OpenClaim := { program := "ytoleejaabiafcaa", sum := "4ff29da787df846078722b0d6d4ce79d3120c0257e323e73796b7aafc4aad498", func := "given.example/pub-bosquet/laws.FnInsertedBefore", spec := "fnInsertedBefore", unfollowed := true, recurses := true, apart := false, narrowed := true }
def FnInsertedBeforeUptoSaid : Prop := fnInsertedBeforeUptoRow.holds Try.pinned (OpenSpec.upto fnInsertedBeforeSpec)

/-- 'laws.FnWrapOf', WHERE WHAT IT READS IS OF BULK AT MOST 1048576: true; the input reads as it did. -/
def fnWrapOfUptoRow : OpenClaim := { program := "ytoleejaabiafcaa", sum := "4ff29da787df846078722b0d6d4ce79d3120c0257e323e73796b7aafc4aad498", func := "given.example/pub-bosquet/laws.FnWrapOf", spec := "fnWrapOf", unfollowed := true, recurses := true, apart := false, narrowed := true }
def FnWrapOfUptoSaid : Prop := fnWrapOfUptoRow.holds Try.pinned (OpenSpec.upto fnWrapOfSpec)

/-- 'laws.FnAttrsTaken', WHERE WHAT IT READS IS OF BULK AT MOST 1048576: true; the input reads as it did. -/
def fnAttrsTakenUptoRow : OpenClaim := { program := "ytoleejaabiafcaa", sum := "4ff29da787df846078722b0d6d4ce79d3120c0257e323e73796b7aafc4aad498", func := "given.example/pub-bosquet/laws.FnAttrsTaken", spec := "fnAttrsTaken", inPlace := ["internal/abi.NoEscape", "internal/bytealg.MakeNoZero"], apart := false, narrowed := true }
def FnAttrsTakenUptoSaid : Prop := fnAttrsTakenUptoRow.holds Try.pinned (OpenSpec.upto fnAttrsTakenSpec)

/-- 'laws.FnClassesGone', WHERE WHAT IT READS IS OF BULK AT MOST 1048576: true; the input reads as it did. -/
def fnClassesGoneUptoRow : OpenClaim := { program := "ytoleejaabiafcaa", sum := "4ff29da787df846078722b0d6d4ce79d3120c0257e323e73796b7aafc4aad498", func := "given.example/pub-bosquet/laws.FnClassesGone", spec := "fnClassesGone", inPlace := ["internal/abi.NoEscape", "internal/bytealg.MakeNoZero"], recurses := true, apart := false, narrowed := true }
def FnClassesGoneUptoSaid : Prop := fnClassesGoneUptoRow.holds Try.pinned (OpenSpec.upto fnClassesGoneSpec)

end Rows
end Go.Proofs.Ytoleejaabiafcaa
