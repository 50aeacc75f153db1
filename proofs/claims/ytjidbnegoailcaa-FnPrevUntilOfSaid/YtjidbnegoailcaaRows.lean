/-
  No cell of these rows narrows 'for every input' (looked for: loops, veiled, ifaces, maps, wideKeys, modest, calm, conditions, laid).
  DERIVED. THE GIVEN ROWS OF THIS SEAT. 6 by the template 'for every input the law returns true; each argument reads behind the call as it read before'; 0 by the template 'total and deterministic' (their statements: YtjidbnegoailcaaTotals.lean).
  GIVEN WITH THE SEED: the statements are not yours to turn. If you find one false, say at which input.
  Laid BY PROGRAM, IN A SANDBOX (cutbox-rows.mjs): the forced cells as the released guide's own fill.sh prints them over the translation b9899eabac75f625… (all of the seat's roots in one cut). By AI agents, Wed Nov 11 2026. No macro, syntax, notation, axiom, sorry.
-/
import Derived.Test.YtjidbnegoailcaaChecked
import GoSem.Claim
import GoSem.ClaimJoined
import GoSem.ClaimMapViews
import Derived.JoinedTies
import Derived.KernelRfl
namespace Go.Proofs.Ytjidbnegoailcaa
/- THE CELL 'sum', in the pinned program and in every row, IS THE sha256 OF THE DUMP (.gsa) THAT YtjidbnegoailcaaProg.lean LOADS. Nothing in Lean hashes anything: it is a label: what it is worth is what the hold of that sum in a sandbox is worth. -/
noncomputable def Try.pinned : Pinned := { name := "ytjidbnegoailcaa", sum := "b9899eabac75f625d99bc1a6ffb9d2554f13e29f0620f70070ddde207b6c2ce0", checked := Try.checked }
namespace Rows
def none {H : Type} : Left H := { results := [], args := [] }

/-- 'laws.FnChildParent': WHATEVER THE INPUT: true; the input reads as it did. -/
def fnChildParentSpec : ChangeSpec := { name := "fnChildParent", fn := fun _ => fun
  | [d1, d2] => { results := [.lit (.bool true)], args := [d1, d2] }
  | _ => none }
def fnChildParentRow : OpenClaim := { program := "ytjidbnegoailcaa", sum := "b9899eabac75f625d99bc1a6ffb9d2554f13e29f0620f70070ddde207b6c2ce0", func := "given.example/pub-bosquet/laws.FnChildParent", spec := "fnChildParent", unfollowed := true, recurses := true, apart := false }
def FnChildParentSaid : Prop := fnChildParentRow.holds Try.pinned (OpenSpec.ofChange fnChildParentSpec)

/-- ITS FALSE NEIGHBOUR: 'it returns false'. Refute it at one input. -/
def fnChildParentWrong : ChangeSpec := { name := "fnChildParent", fn := fun _ => fun
  | [d1, d2] => { results := [.lit (.bool false)], args := [d1, d2] }
  | _ => none }
def FnChildParentWrongFalsely : Prop := fnChildParentRow.holds Try.pinned (OpenSpec.ofChange fnChildParentWrong)

/-- 'laws.FnNextAllOf': WHATEVER THE INPUT: true; the input reads as it did. -/
def fnNextAllOfSpec : ChangeSpec := { name := "fnNextAllOf", fn := fun _ => fun
  | [d1, d2] => { results := [.lit (.bool true)], args := [d1, d2] }
  | _ => none }
def fnNextAllOfRow : OpenClaim := { program := "ytjidbnegoailcaa", sum := "b9899eabac75f625d99bc1a6ffb9d2554f13e29f0620f70070ddde207b6c2ce0", func := "given.example/pub-bosquet/laws.FnNextAllOf", spec := "fnNextAllOf", unfollowed := true, recurses := true, apart := false }
def FnNextAllOfSaid : Prop := fnNextAllOfRow.holds Try.pinned (OpenSpec.ofChange fnNextAllOfSpec)

/-- ITS FALSE NEIGHBOUR: 'it returns false'. Refute it at one input. -/
def fnNextAllOfWrong : ChangeSpec := { name := "fnNextAllOf", fn := fun _ => fun
  | [d1, d2] => { results := [.lit (.bool false)], args := [d1, d2] }
  | _ => none }
def FnNextAllOfWrongFalsely : Prop := fnNextAllOfRow.holds Try.pinned (OpenSpec.ofChange fnNextAllOfWrong)

/-- 'laws.FnPrevUntilOf': WHATEVER THE INPUT: true; the input reads as it did. -/
def fnPrevUntilOfSpec : ChangeSpec := { name := "fnPrevUntilOf", fn := fun _ => fun
  | [d1, d2, d3] => { results := [.lit (.bool true)], args := [d1, d2, d3] }
  | _ => none }
def fnPrevUntilOfRow : OpenClaim := { program := "ytjidbnegoailcaa", sum := "b9899eabac75f625d99bc1a6ffb9d2554f13e29f0620f70070ddde207b6c2ce0", func := "given.example/pub-bosquet/laws.FnPrevUntilOf", spec := "fnPrevUntilOf", unfollowed := true, recurses := true, apart := false }
def FnPrevUntilOfSaid : Prop := fnPrevUntilOfRow.holds Try.pinned (OpenSpec.ofChange fnPrevUntilOfSpec)

/-- ITS FALSE NEIGHBOUR: 'it returns false'. Refute it at one input. -/
def fnPrevUntilOfWrong : ChangeSpec := { name := "fnPrevUntilOf", fn := fun _ => fun
  | [d1, d2, d3] => { results := [.lit (.bool false)], args := [d1, d2, d3] }
  | _ => none }
def FnPrevUntilOfWrongFalsely : Prop := fnPrevUntilOfRow.holds Try.pinned (OpenSpec.ofChange fnPrevUntilOfWrong)

/-- 'laws.FnSiblingsOf': WHATEVER THE INPUT: true; the input reads as it did. -/
def fnSiblingsOfSpec : ChangeSpec := { name := "fnSiblingsOf", fn := fun _ => fun
  | [d1, d2] => { results := [.lit (.bool true)], args := [d1, d2] }
  | _ => none }
def fnSiblingsOfRow : OpenClaim := { program := "ytjidbnegoailcaa", sum := "b9899eabac75f625d99bc1a6ffb9d2554f13e29f0620f70070ddde207b6c2ce0", func := "given.example/pub-bosquet/laws.FnSiblingsOf", spec := "fnSiblingsOf", unfollowed := true, recurses := true, apart := false }
def FnSiblingsOfSaid : Prop := fnSiblingsOfRow.holds Try.pinned (OpenSpec.ofChange fnSiblingsOfSpec)

/-- ITS FALSE NEIGHBOUR: 'it returns false'. Refute it at one input. -/
def fnSiblingsOfWrong : ChangeSpec := { name := "fnSiblingsOf", fn := fun _ => fun
  | [d1, d2] => { results := [.lit (.bool false)], args := [d1, d2] }
  | _ => none }
def FnSiblingsOfWrongFalsely : Prop := fnSiblingsOfRow.holds Try.pinned (OpenSpec.ofChange fnSiblingsOfWrong)

/-- 'laws.FnNextUntilParts': WHATEVER THE INPUT: true; the input reads as it did. -/
def fnNextUntilPartsSpec : ChangeSpec := { name := "fnNextUntilParts", fn := fun _ => fun
  | [d1, d2, d3] => { results := [.lit (.bool true)], args := [d1, d2, d3] }
  | _ => none }
def fnNextUntilPartsRow : OpenClaim := { program := "ytjidbnegoailcaa", sum := "b9899eabac75f625d99bc1a6ffb9d2554f13e29f0620f70070ddde207b6c2ce0", func := "given.example/pub-bosquet/laws.FnNextUntilParts", spec := "fnNextUntilParts", unfollowed := true, recurses := true, apart := false }
def FnNextUntilPartsSaid : Prop := fnNextUntilPartsRow.holds Try.pinned (OpenSpec.ofChange fnNextUntilPartsSpec)

/-- ITS FALSE NEIGHBOUR: 'it returns false'. Refute it at one input. -/
def fnNextUntilPartsWrong : ChangeSpec := { name := "fnNextUntilParts", fn := fun _ => fun
  | [d1, d2, d3] => { results := [.lit (.bool false)], args := [d1, d2, d3] }
  | _ => none }
def FnNextUntilPartsWrongFalsely : Prop := fnNextUntilPartsRow.holds Try.pinned (OpenSpec.ofChange fnNextUntilPartsWrong)

/-- 'laws.FnNextPrev': WHATEVER THE INPUT: true; the input reads as it did. -/
def fnNextPrevSpec : ChangeSpec := { name := "fnNextPrev", fn := fun _ => fun
  | [d1, d2] => { results := [.lit (.bool true)], args := [d1, d2] }
  | _ => none }
def fnNextPrevRow : OpenClaim := { program := "ytjidbnegoailcaa", sum := "b9899eabac75f625d99bc1a6ffb9d2554f13e29f0620f70070ddde207b6c2ce0", func := "given.example/pub-bosquet/laws.FnNextPrev", spec := "fnNextPrev", unfollowed := true, recurses := true, apart := false }
def FnNextPrevSaid : Prop := fnNextPrevRow.holds Try.pinned (OpenSpec.ofChange fnNextPrevSpec)

/-- ITS FALSE NEIGHBOUR: 'it returns false'. Refute it at one input. -/
def fnNextPrevWrong : ChangeSpec := { name := "fnNextPrev", fn := fun _ => fun
  | [d1, d2] => { results := [.lit (.bool false)], args := [d1, d2] }
  | _ => none }
def FnNextPrevWrongFalsely : Prop := fnNextPrevRow.holds Try.pinned (OpenSpec.ofChange fnNextPrevWrong)

/- THE SECOND FORM. 'bulk': how many values and letters a reading holds, each counted each time it is reached (what is shared counts as often as it is met; a slice's spare places count too). A statement '..UptoSaid' is the law's where the arguments, and the package variables that the reading takes, are together of bulk at most 1048576: NARROWER than '..Said'. Prove '..Said' where nothing that the law and all that it calls make is longer than what came in: it says more and counts as full. Else prove '..UptoSaid'. A law counts once. -/
mutual
def uptoBulk {H : Type} : DataW H → Nat
  | .lit (.string bytes) => bytes.length + 1
  | .lit _ => 1
  | .nil => 1
  | .ptr d => uptoBulk d + 1
  | .slice elems spare => uptoBulkAll elems + uptoBulkAll spare + 1
  | .agg parts => uptoBulkAll parts + 1
  | .iface _ d => uptoBulk d + 1
  | .map entries => uptoBulkEntries entries + 1
  | .held _ => 1
def uptoBulkAll {H : Type} : List (DataW H) → Nat
  | [] => 0
  | d :: r => uptoBulk d + uptoBulkAll r
def uptoBulkEntries {H : Type} : List (Lit × DataW H) → Nat
  | [] => 0
  | x :: r => uptoBulkEntry x + uptoBulkEntries r
def uptoBulkEntry {H : Type} : Lit × DataW H → Nat
  | (.string bytes, d) => bytes.length + uptoBulk d + 1
  | (_, d) => uptoBulk d + 1
 end
def uptoSmall : (H : Type) → List (DataW H) → Bool := fun _ ds => decide (uptoBulkAll ds ≤ 1048576)
def OpenSpec.upto (s : _root_.Go.ChangeSpec) : _root_.Go.OpenSpec := { _root_.Go.OpenSpec.ofChange s with cond := some uptoSmall }

/-- 'laws.FnChildParent', WHERE WHAT IT READS IS OF BULK AT MOST 1048576: true; the input reads as it did. -/
def fnChildParentUptoRow : OpenClaim := { program := "ytjidbnegoailcaa", sum := "b9899eabac75f625d99bc1a6ffb9d2554f13e29f0620f70070ddde207b6c2ce0", func := "given.example/pub-bosquet/laws.FnChildParent", spec := "fnChildParent", unfollowed := true, recurses := true, apart := false, narrowed := true }
def FnChildParentUptoSaid : Prop := fnChildParentUptoRow.holds Try.pinned (OpenSpec.upto fnChildParentSpec)

/-- 'laws.FnNextAllOf', WHERE WHAT IT READS IS OF BULK AT MOST 1048576: true; the input reads as it did. -/
def fnNextAllOfUptoRow : OpenClaim := { program := "ytjidbnegoailcaa", sum := "b9899eabac75f625d99bc1a6ffb9d2554f13e29f0620f70070ddde207b6c2ce0", func := "given.example/pub-bosquet/laws.FnNextAllOf", spec := "fnNextAllOf", unfollowed := true, recurses := true, apart := false, narrowed := true }
def FnNextAllOfUptoSaid : Prop := fnNextAllOfUptoRow.holds Try.pinned (OpenSpec.upto fnNextAllOfSpec)

/-- 'laws.FnPrevUntilOf', WHERE WHAT IT READS IS OF BULK AT MOST 1048576: true; the input reads as it did. -/
def fnPrevUntilOfUptoRow : OpenClaim := { program := "ytjidbnegoailcaa", sum := "b9899eabac75f625d99bc1a6ffb9d2554f13e29f0620f70070ddde207b6c2ce0", func := "given.example/pub-bosquet/laws.FnPrevUntilOf", spec := "fnPrevUntilOf", unfollowed := true, recurses := true, apart := false, narrowed := true }
def FnPrevUntilOfUptoSaid : Prop := fnPrevUntilOfUptoRow.holds Try.pinned (OpenSpec.upto fnPrevUntilOfSpec)

/-- 'laws.FnSiblingsOf', WHERE WHAT IT READS IS OF BULK AT MOST 1048576: true; the input reads as it did. -/
def fnSiblingsOfUptoRow : OpenClaim := { program := "ytjidbnegoailcaa", sum := "b9899eabac75f625d99bc1a6ffb9d2554f13e29f0620f70070ddde207b6c2ce0", func := "given.example/pub-bosquet/laws.FnSiblingsOf", spec := "fnSiblingsOf", unfollowed := true, recurses := true, apart := false, narrowed := true }
def FnSiblingsOfUptoSaid : Prop := fnSiblingsOfUptoRow.holds Try.pinned (OpenSpec.upto fnSiblingsOfSpec)

/-- 'laws.FnNextUntilParts', WHERE WHAT IT READS IS OF BULK AT MOST 1048576: true; the input reads as it did. -/
def fnNextUntilPartsUptoRow : OpenClaim := { program := "ytjidbnegoailcaa", sum := "b9899eabac75f625d99bc1a6ffb9d2554f13e29f0620f70070ddde207b6c2ce0", func := "given.example/pub-bosquet/laws.FnNextUntilParts", spec := "fnNextUntilParts", unfollowed := true, recurses := true, apart := false, narrowed := true }
def FnNextUntilPartsUptoSaid : Prop := fnNextUntilPartsUptoRow.holds Try.pinned (OpenSpec.upto fnNextUntilPartsSpec)

/-- 'laws.FnNextPrev', WHERE WHAT IT READS IS OF BULK AT MOST 1048576: true; the input reads as it did. -/
def fnNextPrevUptoRow : OpenClaim := { program := "ytjidbnegoailcaa", sum := "b9899eabac75f625d99bc1a6ffb9d2554f13e29f0620f70070ddde207b6c2ce0", func := "given.example/pub-bosquet/laws.FnNextPrev", spec := "fnNextPrev", unfollowed := true, recurses := true, apart := false, narrowed := true }
def FnNextPrevUptoSaid : Prop := fnNextPrevUptoRow.holds Try.pinned (OpenSpec.upto fnNextPrevSpec)

end Rows
end Go.Proofs.Ytjidbnegoailcaa
