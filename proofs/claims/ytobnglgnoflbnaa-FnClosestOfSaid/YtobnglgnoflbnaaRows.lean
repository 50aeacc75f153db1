/-
  No cell of these rows narrows 'for every input' (looked for: loops, veiled, ifaces, maps, wideKeys, modest, calm, conditions, laid).
  DERIVED. THE GIVEN ROWS OF THIS SEAT. 10 by the template 'for every input the law returns true; each argument reads behind the call as it read before'; 0 by the template 'total and deterministic' (their statements: YtobnglgnoflbnaaTotals.lean).
  GIVEN WITH THE SEED: the statements are not yours to turn. If you find one false, say at which input.
  Laid BY PROGRAM, IN A SANDBOX (cutbox-rows.mjs): the forced cells as the released guide's own fill.sh prints them over the translation a9f26c4a025edeea… (all of the seat's roots in one cut). By AI agents, Wed Nov 11 2026. No macro, syntax, notation, axiom, sorry.
-/
import Derived.Test.YtobnglgnoflbnaaChecked
import GoSem.Claim
import GoSem.ClaimJoined
import GoSem.ClaimMapViews
import Derived.JoinedTies
import Derived.KernelRfl
namespace Go.Proofs.Ytobnglgnoflbnaa
/- THE CELL 'sum', in the pinned program and in every row, IS THE sha256 OF THE DUMP (.gsa) THAT YtobnglgnoflbnaaProg.lean LOADS. Nothing in Lean hashes anything: it is a label: what it is worth is what the hold of that sum in a sandbox is worth. -/
noncomputable def Try.pinned : Pinned := { name := "ytobnglgnoflbnaa", sum := "a9f26c4a025edeea00b6f6937ce0d038c55a8d961122e84e69198b6d6cde2d93", checked := Try.checked }
namespace Rows
def none {H : Type} : Left H := { results := [], args := [] }

/-- 'laws.FnIsId': WHATEVER THE INPUT: true; the input reads as it did. -/
def fnIsIdSpec : ChangeSpec := { name := "fnIsId", fn := fun _ => fun
  | [d1, d2, d3] => { results := [.lit (.bool true)], args := [d1, d2, d3] }
  | _ => none }
def fnIsIdRow : OpenClaim := { program := "ytobnglgnoflbnaa", sum := "a9f26c4a025edeea00b6f6937ce0d038c55a8d961122e84e69198b6d6cde2d93", func := "given.example/pub-bosquet/laws.FnIsId", spec := "fnIsId", unfollowed := true, recurses := true, apart := false }
def FnIsIdSaid : Prop := fnIsIdRow.holds Try.pinned (OpenSpec.ofChange fnIsIdSpec)

/-- ITS FALSE NEIGHBOUR: 'it returns false'. Refute it at one input. -/
def fnIsIdWrong : ChangeSpec := { name := "fnIsId", fn := fun _ => fun
  | [d1, d2, d3] => { results := [.lit (.bool false)], args := [d1, d2, d3] }
  | _ => none }
def FnIsIdWrongFalsely : Prop := fnIsIdRow.holds Try.pinned (OpenSpec.ofChange fnIsIdWrong)

/-- 'laws.FnIsOnly': WHATEVER THE INPUT: true; the input reads as it did. -/
def fnIsOnlySpec : ChangeSpec := { name := "fnIsOnly", fn := fun _ => fun
  | [d1, d2, d3] => { results := [.lit (.bool true)], args := [d1, d2, d3] }
  | _ => none }
def fnIsOnlyRow : OpenClaim := { program := "ytobnglgnoflbnaa", sum := "a9f26c4a025edeea00b6f6937ce0d038c55a8d961122e84e69198b6d6cde2d93", func := "given.example/pub-bosquet/laws.FnIsOnly", spec := "fnIsOnly", recurses := true, apart := false }
def FnIsOnlySaid : Prop := fnIsOnlyRow.holds Try.pinned (OpenSpec.ofChange fnIsOnlySpec)

/-- ITS FALSE NEIGHBOUR: 'it returns false'. Refute it at one input. -/
def fnIsOnlyWrong : ChangeSpec := { name := "fnIsOnly", fn := fun _ => fun
  | [d1, d2, d3] => { results := [.lit (.bool false)], args := [d1, d2, d3] }
  | _ => none }
def FnIsOnlyWrongFalsely : Prop := fnIsOnlyRow.holds Try.pinned (OpenSpec.ofChange fnIsOnlyWrong)

/-- 'laws.FnIndexOfIn': WHATEVER THE INPUT: true; the input reads as it did. -/
def fnIndexOfInSpec : ChangeSpec := { name := "fnIndexOfIn", fn := fun _ => fun
  | [d1, d2, d3] => { results := [.lit (.bool true)], args := [d1, d2, d3] }
  | _ => none }
def fnIndexOfInRow : OpenClaim := { program := "ytobnglgnoflbnaa", sum := "a9f26c4a025edeea00b6f6937ce0d038c55a8d961122e84e69198b6d6cde2d93", func := "given.example/pub-bosquet/laws.FnIndexOfIn", spec := "fnIndexOfIn", recurses := true, apart := false }
def FnIndexOfInSaid : Prop := fnIndexOfInRow.holds Try.pinned (OpenSpec.ofChange fnIndexOfInSpec)

/-- ITS FALSE NEIGHBOUR: 'it returns false'. Refute it at one input. -/
def fnIndexOfInWrong : ChangeSpec := { name := "fnIndexOfIn", fn := fun _ => fun
  | [d1, d2, d3] => { results := [.lit (.bool false)], args := [d1, d2, d3] }
  | _ => none }
def FnIndexOfInWrongFalsely : Prop := fnIndexOfInRow.holds Try.pinned (OpenSpec.ofChange fnIndexOfInWrong)

/-- 'laws.FnIndexAmong': WHATEVER THE INPUT: true; the input reads as it did. -/
def fnIndexAmongSpec : ChangeSpec := { name := "fnIndexAmong", fn := fun _ => fun
  | [d1, d2] => { results := [.lit (.bool true)], args := [d1, d2] }
  | _ => none }
def fnIndexAmongRow : OpenClaim := { program := "ytobnglgnoflbnaa", sum := "a9f26c4a025edeea00b6f6937ce0d038c55a8d961122e84e69198b6d6cde2d93", func := "given.example/pub-bosquet/laws.FnIndexAmong", spec := "fnIndexAmong", recurses := true, apart := false }
def FnIndexAmongSaid : Prop := fnIndexAmongRow.holds Try.pinned (OpenSpec.ofChange fnIndexAmongSpec)

/-- ITS FALSE NEIGHBOUR: 'it returns false'. Refute it at one input. -/
def fnIndexAmongWrong : ChangeSpec := { name := "fnIndexAmong", fn := fun _ => fun
  | [d1, d2] => { results := [.lit (.bool false)], args := [d1, d2] }
  | _ => none }
def FnIndexAmongWrongFalsely : Prop := fnIndexAmongRow.holds Try.pinned (OpenSpec.ofChange fnIndexAmongWrong)

/-- 'laws.FnMapBy': WHATEVER THE INPUT: true; the input reads as it did. -/
def fnMapBySpec : ChangeSpec := { name := "fnMapBy", fn := fun _ => fun
  | [d1, d2, d3] => { results := [.lit (.bool true)], args := [d1, d2, d3] }
  | _ => none }
def fnMapByRow : OpenClaim := { program := "ytobnglgnoflbnaa", sum := "a9f26c4a025edeea00b6f6937ce0d038c55a8d961122e84e69198b6d6cde2d93", func := "given.example/pub-bosquet/laws.FnMapBy", spec := "fnMapBy", unfollowed := true, recurses := true, apart := false }
def FnMapBySaid : Prop := fnMapByRow.holds Try.pinned (OpenSpec.ofChange fnMapBySpec)

/-- ITS FALSE NEIGHBOUR: 'it returns false'. Refute it at one input. -/
def fnMapByWrong : ChangeSpec := { name := "fnMapBy", fn := fun _ => fun
  | [d1, d2, d3] => { results := [.lit (.bool false)], args := [d1, d2, d3] }
  | _ => none }
def FnMapByWrongFalsely : Prop := fnMapByRow.holds Try.pinned (OpenSpec.ofChange fnMapByWrong)

/-- 'laws.FnParentOf': WHATEVER THE INPUT: true; the input reads as it did. -/
def fnParentOfSpec : ChangeSpec := { name := "fnParentOf", fn := fun _ => fun
  | [d1, d2] => { results := [.lit (.bool true)], args := [d1, d2] }
  | _ => none }
def fnParentOfRow : OpenClaim := { program := "ytobnglgnoflbnaa", sum := "a9f26c4a025edeea00b6f6937ce0d038c55a8d961122e84e69198b6d6cde2d93", func := "given.example/pub-bosquet/laws.FnParentOf", spec := "fnParentOf", recurses := true, apart := false }
def FnParentOfSaid : Prop := fnParentOfRow.holds Try.pinned (OpenSpec.ofChange fnParentOfSpec)

/-- ITS FALSE NEIGHBOUR: 'it returns false'. Refute it at one input. -/
def fnParentOfWrong : ChangeSpec := { name := "fnParentOf", fn := fun _ => fun
  | [d1, d2] => { results := [.lit (.bool false)], args := [d1, d2] }
  | _ => none }
def FnParentOfWrongFalsely : Prop := fnParentOfRow.holds Try.pinned (OpenSpec.ofChange fnParentOfWrong)

/-- 'laws.FnFilterOf': WHATEVER THE INPUT: true; the input reads as it did. -/
def fnFilterOfSpec : ChangeSpec := { name := "fnFilterOf", fn := fun _ => fun
  | [d1, d2, d3] => { results := [.lit (.bool true)], args := [d1, d2, d3] }
  | _ => none }
def fnFilterOfRow : OpenClaim := { program := "ytobnglgnoflbnaa", sum := "a9f26c4a025edeea00b6f6937ce0d038c55a8d961122e84e69198b6d6cde2d93", func := "given.example/pub-bosquet/laws.FnFilterOf", spec := "fnFilterOf", recurses := true, apart := false }
def FnFilterOfSaid : Prop := fnFilterOfRow.holds Try.pinned (OpenSpec.ofChange fnFilterOfSpec)

/-- ITS FALSE NEIGHBOUR: 'it returns false'. Refute it at one input. -/
def fnFilterOfWrong : ChangeSpec := { name := "fnFilterOf", fn := fun _ => fun
  | [d1, d2, d3] => { results := [.lit (.bool false)], args := [d1, d2, d3] }
  | _ => none }
def FnFilterOfWrongFalsely : Prop := fnFilterOfRow.holds Try.pinned (OpenSpec.ofChange fnFilterOfWrong)

/-- 'laws.FnFilterBy': WHATEVER THE INPUT: true; the input reads as it did. -/
def fnFilterBySpec : ChangeSpec := { name := "fnFilterBy", fn := fun _ => fun
  | [d1, d2, d3] => { results := [.lit (.bool true)], args := [d1, d2, d3] }
  | _ => none }
def fnFilterByRow : OpenClaim := { program := "ytobnglgnoflbnaa", sum := "a9f26c4a025edeea00b6f6937ce0d038c55a8d961122e84e69198b6d6cde2d93", func := "given.example/pub-bosquet/laws.FnFilterBy", spec := "fnFilterBy", unfollowed := true, recurses := true, apart := false }
def FnFilterBySaid : Prop := fnFilterByRow.holds Try.pinned (OpenSpec.ofChange fnFilterBySpec)

/-- ITS FALSE NEIGHBOUR: 'it returns false'. Refute it at one input. -/
def fnFilterByWrong : ChangeSpec := { name := "fnFilterBy", fn := fun _ => fun
  | [d1, d2, d3] => { results := [.lit (.bool false)], args := [d1, d2, d3] }
  | _ => none }
def FnFilterByWrongFalsely : Prop := fnFilterByRow.holds Try.pinned (OpenSpec.ofChange fnFilterByWrong)

/-- 'laws.FnClosestOf': WHATEVER THE INPUT: true; the input reads as it did. -/
def fnClosestOfSpec : ChangeSpec := { name := "fnClosestOf", fn := fun _ => fun
  | [d1, d2, d3] => { results := [.lit (.bool true)], args := [d1, d2, d3] }
  | _ => none }
def fnClosestOfRow : OpenClaim := { program := "ytobnglgnoflbnaa", sum := "a9f26c4a025edeea00b6f6937ce0d038c55a8d961122e84e69198b6d6cde2d93", func := "given.example/pub-bosquet/laws.FnClosestOf", spec := "fnClosestOf", unfollowed := true, recurses := true, apart := false }
def FnClosestOfSaid : Prop := fnClosestOfRow.holds Try.pinned (OpenSpec.ofChange fnClosestOfSpec)

/-- ITS FALSE NEIGHBOUR: 'it returns false'. Refute it at one input. -/
def fnClosestOfWrong : ChangeSpec := { name := "fnClosestOf", fn := fun _ => fun
  | [d1, d2, d3] => { results := [.lit (.bool false)], args := [d1, d2, d3] }
  | _ => none }
def FnClosestOfWrongFalsely : Prop := fnClosestOfRow.holds Try.pinned (OpenSpec.ofChange fnClosestOfWrong)

/-- 'laws.FnTextWith': WHATEVER THE INPUT: true; the input reads as it did. -/
def fnTextWithSpec : ChangeSpec := { name := "fnTextWith", fn := fun _ => fun
  | [d1, d2, d3, d4, d5] => { results := [.lit (.bool true)], args := [d1, d2, d3, d4, d5] }
  | _ => none }
def fnTextWithRow : OpenClaim := { program := "ytobnglgnoflbnaa", sum := "a9f26c4a025edeea00b6f6937ce0d038c55a8d961122e84e69198b6d6cde2d93", func := "given.example/pub-bosquet/laws.FnTextWith", spec := "fnTextWith", inPlace := ["internal/abi.NoEscape", "internal/bytealg.MakeNoZero"], unfollowed := true, recurses := true, apart := false }
def FnTextWithSaid : Prop := fnTextWithRow.holds Try.pinned (OpenSpec.ofChange fnTextWithSpec)

/-- ITS FALSE NEIGHBOUR: 'it returns false'. Refute it at one input. -/
def fnTextWithWrong : ChangeSpec := { name := "fnTextWith", fn := fun _ => fun
  | [d1, d2, d3, d4, d5] => { results := [.lit (.bool false)], args := [d1, d2, d3, d4, d5] }
  | _ => none }
def FnTextWithWrongFalsely : Prop := fnTextWithRow.holds Try.pinned (OpenSpec.ofChange fnTextWithWrong)

/- THE SECOND FORM. 'bulk': how many values and letters a reading holds, each counted each time it is reached (what is shared counts as often as it is met; a slice's spare places count too). A statement '..UptoSaid' is the law's where the arguments, and the package variables that the reading takes, are together of bulk at most 1048576: NARROWER than '..Said'. Prove '..Said' where nothing that the law and all that it calls make is longer than what came in: it says more and counts as full. Else prove '..UptoSaid'. A law counts once. -/
mutual
def uptoBulk {H : Type} : DataW H → Nat
  | .lit (.string bytes) => bytes.length + 1
  | .lit _ => 1
  | .nil => 1
  | .ptr d => uptoBulk d + 1
  | .slice elems spare => uptoBulkAll elems + uptoBulkAll spare + 1
  | .agg parts => uptoBulkAll parts + 1
  | .iface _ d => uptoBulk d + 1
  | .map entries => uptoBulkEntries entries + 1
  | .held _ => 1
def uptoBulkAll {H : Type} : List (DataW H) → Nat
  | [] => 0
  | d :: r => uptoBulk d + uptoBulkAll r
def uptoBulkEntries {H : Type} : List (Lit × DataW H) → Nat
  | [] => 0
  | x :: r => uptoBulkEntry x + uptoBulkEntries r
def uptoBulkEntry {H : Type} : Lit × DataW H → Nat
  | (.string bytes, d) => bytes.length + uptoBulk d + 1
  | (_, d) => uptoBulk d + 1
 end
def uptoSmall : (H : Type) → List (DataW H) → Bool := fun _ ds => decide (uptoBulkAll ds ≤ 1048576)
def OpenSpec.upto (s : _root_.Go.ChangeSpec) : _root_.Go.OpenSpec := { _root_.Go.OpenSpec.ofChange s with cond := some uptoSmall }

/-- 'laws.FnIsId', WHERE WHAT IT READS IS OF BULK AT MOST 1048576: true; the input reads as it did. -/
def fnIsIdUptoRow : OpenClaim := { program := "ytobnglgnoflbnaa", sum := "a9f26c4a025edeea00b6f6937ce0d038c55a8d961122e84e69198b6d6cde2d93", func := "given.example/pub-bosquet/laws.FnIsId", spec := "fnIsId", unfollowed := true, recurses := true, apart := false, narrowed := true }
def FnIsIdUptoSaid : Prop := fnIsIdUptoRow.holds Try.pinned (OpenSpec.upto fnIsIdSpec)

/-- 'laws.FnIsOnly', WHERE WHAT IT READS IS OF BULK AT MOST 1048576: true; the input reads as it did. -/
def fnIsOnlyUptoRow : OpenClaim := { program := "ytobnglgnoflbnaa", sum := "a9f26c4a025edeea00b6f6937ce0d038c55a8d961122e84e69198b6d6cde2d93", func := "given.example/pub-bosquet/laws.FnIsOnly", spec := "fnIsOnly", recurses := true, apart := false, narrowed := true }
def FnIsOnlyUptoSaid : Prop := fnIsOnlyUptoRow.holds Try.pinned (OpenSpec.upto fnIsOnlySpec)

/-- 'laws.FnIndexOfIn', WHERE WHAT IT READS IS OF BULK AT MOST 1048576: true; the input reads as it did. -/
def fnIndexOfInUptoRow : OpenClaim := { program := "ytobnglgnoflbnaa", sum := "a9f26c4a025edeea00b6f6937ce0d038c55a8d961122e84e69198b6d6cde2d93", func := "given.example/pub-bosquet/laws.FnIndexOfIn", spec := "fnIndexOfIn", recurses := true, apart := false, narrowed := true }
def FnIndexOfInUptoSaid : Prop := fnIndexOfInUptoRow.holds Try.pinned (OpenSpec.upto fnIndexOfInSpec)

/-- 'laws.FnIndexAmong', WHERE WHAT IT READS IS OF BULK AT MOST 1048576: true; the input reads as it did. -/
def fnIndexAmongUptoRow : OpenClaim := { program := "ytobnglgnoflbnaa", sum := "a9f26c4a025edeea00b6f6937ce0d038c55a8d961122e84e69198b6d6cde2d93", func := "given.example/pub-bosquet/laws.FnIndexAmong", spec := "fnIndexAmong", recurses := true, apart := false, narrowed := true }
def FnIndexAmongUptoSaid : Prop := fnIndexAmongUptoRow.holds Try.pinned (OpenSpec.upto fnIndexAmongSpec)

/-- 'laws.FnMapBy', WHERE WHAT IT READS IS OF BULK AT MOST 1048576: true; the input reads as it did. -/
def fnMapByUptoRow : OpenClaim := { program := "ytobnglgnoflbnaa", sum := "a9f26c4a025edeea00b6f6937ce0d038c55a8d961122e84e69198b6d6cde2d93", func := "given.example/pub-bosquet/laws.FnMapBy", spec := "fnMapBy", unfollowed := true, recurses := true, apart := false, narrowed := true }
def FnMapByUptoSaid : Prop := fnMapByUptoRow.holds Try.pinned (OpenSpec.upto fnMapBySpec)

/-- 'laws.FnParentOf', WHERE WHAT IT READS IS OF BULK AT MOST 1048576: true; the input reads as it did. -/
def fnParentOfUptoRow : OpenClaim := { program := "ytobnglgnoflbnaa", sum := "a9f26c4a025edeea00b6f6937ce0d038c55a8d961122e84e69198b6d6cde2d93", func := "given.example/pub-bosquet/laws.FnParentOf", spec := "fnParentOf", recurses := true, apart := false, narrowed := true }
def FnParentOfUptoSaid : Prop := fnParentOfUptoRow.holds Try.pinned (OpenSpec.upto fnParentOfSpec)

/-- 'laws.FnFilterOf', WHERE WHAT IT READS IS OF BULK AT MOST 1048576: true; the input reads as it did. -/
def fnFilterOfUptoRow : OpenClaim := { program := "ytobnglgnoflbnaa", sum := "a9f26c4a025edeea00b6f6937ce0d038c55a8d961122e84e69198b6d6cde2d93", func := "given.example/pub-bosquet/laws.FnFilterOf", spec := "fnFilterOf", recurses := true, apart := false, narrowed := true }
def FnFilterOfUptoSaid : Prop := fnFilterOfUptoRow.holds Try.pinned (OpenSpec.upto fnFilterOfSpec)

/-- 'laws.FnFilterBy', WHERE WHAT IT READS IS OF BULK AT MOST 1048576: true; the input reads as it did. -/
def fnFilterByUptoRow : OpenClaim := { program := "ytobnglgnoflbnaa", sum := "a9f26c4a025edeea00b6f6937ce0d038c55a8d961122e84e69198b6d6cde2d93", func := "given.example/pub-bosquet/laws.FnFilterBy", spec := "fnFilterBy", unfollowed := true, recurses := true, apart := false, narrowed := true }
def FnFilterByUptoSaid : Prop := fnFilterByUptoRow.holds Try.pinned (OpenSpec.upto fnFilterBySpec)

/-- 'laws.FnClosestOf', WHERE WHAT IT READS IS OF BULK AT MOST 1048576: true; the input reads as it did. -/
def fnClosestOfUptoRow : OpenClaim := { program := "ytobnglgnoflbnaa", sum := "a9f26c4a025edeea00b6f6937ce0d038c55a8d961122e84e69198b6d6cde2d93", func := "given.example/pub-bosquet/laws.FnClosestOf", spec := "fnClosestOf", unfollowed := true, recurses := true, apart := false, narrowed := true }
def FnClosestOfUptoSaid : Prop := fnClosestOfUptoRow.holds Try.pinned (OpenSpec.upto fnClosestOfSpec)

/-- 'laws.FnTextWith', WHERE WHAT IT READS IS OF BULK AT MOST 1048576: true; the input reads as it did. -/
def fnTextWithUptoRow : OpenClaim := { program := "ytobnglgnoflbnaa", sum := "a9f26c4a025edeea00b6f6937ce0d038c55a8d961122e84e69198b6d6cde2d93", func := "given.example/pub-bosquet/laws.FnTextWith", spec := "fnTextWith", inPlace := ["internal/abi.NoEscape", "internal/bytealg.MakeNoZero"], unfollowed := true, recurses := true, apart := false, narrowed := true }
def FnTextWithUptoSaid : Prop := fnTextWithUptoRow.holds Try.pinned (OpenSpec.upto fnTextWithSpec)

end Rows
end Go.Proofs.Ytobnglgnoflbnaa
