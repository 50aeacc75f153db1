/-
  DERIVED: THE SHELF's CONTRACTS AT THIS DUMP, IN PLAIN WORDS (tools/lay-plain.mjs out of 'TrydRepeat.lean', which tools/lay-shelf.mjs wrote): THE SAME DECLARATIONS UNDER THE SAME NAMES: 'import', 'namespace', 'open', 'def', 'theorem' AND NOTHING ELSE: no command of the shelf's: FOR A HAND-IN. Each laying: the table of numbers ('.._ren') and one theorem, a field a fact of the dump's own or the kernel's comparison; each contract: ONE APPLICATION.
-/
import Derived.Shelf.Strings.Repeat
import Derived.Test.YtbikpalfhlgnoaaDoorProg
namespace Go.Proofs
open Go.Shelf
def Tryd.lays105_ren : Go.Shelf.Ren := ⟨fun | 105 => 40 | 212 => 49 | 99 => 50 | 165 => 51 | 166 => 52 | 170 => 53 | 169 => 54 | 263 => 63 | 264 => 64 | 206 => 65 | 240 => 66 | 241 => 67 | 276 => 71 | 277 => 72 | n => n, fun | 9 => 9 | 3 => 3 | 4 => 4 | 20 => 20 | 0 => 0 | 46 => 57 | 109 => 67 | 5 => 5 | 72 => 72 | 76 => 52 | 51 => 85 | 146 => 86 | 53 => 75 | 148 => 88 | 70 => 70 | 37 => 61 | 75 => 38 | 127 => 90 | 164 => 93 | 80 => 54 | n => n, fun | n => n⟩
theorem Tryd.lays105 : Go.Proofs.Lays.n105 Tryd.prog Tryd.lays105_ren := {
  mixed := by kernel_rfl
  f99 := Tryd.func50.trans (congrArg some (by kernel_rfl))
  f105 := Tryd.func40.trans (congrArg some (by kernel_rfl))
  f165 := Tryd.func51.trans (congrArg some (by kernel_rfl))
  f166 := Tryd.func52.trans (congrArg some (by kernel_rfl))
  f169 := Tryd.func54.trans (congrArg some (by kernel_rfl))
  f170 := Tryd.func53.trans (congrArg some (by kernel_rfl))
  f206 := Tryd.func65.trans (congrArg some (by kernel_rfl))
  f212 := Tryd.func49.trans (congrArg some (by kernel_rfl))
  f240 := Tryd.func66.trans (congrArg some (by kernel_rfl))
  f241 := Tryd.func67.trans (congrArg some (by kernel_rfl))
  f263 := Tryd.func63.trans (congrArg some (by kernel_rfl))
  f264 := Tryd.func64.trans (congrArg some (by kernel_rfl))
  f276 := Tryd.func71.trans (congrArg some (by kernel_rfl))
  f277 := Tryd.func72.trans (congrArg some (by kernel_rfl))
  t0 := Tryd.underlying0
  a0 := Tryd.isAgg0
  z0 := Tryd.sizeOf0
  v0 := Tryd.zeroValue0
  t3 := Tryd.underlying3
  a3 := Tryd.isAgg3
  z3 := Tryd.sizeOf3
  v3 := Tryd.zeroValue3
  t4 := Tryd.underlying4
  a4 := Tryd.isAgg4
  z4 := Tryd.sizeOf4
  v4 := Tryd.zeroValue4
  t5 := Tryd.underlying5
  a5 := Tryd.isAgg5
  z5 := Tryd.sizeOf5
  v5 := Tryd.zeroValue5
  t9 := Tryd.underlying9
  a9 := Tryd.isAgg9
  z9 := Tryd.sizeOf9
  v9 := Tryd.zeroValue9
  t20 := Tryd.underlying20
  a20 := Tryd.isAgg20
  z20 := Tryd.sizeOf20
  v20 := Tryd.zeroValue20
  t37 := Tryd.underlying61
  a37 := Tryd.isAgg61
  z37 := Tryd.sizeOf61
  v37 := Tryd.zeroValue61
  t46 := Tryd.underlying57
  a46 := Tryd.isAgg57
  z46 := Tryd.sizeOf57
  v46 := Tryd.zeroValue57
  t51 := Tryd.underlying85
  a51 := Tryd.isAgg85
  z51 := Tryd.sizeOf85
  v51 := Tryd.zeroValue85
  t53 := Tryd.underlying75
  a53 := Tryd.isAgg75
  z53 := Tryd.sizeOf75
  v53 := Tryd.zeroValue75
  t70 := Tryd.underlying70
  a70 := Tryd.isAgg70
  z70 := Tryd.sizeOf70
  v70 := Tryd.zeroValue70
  t72 := Tryd.underlying72
  a72 := Tryd.isAgg72
  z72 := Tryd.sizeOf72
  v72 := Tryd.zeroValue72
  t75 := Tryd.underlying38
  a75 := Tryd.isAgg38
  z75 := Tryd.sizeOf38
  v75 := Tryd.zeroValue38
  t76 := Tryd.underlying52
  a76 := Tryd.isAgg52
  z76 := Tryd.sizeOf52
  v76 := Tryd.zeroValue52
  t109 := Tryd.underlying67
  a109 := Tryd.isAgg67
  z109 := Tryd.sizeOf67
  v109 := Tryd.zeroValue67
  t127 := Tryd.underlying90
  a127 := Tryd.isAgg90
  z127 := Tryd.sizeOf90
  v127 := Tryd.zeroValue90
  t146 := Tryd.underlying86
  a146 := Tryd.isAgg86
  z146 := Tryd.sizeOf86
  v146 := Tryd.zeroValue86
  t148 := Tryd.underlying88
  a148 := Tryd.isAgg88
  z148 := Tryd.sizeOf88
  v148 := Tryd.zeroValue88
  t164 := Tryd.underlying93
  a164 := Tryd.isAgg93
  z164 := Tryd.sizeOf93
  v164 := Tryd.zeroValue93 }
theorem Tryd.Builder_Extra_105 : Builder.Extra Tryd.prog Tryd.lays105_ren := {
  sizeBuilder := by kernel_rfl
  liesBuilder := by kernel_rfl
  t5 := Tryd.underlying5
  a5 := Tryd.isAgg5
  z5 := Tryd.sizeOf5
  v5 := Tryd.zeroValue5
  infoByte := by kernel_rfl
  cellsByte := by kernel_rfl
  sizeByte := by kernel_rfl
  neB5 := by decide }
open Go.RowKit Go.Lib in
/-- **strings.Repeat: count ≥ 0, the result within one allocation: count copies of s.** (LAID: no walk: one application.) -/
theorem Tryd.strings_Repeat (s : ByteArray) (c : Nat) (w : World) (hc : c ≤ 9223372036854775807) (hlen : s.size * c ≤ 140737488355328) :
    Calls Tryd.prog 40 #[.string s, .int .i64 c] w fun e w' => e = .returned (.string ⟨(Lib.repeatL s.data.toList c).toArray⟩) ∧ Below w.heap.size w w' := Any.strings_Repeat Tryd.lays105 Tryd.Builder_Extra_105 s c w hc hlen
end Go.Proofs
