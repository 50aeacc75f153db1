/-
  DERIVED: THE SHELF's CONTRACTS AT THIS DUMP, IN PLAIN WORDS (tools/lay-plain.mjs out of 'TryJoin.lean', which tools/lay-shelf.mjs wrote): THE SAME DECLARATIONS UNDER THE SAME NAMES: 'import', 'namespace', 'open', 'def', 'theorem' AND NOTHING ELSE: no command of the shelf's: FOR A HAND-IN. Each laying: the table of numbers ('.._ren') and one theorem, a field a fact of the dump's own or the kernel's comparison; each contract: ONE APPLICATION.
-/
import Derived.Shelf.Strings.OnBuilder
import Derived.Test.YtoleejaabiafcaaProg
namespace Go.Proofs
open Go.Shelf
def Try.lays156_ren : Go.Shelf.Ren := ⟨fun | 156 => 91 | 165 => 122 | 166 => 123 | 169 => 124 | 240 => 150 | 241 => 151 | 276 => 157 | 277 => 158 | n => n, fun | 31 => 25 | 9 => 9 | 3 => 3 | 4 => 4 | 0 => 0 | 20 => 20 | 72 => 157 | 76 => 161 | 70 => 154 | 37 => 155 | 75 => 160 | 127 => 184 | 164 => 189 | 5 => 5 | 80 => 163 | n => n, fun | n => n⟩
theorem Try.lays156 : Go.Proofs.Lays.n156 Try.prog Try.lays156_ren := {
  mixed := by kernel_rfl
  f156 := Try.func91.trans (congrArg some (by kernel_rfl))
  f165 := Try.func122.trans (congrArg some (by kernel_rfl))
  f166 := Try.func123.trans (congrArg some (by kernel_rfl))
  f169 := Try.func124.trans (congrArg some (by kernel_rfl))
  f240 := Try.func150.trans (congrArg some (by kernel_rfl))
  f241 := Try.func151.trans (congrArg some (by kernel_rfl))
  f276 := Try.func157.trans (congrArg some (by kernel_rfl))
  f277 := Try.func158.trans (congrArg some (by kernel_rfl))
  t0 := Try.underlying0
  a0 := Try.isAgg0
  z0 := Try.sizeOf0
  v0 := Try.zeroValue0
  t3 := Try.underlying3
  a3 := Try.isAgg3
  z3 := Try.sizeOf3
  v3 := Try.zeroValue3
  t4 := Try.underlying4
  a4 := Try.isAgg4
  z4 := Try.sizeOf4
  v4 := Try.zeroValue4
  t9 := Try.underlying9
  a9 := Try.isAgg9
  z9 := Try.sizeOf9
  v9 := Try.zeroValue9
  t20 := Try.underlying20
  a20 := Try.isAgg20
  z20 := Try.sizeOf20
  v20 := Try.zeroValue20
  t31 := Try.underlying25
  a31 := Try.isAgg25
  z31 := Try.sizeOf25
  v31 := Try.zeroValue25
  t37 := Try.underlying155
  a37 := Try.isAgg155
  z37 := Try.sizeOf155
  v37 := Try.zeroValue155
  t70 := Try.underlying154
  a70 := Try.isAgg154
  z70 := Try.sizeOf154
  v70 := Try.zeroValue154
  t72 := Try.underlying157
  a72 := Try.isAgg157
  z72 := Try.sizeOf157
  v72 := Try.zeroValue157
  t75 := Try.underlying160
  a75 := Try.isAgg160
  z75 := Try.sizeOf160
  v75 := Try.zeroValue160
  t76 := Try.underlying161
  a76 := Try.isAgg161
  z76 := Try.sizeOf161
  v76 := Try.zeroValue161
  t127 := Try.underlying184
  a127 := Try.isAgg184
  z127 := Try.sizeOf184
  v127 := Try.zeroValue184
  t164 := Try.underlying189
  a164 := Try.isAgg189
  z164 := Try.sizeOf189
  v164 := Try.zeroValue189 }
theorem Try.Builder_Extra_156 : Builder.Extra Try.prog Try.lays156_ren := {
  sizeBuilder := by kernel_rfl
  liesBuilder := by kernel_rfl
  t5 := Try.underlying5
  a5 := Try.isAgg5
  z5 := Try.sizeOf5
  v5 := Try.zeroValue5
  infoByte := by kernel_rfl
  cellsByte := by kernel_rfl
  sizeByte := by kernel_rfl
  neB5 := by decide }
open Go.RowKit in
/-- No element: the empty string; the world is as it was. (Whatever the slice's address and capacity: a nil slice too.) (LAID: no walk: one application.) -/
theorem Try.strings_Join_none (a : Option Addr) (c : Nat) (sep : ByteArray) (w : World) :
    Calls Try.prog 91 #[.slice a 0 c, .string sep] w fun e w' => e = .returned (.string ⟨#[]⟩) ∧ w' = w := Any.strings_Join_none Try.lays156 Try.Builder_Extra_156 a c sep w
open Go.RowKit in
/-- strings.Join: "Join concatenates the elements of its first argument to create a single string. The separator string sep is placed between elements in the resulting string.": HOWEVER MANY ELEMENTS. Below the heap's end the world is as it was. (LAID: no walk: one application.) -/
theorem Try.strings_Join (bk o c : Nat) (xs : List ByteArray) (sep : ByteArray) (w : World) (hcells : ∀ (j : Nat) x, xs[j]? = some x → w.cell? ⟨bk, o + j, none⟩ = some (.string x)) (hbk : bk < w.heap.size) (hN : xs.length ≤ 140737488355328) (hcap : xs.length ≤ c) (hlen : (Lib.join (xs.map (·.data.toList)) sep.data.toList).length ≤ 140737488355328) :
    Calls Try.prog 91 #[.slice (some ⟨bk, o, none⟩) xs.length c, .string sep] w fun e w' => e = .returned (.string ⟨(Lib.join (xs.map (·.data.toList)) sep.data.toList).toArray⟩) ∧ Below w.heap.size w w' := Any.strings_Join Try.lays156 Try.Builder_Extra_156 bk o c xs sep w hcells hbk hN hcap hlen
end Go.Proofs
