/- strings.Join (the shelf's contract, in plain words; seat r9 .Z). -/
import Derived.Shelf.Strings.OnBuilder
import Derived.Test.YtkdomegcacgpnaaGreatProg
namespace Go.Proofs
open Go.Shelf
def Tryz.lays156_ren : Go.Shelf.Ren := ⟨fun | 156 => 74 | 165 => 121 | 166 => 122 | 169 => 123 | 240 => 137 | 241 => 138 | 276 => 146 | 277 => 147 | n => n, fun | 31 => 24 | 9 => 9 | 3 => 3 | 4 => 4 | 0 => 0 | 20 => 20 | 72 => 156 | 76 => 160 | 70 => 153 | 37 => 154 | 75 => 159 | 127 => 171 | 164 => 176 | 5 => 5 | 80 => 162 | n => n, fun | n => n⟩
theorem Tryz.lays156 : Go.Proofs.Lays.n156 Tryz.prog Tryz.lays156_ren := {
  mixed := by kernel_rfl
  f156 := Tryz.func74.trans (congrArg some (by kernel_rfl))
  f165 := Tryz.func121.trans (congrArg some (by kernel_rfl))
  f166 := Tryz.func122.trans (congrArg some (by kernel_rfl))
  f169 := Tryz.func123.trans (congrArg some (by kernel_rfl))
  f240 := Tryz.func137.trans (congrArg some (by kernel_rfl))
  f241 := Tryz.func138.trans (congrArg some (by kernel_rfl))
  f276 := Tryz.func146.trans (congrArg some (by kernel_rfl))
  f277 := Tryz.func147.trans (congrArg some (by kernel_rfl))
  t0 := Tryz.underlying0
  a0 := Tryz.isAgg0
  z0 := Tryz.sizeOf0
  v0 := Tryz.zeroValue0
  t3 := Tryz.underlying3
  a3 := Tryz.isAgg3
  z3 := Tryz.sizeOf3
  v3 := Tryz.zeroValue3
  t4 := Tryz.underlying4
  a4 := Tryz.isAgg4
  z4 := Tryz.sizeOf4
  v4 := Tryz.zeroValue4
  t9 := Tryz.underlying9
  a9 := Tryz.isAgg9
  z9 := Tryz.sizeOf9
  v9 := Tryz.zeroValue9
  t20 := Tryz.underlying20
  a20 := Tryz.isAgg20
  z20 := Tryz.sizeOf20
  v20 := Tryz.zeroValue20
  t31 := Tryz.underlying24
  a31 := Tryz.isAgg24
  z31 := Tryz.sizeOf24
  v31 := Tryz.zeroValue24
  t37 := Tryz.underlying154
  a37 := Tryz.isAgg154
  z37 := Tryz.sizeOf154
  v37 := Tryz.zeroValue154
  t70 := Tryz.underlying153
  a70 := Tryz.isAgg153
  z70 := Tryz.sizeOf153
  v70 := Tryz.zeroValue153
  t72 := Tryz.underlying156
  a72 := Tryz.isAgg156
  z72 := Tryz.sizeOf156
  v72 := Tryz.zeroValue156
  t75 := Tryz.underlying159
  a75 := Tryz.isAgg159
  z75 := Tryz.sizeOf159
  v75 := Tryz.zeroValue159
  t76 := Tryz.underlying160
  a76 := Tryz.isAgg160
  z76 := Tryz.sizeOf160
  v76 := Tryz.zeroValue160
  t127 := Tryz.underlying171
  a127 := Tryz.isAgg171
  z127 := Tryz.sizeOf171
  v127 := Tryz.zeroValue171
  t164 := Tryz.underlying176
  a164 := Tryz.isAgg176
  z164 := Tryz.sizeOf176
  v164 := Tryz.zeroValue176 }
theorem Tryz.Builder_Extra_156 : Builder.Extra Tryz.prog Tryz.lays156_ren := {
  sizeBuilder := by kernel_rfl
  liesBuilder := by kernel_rfl
  t5 := Tryz.underlying5
  a5 := Tryz.isAgg5
  z5 := Tryz.sizeOf5
  v5 := Tryz.zeroValue5
  infoByte := by kernel_rfl
  cellsByte := by kernel_rfl
  sizeByte := by kernel_rfl
  neB5 := by decide }
open Go.RowKit in
/-- No element: the empty string; the world is as it was. (Whatever the slice's address and capacity: a nil slice too.) (LAID: no walk: one application.) -/
theorem Tryz.strings_Join_none (a : Option Addr) (c : Nat) (sep : ByteArray) (w : World) :
    Calls Tryz.prog 74 #[.slice a 0 c, .string sep] w fun e w' => e = .returned (.string ⟨#[]⟩) ∧ w' = w := Any.strings_Join_none Tryz.lays156 Tryz.Builder_Extra_156 a c sep w
open Go.RowKit in
/-- strings.Join: "Join concatenates the elements of its first argument to create a single string. The separator string sep is placed between elements in the resulting string.": HOWEVER MANY ELEMENTS. Below the heap's end the world is as it was. (LAID: no walk: one application.) -/
theorem Tryz.strings_Join (bk o c : Nat) (xs : List ByteArray) (sep : ByteArray) (w : World) (hcells : ∀ (j : Nat) x, xs[j]? = some x → w.cell? ⟨bk, o + j, none⟩ = some (.string x)) (hbk : bk < w.heap.size) (hN : xs.length ≤ 140737488355328) (hcap : xs.length ≤ c) (hlen : (Lib.join (xs.map (·.data.toList)) sep.data.toList).length ≤ 140737488355328) :
    Calls Tryz.prog 74 #[.slice (some ⟨bk, o, none⟩) xs.length c, .string sep] w fun e w' => e = .returned (.string ⟨(Lib.join (xs.map (·.data.toList)) sep.data.toList).toArray⟩) ∧ Below w.heap.size w w' := Any.strings_Join Tryz.lays156 Tryz.Builder_Extra_156 bk o c xs sep w hcells hbk hN hcap hlen
end Go.Proofs
