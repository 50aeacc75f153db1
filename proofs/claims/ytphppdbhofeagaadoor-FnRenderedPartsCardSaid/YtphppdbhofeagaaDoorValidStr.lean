/- utf8.ValidString: it returns (the shelf's contract, in plain words). -/
import Derived.Shelf.Unicode.ValidAny
import Derived.Lib.LaidU8T
import Derived.Test.YtphppdbhofeagaaDoorProg
import Derived.Test.YtphppdbhofeagaaDoorNodes
namespace Go.Proofs
open Go.Shelf
def Tryd.lays196_ren : Go.Shelf.Ren := ⟨fun | 196 => 35 | 259 => 47 | n => n, fun | 9 => 9 | 4 => 4 | 3 => 3 | 5 => 5 | 12 => 12 | 119 => 92 | 0 => 0 | 46 => 96 | 139 => 95 | 138 => 94 | 53 => 107 | n => n, fun | 3 => 0 | 4 => 1 | n => n⟩
theorem Tryd.lays196 : Go.Proofs.Lays.n196 Tryd.prog Tryd.lays196_ren := {
  mixed := by kernel_rfl
  f196 := Tryd.func35.trans (congrArg some (by kernel_rfl))
  f259 := Tryd.func47.trans (congrArg some (by kernel_rfl))
  t0 := Tryd.underlying0
  a0 := Tryd.isAgg0
  z0 := Tryd.sizeOf0
  v0 := Tryd.zeroValue0
  t3 := Tryd.underlying3
  a3 := Tryd.isAgg3
  z3 := Tryd.sizeOf3
  v3 := Tryd.zeroValue3
  t4 := Tryd.underlying4
  a4 := Tryd.isAgg4
  z4 := Tryd.sizeOf4
  v4 := Tryd.zeroValue4
  t5 := Tryd.underlying5
  a5 := Tryd.isAgg5
  z5 := Tryd.sizeOf5
  v5 := Tryd.zeroValue5
  t9 := Tryd.underlying9
  a9 := Tryd.isAgg9
  z9 := Tryd.sizeOf9
  v9 := Tryd.zeroValue9
  t12 := Tryd.underlying12
  a12 := Tryd.isAgg12
  z12 := Tryd.sizeOf12
  v12 := Tryd.zeroValue12
  t46 := Tryd.underlying96
  a46 := Tryd.isAgg96
  z46 := Tryd.sizeOf96
  v46 := Tryd.zeroValue96
  t53 := Tryd.underlying107
  a53 := Tryd.isAgg107
  z53 := Tryd.sizeOf107
  v53 := Tryd.zeroValue107
  t119 := Tryd.underlying92
  a119 := Tryd.isAgg92
  z119 := Tryd.sizeOf92
  t138 := Tryd.underlying94
  a138 := Tryd.isAgg94
  z138 := Tryd.sizeOf94
  v138 := Tryd.zeroValue94
  t139 := Tryd.underlying95
  a139 := Tryd.isAgg95
  z139 := Tryd.sizeOf95
  v139 := Tryd.zeroValue95
  g3 := by kernel_rfl
  g4 := by kernel_rfl }
open Go.RowKit in
/-- utf8.ValidString. -/
theorem Tryd.utf8_ValidString (s : ByteArray) (w : World) (hs : s.size ≤ 9223372036854775807) (hT : Lib.Utf8Tabs (Tryd.lays196_ren.g 3) (Tryd.lays196_ren.g 4) w) :
    Calls Tryd.prog (Tryd.lays196_ren.f 196) #[.string s] w fun e w' => e = .returned (.bool (Lib.validD s.data.toList)) ∧ Below w.heap.size w w' := Any.utf8_ValidString Tryd.lays196 s w hs hT
end Go.Proofs

namespace Go.Proofs.YtphppdbhofeagaaDoor
open Go.RowKit

/-- The tables of package utf8, as they are laid. -/
def TabsAt (w : World) : Prop := Lib.Utf8Tabs (Tryd.lays196_ren.g 3) (Tryd.lays196_ren.g 4) w

theorem TabsAt.below {w w' : World} (h : TabsAt w) (hb : Below w.heap.size w w') : TabsAt w' := Go.Proofs.Utf8Tabs_below h hb

theorem validStr_any (s : ByteArray) (w : World) (hs : s.size ≤ maxLen) (hT : TabsAt w) :
    Calls Tryd.prog 35 #[.string s] w (SomeBoolB (fun _ => True) w) :=
  (Tryd.utf8_ValidString s w hs hT).mono fun _ _ h => ⟨_, trivial, h.1, h.2⟩

end Go.Proofs.YtphppdbhofeagaaDoor
