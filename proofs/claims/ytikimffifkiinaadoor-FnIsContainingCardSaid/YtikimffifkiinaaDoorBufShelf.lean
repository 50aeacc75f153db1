/-
  DERIVED: THE SHELF's CONTRACTS AT THIS DUMP, IN PLAIN WORDS (tools/lay-plain.mjs out of 'TrydBuf.lean', which tools/lay-shelf.mjs wrote): THE SAME DECLARATIONS UNDER THE SAME NAMES: 'import', 'namespace', 'open', 'def', 'theorem' AND NOTHING ELSE: no command of the shelf's: FOR A HAND-IN. Each laying: the table of numbers ('.._ren') and one theorem, a field a fact of the dump's own or the kernel's comparison; each contract: ONE APPLICATION.
-/
import Derived.Shelf.LaysM
import Derived.Shelf.Bytes.WriteString
import Derived.Shelf.Bytes.String
import Derived.Test.YtikimffifkiinaaDoorProg
namespace Go.Proofs
open Go.Shelf
def Tryd.laysM178_ren : Go.Shelf.Ren := ⟨fun | 178 => 59 | 251 => 65 | 252 => 66 | 181 => 68 | 184 => 69 | 290 => 70 | 324 => 71 | n => n, fun | 130 => 108 | 9 => 9 | 3 => 3 | 75 => 103 | 0 => 0 | 93 => 101 | 91 => 99 | 131 => 113 | 4 => 4 | 37 => 89 | 20 => 20 | 80 => 106 | 5 => 5 | n => n, fun | 14 => 1 | n => n⟩
theorem Tryd.laysM178 : Go.Proofs.LaysM.n178 Tryd.prog Tryd.laysM178_ren := {
  mixed := by kernel_rfl
  f178 := Tryd.func59.trans (congrArg some (by kernel_rfl))
  f181 := Tryd.func68.trans (congrArg some (by kernel_rfl))
  f184 := Tryd.func69.trans (congrArg some (by kernel_rfl))
  f251 := Tryd.func65.trans (congrArg some (by kernel_rfl))
  f252 := Tryd.func66.trans (congrArg some (by kernel_rfl))
  f290 := Tryd.func70.trans (congrArg some (by kernel_rfl))
  f324 := Tryd.func71.trans (congrArg some (by kernel_rfl))
  t0 := Tryd.underlying0
  a0 := Tryd.isAgg0
  z0 := Tryd.sizeOf0
  v0 := Tryd.zeroValue0
  t3 := Tryd.underlying3
  a3 := Tryd.isAgg3
  z3 := Tryd.sizeOf3
  v3 := Tryd.zeroValue3
  t4 := Tryd.underlying4
  a4 := Tryd.isAgg4
  z4 := Tryd.sizeOf4
  v4 := Tryd.zeroValue4
  t9 := Tryd.underlying9
  a9 := Tryd.isAgg9
  z9 := Tryd.sizeOf9
  v9 := Tryd.zeroValue9
  t20 := Tryd.underlying20
  a20 := Tryd.isAgg20
  z20 := Tryd.sizeOf20
  v20 := Tryd.zeroValue20
  t37 := Tryd.underlying89
  a37 := Tryd.isAgg89
  z37 := Tryd.sizeOf89
  v37 := Tryd.zeroValue89
  t75 := Tryd.underlying103
  a75 := Tryd.isAgg103
  z75 := Tryd.sizeOf103
  v75 := Tryd.zeroValue103
  t91 := Tryd.underlying99
  a91 := Tryd.isAgg99
  z91 := Tryd.sizeOf99
  v91 := Tryd.zeroValue99
  t93 := Tryd.underlying101
  a93 := Tryd.isAgg101
  z93 := Tryd.sizeOf101
  v93 := Tryd.zeroValue101
  t130 := Tryd.underlying108
  a130 := Tryd.isAgg108
  z130 := Tryd.sizeOf108
  v130 := Tryd.zeroValue108
  t131 := Tryd.underlying113
  a131 := Tryd.isAgg113
  z131 := Tryd.sizeOf113
  v131 := Tryd.zeroValue113
  g14 := by kernel_rfl
  t5 := Tryd.underlying5
  a5 := Tryd.isAgg5
  z5 := Tryd.sizeOf5
  v5 := Tryd.zeroValue5
  t80 := Tryd.underlying106
  a80 := Tryd.isAgg106
  z80 := Tryd.sizeOf106
  v80 := Tryd.zeroValue106
  i0 := by kernel_rfl
  i3 := by kernel_rfl
  i4 := by kernel_rfl
  i5 := by kernel_rfl
  i9 := by kernel_rfl
  i20 := by kernel_rfl
  i37 := by kernel_rfl
  i75 := by kernel_rfl
  i80 := by kernel_rfl
  i91 := by kernel_rfl
  i93 := by kernel_rfl
  i130 := by kernel_rfl
  i131 := by kernel_rfl
  m14 := by kernel_rfl }
open Go.RowKit in
/-- (*bytes.Buffer).WriteString: "WriteString appends the contents of s to the buffer, growing the buffer as needed. The return value n is the length of s; err is always nil." (LAID: no walk: one application.) -/
theorem Tryd.Buffer_WriteString (B b : Nat) (bs : List Value) (s : ByteArray) (w : World) (h : Lib.IsBuffer 101 5 B b bs w) (hBw : B ≤ w.heap.size) (h1 : ∀ v ∈ bs, v.oneCell' = true) (hlim : bs.length + s.size ≤ 140737488355328) :
    Calls Tryd.prog 59 #[.pointer (some ⟨b, 0, none⟩), .string s] w fun e w' => e = .returned (.tuple #[.int .i64 s.size, .nilIface]) ∧ Lib.IsBuffer 101 5 B b (bs ++ Lib.byteCells s.data.toList) w' ∧ Below B w w' := Any.Buffer_WriteString Tryd.laysM178 B b bs s w h hBw h1 hlim
def Tryd.laysM182_ren : Go.Shelf.Ren := ⟨fun | 182 => 60 | n => n, fun | 130 => 108 | 9 => 9 | 4 => 4 | 0 => 0 | 93 => 101 | 37 => 89 | 3 => 3 | 91 => 99 | 5 => 5 | n => n, fun | n => n⟩
theorem Tryd.laysM182 : Go.Proofs.LaysM.n182 Tryd.prog Tryd.laysM182_ren := {
  mixed := by kernel_rfl
  f182 := Tryd.func60.trans (congrArg some (by kernel_rfl))
  t0 := Tryd.underlying0
  a0 := Tryd.isAgg0
  z0 := Tryd.sizeOf0
  v0 := Tryd.zeroValue0
  t3 := Tryd.underlying3
  a3 := Tryd.isAgg3
  z3 := Tryd.sizeOf3
  v3 := Tryd.zeroValue3
  t4 := Tryd.underlying4
  a4 := Tryd.isAgg4
  z4 := Tryd.sizeOf4
  v4 := Tryd.zeroValue4
  t9 := Tryd.underlying9
  a9 := Tryd.isAgg9
  z9 := Tryd.sizeOf9
  v9 := Tryd.zeroValue9
  t37 := Tryd.underlying89
  a37 := Tryd.isAgg89
  z37 := Tryd.sizeOf89
  v37 := Tryd.zeroValue89
  t93 := Tryd.underlying101
  a93 := Tryd.isAgg101
  z93 := Tryd.sizeOf101
  v93 := Tryd.zeroValue101
  t130 := Tryd.underlying108
  a130 := Tryd.isAgg108
  z130 := Tryd.sizeOf108
  v130 := Tryd.zeroValue108
  t5 := Tryd.underlying5
  a5 := Tryd.isAgg5
  z5 := Tryd.sizeOf5
  v5 := Tryd.zeroValue5
  t91 := Tryd.underlying99
  a91 := Tryd.isAgg99
  z91 := Tryd.sizeOf99
  v91 := Tryd.zeroValue99
  i0 := by kernel_rfl
  i3 := by kernel_rfl
  i4 := by kernel_rfl
  i5 := by kernel_rfl
  i9 := by kernel_rfl
  i37 := by kernel_rfl
  i91 := by kernel_rfl
  i93 := by kernel_rfl
  i130 := by kernel_rfl }
open Go.RowKit in
/-- (*bytes.Buffer).String: "String returns the contents of the unread portion of the buffer as a string.": THE BYTES THAT WERE WRITTEN. The world is as it was but for the count of draws (the statement has two reads: its order is drawn). (LAID: no walk: one application.) -/
theorem Tryd.Buffer_String (B b : Nat) (l : List UInt8) (w : World) (h : Lib.IsBuffer 101 5 B b (Lib.byteCells l) w) :
    Calls Tryd.prog 60 #[.pointer (some ⟨b, 0, none⟩)] w fun e w' => e = .returned (.string ⟨l.toArray⟩) ∧ ∃ n, w' = w.drewN n := Any.Buffer_String Tryd.laysM182 B b l w h
end Go.Proofs
