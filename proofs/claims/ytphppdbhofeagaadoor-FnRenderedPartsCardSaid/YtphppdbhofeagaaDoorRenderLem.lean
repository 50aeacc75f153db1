/- What html.render1 asks at an element: childTextNodesAreLiteral, strings.HasPrefix, the table of void elements. -/
import Derived.Test.YtphppdbhofeagaaDoorRender1
import Derived.Test.YtphppdbhofeagaaDoorRendLen
import Derived.Test.YtphppdbhofeagaaDoorAttrOpen
import Derived.Deep.LoopGhost
namespace Go.Proofs.YtphppdbhofeagaaDoor
open Go.RowKit
set_option linter.unusedVariables false
set_option linter.unusedSimpArgs false

/-- The table of void elements, wherever it lies: a plain name is not in it. -/
def VoidAt (w : World) : Prop := ∃ bm, w.cell? ⟨3, 0, none⟩ = some (.map (some bm)) ∧ ∀ w', Below w.heap.size w w' → ∀ s : ByteArray, Plainish s → (Instr.lookup 117 (.map (some bm)) (.string s) false).run Tryd.prog w' = .ok (.bool false) w'

theorem VoidAt.below {w w' : World} (h : VoidAt w) (hb : Below w.heap.size w w') : VoidAt w' := by
  obtain ⟨bm, h1, h2⟩ := h
  exact ⟨bm, cell_below hb h1, fun w2 h3 s hs => h2 w2 (hb.trans (h3.mono hb.size)) s hs⟩

theorem isB_lt {B b : Nat} {l : List UInt8} {w : World} (h : IsB B b l w) : b < w.heap.size := h.elim (fun x => x.lt) (fun x => x.lt)

theorem putB (B b : Nat) (l : List UInt8) (n : Int) (c : UInt8) (hc : (c.toNat : Int) = n) (w : World) (h : IsB B b l w) (hlen : l.length ≤ 100000000000) (hBw : B ≤ w.heap.size) :
    Calls Tryd.prog 90 #[.pointer (some ⟨b, 0, none⟩), .int .u8 n] w fun e w' => e = .returned .nilIface ∧ (IsB B b (l ++ [c]) w' ∧ Below B w w') ∧ Others b w w' := by
  subst hc
  exact writeByteK_any B b l c w h (by omega) hBw

theorem putS (B b : Nat) (l : List UInt8) (s : ByteArray) (w : World) (h : IsB B b l w) (hlen : l.length ≤ 100000000000) (hs : s.size ≤ 100000000000) (hBw : B ≤ w.heap.size) :
    Calls Tryd.prog 91 #[.pointer (some ⟨b, 0, none⟩), .string s] w fun e w' => e = .returned (.tuple #[.int .i64 s.size, .nilIface]) ∧ (IsB B b (l ++ s.data.toList) w' ∧ Below B w w') ∧ Others b w w' :=
  writeStrK_any B b l s w h (by omega) hBw

set_option maxRecDepth 100000 in
set_option maxHeartbeats 2000000 in
theorem childLit_any (g : Nat) (r : NRec) (w : World) (hn : World.nodeAt w g r) (hns : r.ns = ByteArray.empty) (ht : Plainish r.data) :
    Calls Tryd.prog 63 #[.pointer (some ⟨g, 0, none⟩)] w fun e w' => e = .returned (.bool false) ∧ w = w' := by
  have c7 := hn.data
  have c8 := hn.nsc
  rw [hns] at c8
  obtain ⟨t, htt⟩ : ∃ t, r.data = t := ⟨_, rfl⟩
  rw [htt] at c7 ht
  have q1 := plainish_ne ht [105, 102, 114, 97, 109, 101] (by decide)
  have q2 := plainish_ne ht [110, 111, 101, 109, 98, 101, 100] (by decide)
  have q3 := plainish_ne ht [110, 111, 102, 114, 97, 109, 101, 115] (by decide)
  have q4 := plainish_ne ht [110, 111, 115, 99, 114, 105, 112, 116] (by decide)
  have q5 := plainish_ne ht [112, 108, 97, 105, 110, 116, 101, 120, 116] (by decide)
  have q6 := plainish_ne ht [115, 99, 114, 105, 112, 116] (by decide)
  have q7 := plainish_ne ht [115, 116, 121, 108, 101] (by decide)
  have q8 := plainish_ne ht [120, 109, 112] (by decide)
  clear hn hns ht htt
  go_enter Tryd.func63, Tryd.ntmps63
  go_wp2
  go_ret
  exact ⟨rfl, rfl⟩

set_option maxRecDepth 100000 in
set_option maxHeartbeats 2000000 in
theorem hasPrefix_any (s : ByteArray) (w : World) (hs : s.size ≤ 100000000) :
    Calls Tryd.prog 62 #[.string s, .string ⟨#[10]⟩] w (SomeBoolB (fun _ => True) w) := by
  go_enter Tryd.func62, Tryd.ntmps62
  go_wp2
  all_goals
    go_ret
    exact ⟨_, trivial, rfl, Below.refl _ _⟩

end Go.Proofs.YtphppdbhofeagaaDoor
