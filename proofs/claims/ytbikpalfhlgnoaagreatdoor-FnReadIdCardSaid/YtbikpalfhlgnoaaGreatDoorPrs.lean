/- A parser's cells; results of four. -/
import Derived.Test.YtbikpalfhlgnoaaGreatDoorCells
import Derived.Test.YtbikpalfhlgnoaaGreatDoorDigits
namespace Go.Proofs.YtbikpalfhlgnoaaGreatDoor
open Go.RowKit
set_option linter.unusedVariables false
set_option linter.unusedSimpArgs false

theorem results_tmp4 {fn : Func} {a b c d : Tmp} (h : fn.results = #[.tmp a, .tmp b, .tmp c, .tmp d]) (tmps : Array Value) (P : Program) (w : World) :
    (results fn tmps).run P w = .ok (.tuple #[tmps.getD a undef, tmps.getD b undef, tmps.getD c undef, tmps.getD d undef]) w := by
  simp [results, h]

/-- A parser's cells. -/
def prs (s : ByteArray) (k : Nat) : Array Value := #[.string s, .int .i64 (k : Int), .int .i64 0, .bool false]
def Prs (w : World) (B : Nat) (s : ByteArray) (k : Nat) : Prop := World.objAt w B (prs s k) 52
theorem Prs.drew {w : World} {B : Nat} {s : ByteArray} {k : Nat} (h : Prs w B s k) (q : Nat) : Prs (w.drewN q) B s k := by
  unfold Prs World.objAt at h ⊢
  rw [World.heap_drewN]
  exact h
theorem prs_new (w : World) (s : ByteArray) : Prs (w.alloc (.cells #[.string s, .int .i64 0, .int .i64 0, .bool false] 52)) w.heap.size s 0 := objAt_alloc_new _ _ _
theorem Prs.at {w : World} {B : Nat} {s : ByteArray} {k : Nat} (h : Prs w B s k) (m : Nat) : Prs (w.setCell ⟨B, 1, none⟩ (.int .i64 (m : Int))) B s m := World.objAt.set h 1 _

theorem err_world {w : World} {B : Nat} {s : ByteArray} (h : Prs w B s 0) (m : Nat) (o : Obj) : Below B w ((w.drewN m).alloc o) ∧ Prs ((w.drewN m).alloc o) B s 0 := by
  have hlt := World.objAt.lt h
  have hb : Below w.heap.size w ((w.drewN m).alloc o) := (below_drewN (Below.refl w.heap.size w) m).alloc (Nat.le_refl _) o
  exact ⟨hb.mono (Nat.le_of_lt hlt), World.objAt.below h hb hlt⟩

end Go.Proofs.YtbikpalfhlgnoaaGreatDoor
