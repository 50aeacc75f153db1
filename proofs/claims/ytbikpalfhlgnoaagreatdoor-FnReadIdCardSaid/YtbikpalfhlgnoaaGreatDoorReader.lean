/- spec.reader's cells; its method next. -/
import Derived.Test.YtbikpalfhlgnoaaGreatDoorCells
import Derived.Test.YtbikpalfhlgnoaaGreatDoorDigits
namespace Go.Proofs.YtbikpalfhlgnoaaGreatDoor
open Go.RowKit
set_option linter.unusedVariables false
set_option linter.unusedSimpArgs false

/-- A reader's cells. -/
def rdr (s : ByteArray) (k : Nat) (b u p : Bool) : Array Value := #[.string s, .int .i64 (k : Int), .bool b, .bool u, .bool p]

/-- A reader lies at block B. -/
def Rdr (w : World) (B : Nat) (s : ByteArray) (k : Nat) (b u p : Bool) : Prop := World.objAt w B (rdr s k b u p) 42

theorem Rdr.drew {w : World} {B : Nat} {s : ByteArray} {k : Nat} {b u p : Bool} (h : Rdr w B s k b u p) (q : Nat) : Rdr (w.drewN q) B s k b u p := by
  unfold Rdr World.objAt at h ⊢
  rw [World.heap_drewN]
  exact h

set_option maxRecDepth 100000 in
set_option maxHeartbeats 1000000 in
theorem next_any (s : ByteArray) (k B : Nat) (b u p : Bool) (w : World) (h : Rdr w B s k b u p) :
    Calls Tryz.prog 12 #[.pointer (some ⟨B, 0, none⟩)] w (fun e w' => e = .returned (.int .u8 (nx s k)) ∧ ∃ m, w' = w.drewN m) := by
  have c0 : w.cell? ⟨B, 0, none⟩ = some (.string s) := h.cell (i := 0) rfl
  have c1 : w.cell? ⟨B, 1, none⟩ = some (.int .i64 (k : Int)) := h.cell (i := 1) rfl
  clear h
  by_cases hlt : k < s.size
  · have g : decide ((s.size : Int) ≤ (k : Int)) = false := by simp; omega
    have gn : decide (s.size ≤ k) = false := by simp; omega
    go_enter Tryz.func12, Tryz.ntmps12
    go_wp2
    go_quiet (fail)
    go_wp2
    go_quiet (fail)
    go_wp2
    go_ret
    exact ⟨by rw [nx_lt hlt]; rfl, _, World.drewN_drewN _ _ _⟩
  · have g : decide ((s.size : Int) ≤ (k : Int)) = true := by simp; omega
    have gn : decide (s.size ≤ k) = true := by simp; omega
    go_enter Tryz.func12, Tryz.ntmps12
    go_wp2
    go_quiet (fail)
    go_wp2
    go_ret
    exact ⟨by rw [nx_end (by omega)]; rfl, _, rfl⟩

theorem Rdr.step {w : World} {B : Nat} {s : ByteArray} {k : Nat} {b u p : Bool} (h : Rdr w B s k b u p) : Rdr (w.setCell ⟨B, 1, none⟩ (.int .i64 ((k + 1 : Nat) : Int))) B s (k + 1) b u p :=
  World.objAt.set h 1 _

theorem Rdr.doubt {w : World} {B : Nat} {s : ByteArray} {k : Nat} {b u p : Bool} (h : Rdr w B s k b u p) (u' : Bool) : Rdr (w.setCell ⟨B, 3, none⟩ (.bool u')) B s k b u' p :=
  World.objAt.set h 3 _

theorem Rdr.left {w : World} {B : Nat} {s : ByteArray} {k : Nat} {b u p : Bool} (h : Rdr w B s k b u p) : s.size - (intOf ((w.cell? ⟨B, 1, none⟩).getD undef)).toNat = s.size - k := by
  have e : w.cell? ⟨B, 1, none⟩ = some (.int .i64 (k : Int)) := World.objAt.cell h (i := 1) rfl
  rw [e]
  simp [intOf]

end Go.Proofs.YtbikpalfhlgnoaaGreatDoor
