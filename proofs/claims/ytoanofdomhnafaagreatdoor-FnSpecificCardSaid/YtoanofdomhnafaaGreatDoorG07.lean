/- Parts of a proof: Lower. -/
import Derived.Test.YtoanofdomhnafaaGreatDoorG00
import Derived.BigGuardPart
import Derived.Lib.ConvBytes
import Derived.Lib.SmallJoins
import Derived.Laws.IdiomStrings
set_option linter.unusedVariables false
set_option linter.unusedSimpArgs false
namespace Go.Proofs.YtoanofdomhnafaaGreatDoor
open Go.RowKit
/-- A capital letter. -/
def capital (n : Nat) : Prop := 65 ≤ n ∧ n ≤ 90
/-- No byte is a capital letter. -/
def NoCap (l : List UInt8) : Prop := ∀ j, j < l.length → ¬ capital (l.getD j 0).toNat
theorem add_at (b o j : Nat) : (⟨b, o, none⟩ : Addr).add j = ⟨b, o + j, none⟩ := by unfold Addr.add; split <;> simp_all
theorem frozen_bytesWorld (w : World) (e : TypeId) (s : ByteArray) (j : Nat) (hj : j < s.size) : (Lib.bytesWorld w e s).frozen? ⟨w.heap.size, j, none⟩ = false := by
  have h := Lib.bytesWorld_at_new w e s
  have hsz : s.size ≤ (Lib.bytesCells w e s).size := by
    unfold Lib.bytesCells
    rw [Array.size_append, Array.size_map]
    exact Nat.le_add_right _ _
  simp only [World.frozen?, h]
  simp
  omega
end Go.Proofs.YtoanofdomhnafaaGreatDoor
