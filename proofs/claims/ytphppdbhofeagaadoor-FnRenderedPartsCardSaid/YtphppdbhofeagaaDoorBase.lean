/- Views of slices that came in, and small facts that all walks of this seat use. -/
import Derived.Test.YtphppdbhofeagaaDoorRows
import Derived.WalkKit
import Derived.WalkSpells
import Derived.WalkLawsBesides
import Derived.ProofKit
import Derived.BigQuiet
import Derived.Deep.QuietTactic
import Derived.Lib.Hide
namespace Go.Proofs.YtphppdbhofeagaaDoor
open Go.RowKit
set_option linter.unusedVariables false
set_option linter.unusedSimpArgs false

/-- Some bool, of which something is known; the world is as it was. -/
def SomeBool (P : Bool → Prop) (w : World) (e : Ending) (w' : World) : Prop := ∃ b : Bool, P b ∧ e = .returned (.bool b) ∧ w = w'

/-- Some bool, of which something is known; what was there is as it was. -/
def SomeBoolB (P : Bool → Prop) (w : World) (e : Ending) (w' : World) : Prop := ∃ b : Bool, P b ∧ e = .returned (.bool b) ∧ Below w.heap.size w w'

/-- A value, and what was there is as it was. -/
def Gives (v : Value) (w : World) (e : Ending) (w' : World) : Prop := e = .returned v ∧ Below w.heap.size w w'

/-- The values behind a slice's address (one cell each). -/
def Row (w : World) (a : Option Addr) (len : Nat) (vs : List Value) : Prop :=
  vs.length = len ∧ len ≤ maxLen ∧ (0 < len → ∃ b off, a = some ⟨b, off, none⟩ ∧ ∀ i, i < len → w.cell? ⟨b, off + i, none⟩ = some (vs.getD i undef))

theorem Row.below {w w' : World} {a : Option Addr} {len : Nat} {vs : List Value} (h : Row w a len vs) (hb : Below w.heap.size w w') : Row w' a len vs := by
  obtain ⟨h1, h2, h3⟩ := h
  refine ⟨h1, h2, fun hl => ?_⟩
  obtain ⟨b, off, rfl, hc⟩ := h3 hl
  refine ⟨b, off, rfl, fun i hi => ?_⟩
  have := hc i hi
  exact (hb.cell (p := ⟨b, off + i, none⟩) (World.block_lt_of_cell? _ _ this)).trans this

/-- The strings behind a slice's address. -/
def Strs (w : World) (a : Option Addr) (len : Nat) (ss : List ByteArray) : Prop := Row w a len (ss.map .string)

theorem Strs.below {w w' : World} {a : Option Addr} {len : Nat} {ss : List ByteArray} (h : Strs w a len ss) (hb : Below w.heap.size w w') : Strs w' a len ss := Row.below h hb

theorem Strs.len {w : World} {a : Option Addr} {len : Nat} {ss : List ByteArray} (h : Strs w a len ss) : ss.length = len ∧ len ≤ 9223372036854775807 := by
  obtain ⟨h1, h2, _⟩ := h
  exact ⟨by simpa using h1, h2⟩

theorem Strs.at {w : World} {a : Option Addr} {len : Nat} {ss : List ByteArray} (h : Strs w a len ss) (hl : 0 < len) :
    ∃ b off, a = some ⟨b, off, none⟩ ∧ ∀ i, i < len → w.cell? ⟨b, off + i, none⟩ = some (.string (ss.getD i ByteArray.empty)) := by
  obtain ⟨h1, _, h3⟩ := h
  obtain ⟨b, off, rfl, hc⟩ := h3 hl
  refine ⟨b, off, rfl, fun i hi => ?_⟩
  rw [hc i hi]
  have h1' : ss.length = len := by simpa using h1
  have hi' : i < ss.length := by omega
  simp [List.getD, hi']

theorem getD_mem' {α : Type} {l : List α} {i : Nat} {d : α} (h : i < l.length) : l.getD i d ∈ l := by
  rw [List.getD_eq_getElem?_getD, List.getElem?_eq_getElem h]
  exact List.getElem_mem _

theorem cell_alloc_new' (w : World) (c : Array Value) (t : TypeId) {k i : Nat} {x : Value} (hk : k = w.heap.size) (h : c[i]? = some x) : (w.alloc (.cells c t)).cell? ⟨k, i, none⟩ = some x := by
  subst hk
  have := heap_alloc_new w (.cells c t)
  simp only [World.cell?, this]
  exact h

theorem cell_alloc_old {w : World} {a : Addr} {x : Value} (h : w.cell? a = some x) (o : Obj) : (w.alloc o).cell? a = some x := by
  have hl := World.block_lt_of_cell? _ _ h
  rw [World.cell?_of_block (w := w) (Below.heap_alloc w o _ hl)]
  exact h

/-- Yes, and what was there is as it was. -/
def YesB (w : World) (e : Ending) (w' : World) : Prop := e = .returned (.bool true) ∧ Below w.heap.size w w'

end Go.Proofs.YtphppdbhofeagaaDoor
