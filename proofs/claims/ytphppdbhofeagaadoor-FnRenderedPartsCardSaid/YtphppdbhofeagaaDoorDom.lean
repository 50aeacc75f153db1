/- Nodes of a document in memory: a block of ten cells a node; what a store into one of them does; AppendChild. -/
import Derived.Test.YtphppdbhofeagaaDoorBase
namespace Go.Proofs.YtphppdbhofeagaaDoor
open Go.RowKit
set_option linter.unusedVariables false
set_option linter.unusedSimpArgs false

/-- A node as it lies in memory: its five links (numbers of blocks), its type, its atom, its texts, its attributes (a slice's value). -/
structure NRec where
  par : Option Nat
  fst : Option Nat
  lst : Option Nat
  prv : Option Nat
  nxt : Option Nat
  ty : Int
  atom : Int
  data : ByteArray
  ns : ByteArray
  attr : Value

/-- A link: nil, or the head of a block. -/
def lk : Option Nat → Value
  | none => .pointer none
  | some b => .pointer (some ⟨b, 0, none⟩)

@[simp] theorem lk_none : lk none = .pointer none := rfl
@[simp] theorem lk_some (b : Nat) : lk (some b) = .pointer (some ⟨b, 0, none⟩) := rfl

theorem lk_pointer (x : Option Nat) : ∃ u, lk x = .pointer u ∧ (∀ b, x = some b → u = some ⟨b, 0, none⟩) ∧ (x = none → u = none) := by
  cases x with
  | none => exact ⟨none, rfl, by simp, fun _ => rfl⟩
  | some b => exact ⟨_, rfl, by simp, by simp⟩

def NRec.cells (r : NRec) : Array Value :=
  #[lk r.par, lk r.fst, lk r.lst, lk r.prv, lk r.nxt, .int .u32 r.ty, .int .u32 r.atom, .string r.data, .string r.ns, r.attr]

/-- The block of a node. -/
def NRec.obj (r : NRec) : Obj := .cells r.cells 68 (0, 0)

/-- A node lies at a block. -/
def World.nodeAt (w : World) (b : Nat) (r : NRec) : Prop := w.heap[b]? = some r.obj

/-- The world in which a node is another one. -/
def World.putN (w : World) (b : Nat) (r : NRec) : World := { w with heap := w.heap.setIfInBounds b r.obj }

theorem World.nodeAt.lt {w : World} {b : Nat} {r : NRec} (h : World.nodeAt w b r) : b < w.heap.size := by
  rcases Nat.lt_or_ge b w.heap.size with h' | h'
  · exact h'
  · unfold World.nodeAt at h
    rw [Array.getElem?_eq_none h'] at h
    simp at h

@[simp] theorem World.size_putN (w : World) (b : Nat) (r : NRec) : (World.putN w b r).heap.size = w.heap.size := by simp [World.putN]

theorem World.heap_putN_same {w : World} {b : Nat} (r : NRec) (h : b < w.heap.size) : (World.putN w b r).heap[b]? = some r.obj := by
  simp [World.putN, h]

theorem World.heap_putN_other {w : World} {b k : Nat} (r : NRec) (h : k ≠ b) : (World.putN w b r).heap[k]? = w.heap[k]? := by
  simp only [World.putN]
  rw [Array.getElem?_setIfInBounds_ne (by omega)]

theorem World.nodeAt.put {w : World} {b : Nat} {r : NRec} (h : World.nodeAt w b r) (r' : NRec) : World.nodeAt (World.putN w b r') b r' :=
  World.heap_putN_same r' h.lt

theorem World.nodeAt.other {w : World} {b k : Nat} {r : NRec} (h : World.nodeAt w k r) (r' : NRec) (hk : k ≠ b) : World.nodeAt (World.putN w b r') k r := by
  unfold World.nodeAt
  rw [World.heap_putN_other r' hk]
  exact h

theorem World.nodeAt.unique {w : World} {b : Nat} {r r' : NRec} (h : World.nodeAt w b r) (h' : World.nodeAt w b r') : r.obj = r'.obj := by
  unfold World.nodeAt at h h'
  rw [h] at h'
  simpa using h'

/-- What the cells of a node hold. -/
theorem World.nodeAt.cell {w : World} {b : Nat} {r : NRec} (h : World.nodeAt w b r) :
    w.cell? ⟨b, 0, none⟩ = some (lk r.par) ∧ w.cell? ⟨b, 1, none⟩ = some (lk r.fst) ∧ w.cell? ⟨b, 2, none⟩ = some (lk r.lst) ∧
    w.cell? ⟨b, 3, none⟩ = some (lk r.prv) ∧ w.cell? ⟨b, 4, none⟩ = some (lk r.nxt) ∧ w.cell? ⟨b, 5, none⟩ = some (.int .u32 r.ty) ∧
    w.cell? ⟨b, 6, none⟩ = some (.int .u32 r.atom) ∧ w.cell? ⟨b, 7, none⟩ = some (.string r.data) ∧ w.cell? ⟨b, 8, none⟩ = some (.string r.ns) ∧
    w.cell? ⟨b, 9, none⟩ = some r.attr := by
  unfold World.nodeAt at h
  simp [World.cell?, h, NRec.obj, NRec.cells]

theorem World.nodeAt.par {w : World} {b : Nat} {r : NRec} (h : World.nodeAt w b r) : w.cell? ⟨b, 0, none⟩ = some (lk r.par) := h.cell.1
theorem World.nodeAt.fst {w : World} {b : Nat} {r : NRec} (h : World.nodeAt w b r) : w.cell? ⟨b, 1, none⟩ = some (lk r.fst) := h.cell.2.1
theorem World.nodeAt.lst {w : World} {b : Nat} {r : NRec} (h : World.nodeAt w b r) : w.cell? ⟨b, 2, none⟩ = some (lk r.lst) := h.cell.2.2.1
theorem World.nodeAt.prv {w : World} {b : Nat} {r : NRec} (h : World.nodeAt w b r) : w.cell? ⟨b, 3, none⟩ = some (lk r.prv) := h.cell.2.2.2.1
theorem World.nodeAt.nxt {w : World} {b : Nat} {r : NRec} (h : World.nodeAt w b r) : w.cell? ⟨b, 4, none⟩ = some (lk r.nxt) := h.cell.2.2.2.2.1
theorem World.nodeAt.ty {w : World} {b : Nat} {r : NRec} (h : World.nodeAt w b r) : w.cell? ⟨b, 5, none⟩ = some (.int .u32 r.ty) := h.cell.2.2.2.2.2.1
theorem World.nodeAt.atom {w : World} {b : Nat} {r : NRec} (h : World.nodeAt w b r) : w.cell? ⟨b, 6, none⟩ = some (.int .u32 r.atom) := h.cell.2.2.2.2.2.2.1
theorem World.nodeAt.data {w : World} {b : Nat} {r : NRec} (h : World.nodeAt w b r) : w.cell? ⟨b, 7, none⟩ = some (.string r.data) := h.cell.2.2.2.2.2.2.2.1
theorem World.nodeAt.nsc {w : World} {b : Nat} {r : NRec} (h : World.nodeAt w b r) : w.cell? ⟨b, 8, none⟩ = some (.string r.ns) := h.cell.2.2.2.2.2.2.2.2.1
theorem World.nodeAt.attr {w : World} {b : Nat} {r : NRec} (h : World.nodeAt w b r) : w.cell? ⟨b, 9, none⟩ = some r.attr := h.cell.2.2.2.2.2.2.2.2.2

theorem World.nodeAt.free {w : World} {b : Nat} {r : NRec} (h : World.nodeAt w b r) (o : Nat) : w.frozen? ⟨b, o, none⟩ = false := by
  unfold World.nodeAt at h
  simp [World.frozen?, h, NRec.obj]

/-- A store into a cell of a node. -/
theorem setCell_node {w : World} {b : Nat} {r : NRec} (h : World.nodeAt w b r) (i : Nat) (v : Value) (r' : NRec) (hr : r.cells.setIfInBounds i v = r'.cells) :
    w.setCell ⟨b, i, none⟩ v = World.putN w b r' := by
  have hlt := h.lt
  unfold World.nodeAt at h
  unfold World.setCell World.putN
  congr 1
  apply Array.ext_getElem?
  intro k
  simp only [Array.getElem?_modify]
  by_cases hk : b = k
  · subst hk
    rw [if_pos rfl, h, Array.getElem?_setIfInBounds_self_of_lt hlt]
    simp [NRec.obj, hr]
  · rw [Array.getElem?_setIfInBounds_ne hk, if_neg hk]

theorem setCell_par {w : World} {b : Nat} {r : NRec} (h : World.nodeAt w b r) (x : Option Nat) : w.setCell ⟨b, 0, none⟩ (lk x) = World.putN w b { r with par := x } := setCell_node h _ _ _ rfl
theorem setCell_fst {w : World} {b : Nat} {r : NRec} (h : World.nodeAt w b r) (x : Option Nat) : w.setCell ⟨b, 1, none⟩ (lk x) = World.putN w b { r with fst := x } := setCell_node h _ _ _ rfl
theorem setCell_lst {w : World} {b : Nat} {r : NRec} (h : World.nodeAt w b r) (x : Option Nat) : w.setCell ⟨b, 2, none⟩ (lk x) = World.putN w b { r with lst := x } := setCell_node h _ _ _ rfl
theorem setCell_prv {w : World} {b : Nat} {r : NRec} (h : World.nodeAt w b r) (x : Option Nat) : w.setCell ⟨b, 3, none⟩ (lk x) = World.putN w b { r with prv := x } := setCell_node h _ _ _ rfl
theorem setCell_nxt {w : World} {b : Nat} {r : NRec} (h : World.nodeAt w b r) (x : Option Nat) : w.setCell ⟨b, 4, none⟩ (lk x) = World.putN w b { r with nxt := x } := setCell_node h _ _ _ rfl
theorem setCell_attr {w : World} {b : Nat} {r : NRec} (h : World.nodeAt w b r) (v : Value) : w.setCell ⟨b, 9, none⟩ v = World.putN w b { r with attr := v } := setCell_node h _ _ _ rfl

/-- Two stores into one node, one behind the other. -/
theorem World.putN_putN (w : World) (b : Nat) (r r' : NRec) : World.putN (World.putN w b r) b r' = World.putN w b r' := by
  unfold World.putN
  congr 1
  apply Array.ext_getElem?
  intro k
  by_cases hk : b = k
  · subst hk
    by_cases hlt : b < w.heap.size
    · simp [hlt]
    · simp [hlt]
  · simp [Array.getElem?_setIfInBounds_ne hk]

/-- Below a number, what lies is kept by a store into a node from there on. -/
theorem below_putN {B : Nat} {a w : World} (h : Below B a w) {b : Nat} (hb : B ≤ b) (r : NRec) : Below B a (World.putN w b r) :=
  h.trans ⟨rfl, rfl, rfl, by simp, fun k hk => World.heap_putN_other r (by omega)⟩

theorem nodeAt_alloc_new (w : World) (r : NRec) : World.nodeAt (w.alloc r.obj) w.heap.size r := by
  unfold World.nodeAt World.alloc
  simp

theorem World.nodeAt.alloc {w : World} {b : Nat} {r : NRec} (h : World.nodeAt w b r) (o : Obj) : World.nodeAt (w.alloc o) b r := by
  have := h.lt
  unfold World.nodeAt
  rw [Below.heap_alloc w o b this]
  exact h

end Go.Proofs.YtphppdbhofeagaaDoor
