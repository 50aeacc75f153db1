/- Trees as data: the nodes of a []impl.Node among the arguments. -/
import Derived.Test.YtphppdbhofeagaaDoorBase
namespace Go.Proofs.YtphppdbhofeagaaDoor
open Go.RowKit
set_option linter.unusedVariables false
set_option linter.unusedSimpArgs false

/-- A node as data: what its five cells hold, and its attributes. -/
structure NodeD where
  kind : Int
  tag : ByteArray
  text : ByteArray
  aa : Option Addr
  al : Nat
  ac : Nat
  attrs : List (ByteArray × ByteArray)
  size : Int

instance : Inhabited NodeD := ⟨⟨0, ByteArray.empty, ByteArray.empty, none, 0, 0, [], 0⟩⟩

/-- The attributes behind a slice's address: two cells each. -/
def AttrsAt (w : World) (a : Option Addr) (len : Nat) (l : List (ByteArray × ByteArray)) : Prop :=
  l.length = len ∧ len ≤ maxLen ∧ (∀ x ∈ l, x.1.size ≤ maxLen ∧ x.2.size ≤ maxLen) ∧
  (0 < len → ∃ b off, a = some ⟨b, off, none⟩ ∧ ∀ i, i < len → w.cell? ⟨b, off + i * 2, none⟩ = some (.string (l.getD i default).1) ∧ w.cell? ⟨b, off + i * 2 + 1, none⟩ = some (.string (l.getD i default).2))

theorem AttrsAt.below {w w' : World} {a : Option Addr} {len : Nat} {l : List (ByteArray × ByteArray)} (h : AttrsAt w a len l) (hb : Below w.heap.size w w') : AttrsAt w' a len l := by
  obtain ⟨h1, h2, h3, h4⟩ := h
  refine ⟨h1, h2, h3, fun hl => ?_⟩
  obtain ⟨b, off, rfl, hc⟩ := h4 hl
  refine ⟨b, off, rfl, fun i hi => ?_⟩
  obtain ⟨c1, c2⟩ := hc i hi
  exact ⟨(hb.cell (p := ⟨b, _, none⟩) (World.block_lt_of_cell? _ _ c1)).trans c1, (hb.cell (p := ⟨b, _, none⟩) (World.block_lt_of_cell? _ _ c2)).trans c2⟩

/-- The cells of a node as data, at a place of memory. -/
structure NodeCells (w : World) (b o : Nat) (n : NodeD) : Prop where
  kind : w.cell? ⟨b, o, none⟩ = some (.int .i64 n.kind)
  tag : w.cell? ⟨b, o + 1, none⟩ = some (.string n.tag)
  text : w.cell? ⟨b, o + 2, none⟩ = some (.string n.text)
  attrs : w.cell? ⟨b, o + 3, none⟩ = some (.slice n.aa n.al n.ac)
  size : w.cell? ⟨b, o + 4, none⟩ = some (.int .i64 n.size)
  at_ : AttrsAt w n.aa n.al n.attrs
  wk : -9223372036854775808 ≤ n.kind ∧ n.kind ≤ 9223372036854775807
  ws : -9223372036854775808 ≤ n.size ∧ n.size ≤ 9223372036854775807
  wt : n.tag.size ≤ maxLen ∧ n.text.size ≤ maxLen

theorem cell_below {w w' : World} (hb : Below w.heap.size w w') {p : Addr} {v : Value} (h : w.cell? p = some v) : w'.cell? p = some v :=
  (hb.cell (p := p) (World.block_lt_of_cell? _ _ h)).trans h

theorem NodeCells.below {w w' : World} {b o : Nat} {n : NodeD} (h : NodeCells w b o n) (hb : Below w.heap.size w w') : NodeCells w' b o n :=
  ⟨cell_below hb h.kind, cell_below hb h.tag, cell_below hb h.text, cell_below hb h.attrs, cell_below hb h.size, h.at_.below hb, h.wk, h.ws, h.wt⟩

/-- The nodes behind a slice's address. -/
def Nodes (w : World) (a : Option Addr) (len : Nat) (ts : List NodeD) : Prop :=
  ts.length = len ∧ len ≤ maxLen ∧ (0 < len → ∃ b off, a = some ⟨b, off, none⟩ ∧ ∀ i, i < len → NodeCells w b (off + i * 5) (ts.getD i default))

theorem Nodes.below {w w' : World} {a : Option Addr} {len : Nat} {ts : List NodeD} (h : Nodes w a len ts) (hb : Below w.heap.size w w') : Nodes w' a len ts := by
  obtain ⟨h1, h2, h3⟩ := h
  refine ⟨h1, h2, fun hl => ?_⟩
  obtain ⟨b, off, rfl, hc⟩ := h3 hl
  exact ⟨b, off, rfl, fun i hi => (hc i hi).below hb⟩

/-- In a later world, whatever has been laid since. -/
theorem Nodes.later {w w' : World} {B : Nat} {a : Option Addr} {len : Nat} {ts : List NodeD} (h : Nodes w a len ts) (hb : Below B w w') (hB : w.heap.size ≤ B) : Nodes w' a len ts := h.below (hb.mono hB)

theorem Nodes.len {w : World} {a : Option Addr} {len : Nat} {ts : List NodeD} (h : Nodes w a len ts) : ts.length = len ∧ len ≤ 9223372036854775807 := ⟨h.1, h.2.1⟩

theorem Nodes.at {w : World} {a : Option Addr} {len : Nat} {ts : List NodeD} (h : Nodes w a len ts) (hl : 0 < len) :
    ∃ b off, a = some ⟨b, off, none⟩ ∧ ∀ i, i < len → NodeCells w b (off + i * 5) (ts.getD i default) := h.2.2 hl

/-- The size of a node, as a number. -/
def sz (ts : List NodeD) (i : Nat) : Nat := (ts.getD i default).size.toNat
/-- The kind of a node. -/
def kd (ts : List NodeD) (i : Nat) : Int := (ts.getD i default).kind

end Go.Proofs.YtphppdbhofeagaaDoor
