/- Nodes of a document in memory: a block of ten cells a node; what a store into one of them does; AppendChild. impl.alone: a node without kids. impl.alone, of every kind. AppendChild: the first kid; a later one. -/
import Derived.Test.YtkdomegcacgpnaaGreatBaseAll
import Derived.Test.YtkdomegcacgpnaaGreatRightAll
import Derived.Deep.AppendLies
import Derived.Deep.RegionLaw
namespace Go.Proofs.YtkdomegcacgpnaaGreat
open Go.RowKit
set_option linter.unusedVariables false
set_option linter.unusedSimpArgs false

/-- A node as it lies in memory: its five links (numbers of blocks), its type, its atom, its texts, its attributes (a slice's value). -/
structure NRec where
  par : Option Nat
  fst : Option Nat
  lst : Option Nat
  prv : Option Nat
  nxt : Option Nat
  ty : Int
  atom : Int
  data : ByteArray
  ns : ByteArray
  attr : Value

/-- A link: nil, or the head of a block. -/
def lk : Option Nat → Value
  | none => .pointer none
  | some b => .pointer (some ⟨b, 0, none⟩)

@[simp] theorem lk_none : lk none = .pointer none := rfl
@[simp] theorem lk_some (b : Nat) : lk (some b) = .pointer (some ⟨b, 0, none⟩) := rfl

theorem lk_pointer (x : Option Nat) : ∃ u, lk x = .pointer u ∧ (∀ b, x = some b → u = some ⟨b, 0, none⟩) ∧ (x = none → u = none) := by
  cases x with
  | none => exact ⟨none, rfl, by simp, fun _ => rfl⟩
  | some b => exact ⟨_, rfl, by simp, by simp⟩

def NRec.cells (r : NRec) : Array Value :=
  #[lk r.par, lk r.fst, lk r.lst, lk r.prv, lk r.nxt, .int .u32 r.ty, .int .u32 r.atom, .string r.data, .string r.ns, r.attr]

/-- The block of a node. -/
def NRec.obj (r : NRec) : Obj := .cells r.cells 117 (0, 0)

/-- A node lies at a block. -/
def World.nodeAt (w : World) (b : Nat) (r : NRec) : Prop := w.heap[b]? = some r.obj

/-- The world in which a node is another one. -/
def World.putN (w : World) (b : Nat) (r : NRec) : World := { w with heap := w.heap.setIfInBounds b r.obj }

theorem World.nodeAt.lt {w : World} {b : Nat} {r : NRec} (h : World.nodeAt w b r) : b < w.heap.size := by
  rcases Nat.lt_or_ge b w.heap.size with h' | h'
  · exact h'
  · unfold World.nodeAt at h
    rw [Array.getElem?_eq_none h'] at h
    simp at h

@[simp] theorem World.size_putN (w : World) (b : Nat) (r : NRec) : (World.putN w b r).heap.size = w.heap.size := by simp [World.putN]

theorem World.heap_putN_same {w : World} {b : Nat} (r : NRec) (h : b < w.heap.size) : (World.putN w b r).heap[b]? = some r.obj := by
  simp [World.putN, h]

theorem World.heap_putN_other {w : World} {b k : Nat} (r : NRec) (h : k ≠ b) : (World.putN w b r).heap[k]? = w.heap[k]? := by
  simp only [World.putN]
  rw [Array.getElem?_setIfInBounds_ne (by omega)]

theorem World.nodeAt.put {w : World} {b : Nat} {r : NRec} (h : World.nodeAt w b r) (r' : NRec) : World.nodeAt (World.putN w b r') b r' :=
  World.heap_putN_same r' h.lt

theorem World.nodeAt.other {w : World} {b k : Nat} {r : NRec} (h : World.nodeAt w k r) (r' : NRec) (hk : k ≠ b) : World.nodeAt (World.putN w b r') k r := by
  unfold World.nodeAt
  rw [World.heap_putN_other r' hk]
  exact h

theorem World.nodeAt.unique {w : World} {b : Nat} {r r' : NRec} (h : World.nodeAt w b r) (h' : World.nodeAt w b r') : r.obj = r'.obj := by
  unfold World.nodeAt at h h'
  rw [h] at h'
  simpa using h'

/-- What the cells of a node hold. -/
theorem World.nodeAt.cell {w : World} {b : Nat} {r : NRec} (h : World.nodeAt w b r) :
    w.cell? ⟨b, 0, none⟩ = some (lk r.par) ∧ w.cell? ⟨b, 1, none⟩ = some (lk r.fst) ∧ w.cell? ⟨b, 2, none⟩ = some (lk r.lst) ∧
    w.cell? ⟨b, 3, none⟩ = some (lk r.prv) ∧ w.cell? ⟨b, 4, none⟩ = some (lk r.nxt) ∧ w.cell? ⟨b, 5, none⟩ = some (.int .u32 r.ty) ∧
    w.cell? ⟨b, 6, none⟩ = some (.int .u32 r.atom) ∧ w.cell? ⟨b, 7, none⟩ = some (.string r.data) ∧ w.cell? ⟨b, 8, none⟩ = some (.string r.ns) ∧
    w.cell? ⟨b, 9, none⟩ = some r.attr := by
  unfold World.nodeAt at h
  simp [World.cell?, h, NRec.obj, NRec.cells]

theorem World.nodeAt.par {w : World} {b : Nat} {r : NRec} (h : World.nodeAt w b r) : w.cell? ⟨b, 0, none⟩ = some (lk r.par) := h.cell.1
theorem World.nodeAt.fst {w : World} {b : Nat} {r : NRec} (h : World.nodeAt w b r) : w.cell? ⟨b, 1, none⟩ = some (lk r.fst) := h.cell.2.1
theorem World.nodeAt.lst {w : World} {b : Nat} {r : NRec} (h : World.nodeAt w b r) : w.cell? ⟨b, 2, none⟩ = some (lk r.lst) := h.cell.2.2.1
theorem World.nodeAt.prv {w : World} {b : Nat} {r : NRec} (h : World.nodeAt w b r) : w.cell? ⟨b, 3, none⟩ = some (lk r.prv) := h.cell.2.2.2.1
theorem World.nodeAt.nxt {w : World} {b : Nat} {r : NRec} (h : World.nodeAt w b r) : w.cell? ⟨b, 4, none⟩ = some (lk r.nxt) := h.cell.2.2.2.2.1
theorem World.nodeAt.ty {w : World} {b : Nat} {r : NRec} (h : World.nodeAt w b r) : w.cell? ⟨b, 5, none⟩ = some (.int .u32 r.ty) := h.cell.2.2.2.2.2.1
theorem World.nodeAt.atom {w : World} {b : Nat} {r : NRec} (h : World.nodeAt w b r) : w.cell? ⟨b, 6, none⟩ = some (.int .u32 r.atom) := h.cell.2.2.2.2.2.2.1
theorem World.nodeAt.data {w : World} {b : Nat} {r : NRec} (h : World.nodeAt w b r) : w.cell? ⟨b, 7, none⟩ = some (.string r.data) := h.cell.2.2.2.2.2.2.2.1
theorem World.nodeAt.nsc {w : World} {b : Nat} {r : NRec} (h : World.nodeAt w b r) : w.cell? ⟨b, 8, none⟩ = some (.string r.ns) := h.cell.2.2.2.2.2.2.2.2.1
theorem World.nodeAt.attr {w : World} {b : Nat} {r : NRec} (h : World.nodeAt w b r) : w.cell? ⟨b, 9, none⟩ = some r.attr := h.cell.2.2.2.2.2.2.2.2.2

theorem World.nodeAt.free {w : World} {b : Nat} {r : NRec} (h : World.nodeAt w b r) (o : Nat) : w.frozen? ⟨b, o, none⟩ = false := by
  unfold World.nodeAt at h
  simp [World.frozen?, h, NRec.obj]

/-- A store into a cell of a node. -/
theorem setCell_node {w : World} {b : Nat} {r : NRec} (h : World.nodeAt w b r) (i : Nat) (v : Value) (r' : NRec) (hr : r.cells.setIfInBounds i v = r'.cells) :
    w.setCell ⟨b, i, none⟩ v = World.putN w b r' := by
  have hlt := h.lt
  unfold World.nodeAt at h
  unfold World.setCell World.putN
  congr 1
  apply Array.ext_getElem?
  intro k
  simp only [Array.getElem?_modify]
  by_cases hk : b = k
  · subst hk
    rw [if_pos rfl, h, Array.getElem?_setIfInBounds_self_of_lt hlt]
    simp [NRec.obj, hr]
  · rw [Array.getElem?_setIfInBounds_ne hk, if_neg hk]

theorem setCell_par {w : World} {b : Nat} {r : NRec} (h : World.nodeAt w b r) (x : Option Nat) : w.setCell ⟨b, 0, none⟩ (lk x) = World.putN w b { r with par := x } := setCell_node h _ _ _ rfl
theorem setCell_fst {w : World} {b : Nat} {r : NRec} (h : World.nodeAt w b r) (x : Option Nat) : w.setCell ⟨b, 1, none⟩ (lk x) = World.putN w b { r with fst := x } := setCell_node h _ _ _ rfl
theorem setCell_lst {w : World} {b : Nat} {r : NRec} (h : World.nodeAt w b r) (x : Option Nat) : w.setCell ⟨b, 2, none⟩ (lk x) = World.putN w b { r with lst := x } := setCell_node h _ _ _ rfl
theorem setCell_prv {w : World} {b : Nat} {r : NRec} (h : World.nodeAt w b r) (x : Option Nat) : w.setCell ⟨b, 3, none⟩ (lk x) = World.putN w b { r with prv := x } := setCell_node h _ _ _ rfl
theorem setCell_nxt {w : World} {b : Nat} {r : NRec} (h : World.nodeAt w b r) (x : Option Nat) : w.setCell ⟨b, 4, none⟩ (lk x) = World.putN w b { r with nxt := x } := setCell_node h _ _ _ rfl
theorem setCell_attr {w : World} {b : Nat} {r : NRec} (h : World.nodeAt w b r) (v : Value) : w.setCell ⟨b, 9, none⟩ v = World.putN w b { r with attr := v } := setCell_node h _ _ _ rfl

/-- Two stores into one node, one behind the other. -/
theorem World.putN_putN (w : World) (b : Nat) (r r' : NRec) : World.putN (World.putN w b r) b r' = World.putN w b r' := by
  unfold World.putN
  congr 1
  apply Array.ext_getElem?
  intro k
  by_cases hk : b = k
  · subst hk
    by_cases hlt : b < w.heap.size
    · simp [hlt]
    · simp [hlt]
  · simp [Array.getElem?_setIfInBounds_ne hk]

/-- Below a number, what lies is kept by a store into a node from there on. -/
theorem below_putN {B : Nat} {a w : World} (h : Below B a w) {b : Nat} (hb : B ≤ b) (r : NRec) : Below B a (World.putN w b r) :=
  h.trans ⟨rfl, rfl, rfl, by simp, fun k hk => World.heap_putN_other r (by omega)⟩

theorem nodeAt_alloc_new (w : World) (r : NRec) : World.nodeAt (w.alloc r.obj) w.heap.size r := by
  unfold World.nodeAt World.alloc
  simp

theorem World.nodeAt.alloc {w : World} {b : Nat} {r : NRec} (h : World.nodeAt w b r) (o : Obj) : World.nodeAt (w.alloc o) b r := by
  have := h.lt
  unfold World.nodeAt
  rw [Below.heap_alloc w o b this]
  exact h

end Go.Proofs.YtkdomegcacgpnaaGreat

namespace Go.Proofs.YtkdomegcacgpnaaGreat
open Go.RowKit
set_option linter.unusedVariables false
set_option linter.unusedSimpArgs false

theorem Tryz.infoAttr : (Tryz.prog.info? 119).map (fun i => (i.zero, i.size, i.bytes)) = some (some (.agg #[.string ByteArray.empty, .string ByteArray.empty, .string ByteArray.empty]), 3, 48) := by kernel_rfl

/-- The cells of attributes in a document: no namespace, a key, a value. -/
def attrCells (l : List (ByteArray × ByteArray)) : List Value := l.flatMap fun x => [.string ByteArray.empty, .string x.1, .string x.2]

theorem attrCells_snoc (l : List (ByteArray × ByteArray)) (x : ByteArray × ByteArray) : attrCells (l ++ [x]) = attrCells l ++ [.string ByteArray.empty, .string x.1, .string x.2] := by simp [attrCells]

/-- The type of a node of a kind, its data. -/
def tyOf (k : Int) : Int := if k = 1 then 2 else if k = 2 then 5 else if k = 4 then 1 else if k = 5 then 4 else 3
def dataOf (n : NodeD) : ByteArray := if n.kind = 1 then ByteArray.empty else if n.kind = 3 then n.tag else n.text

/-- A node without kids. -/
def aloneR (n : NodeD) (v : Value) : NRec :=
  { par := none, fst := none, lst := none, prv := none, nxt := none, ty := tyOf n.kind, atom := 0, data := dataOf n, ns := ByteArray.empty, attr := v }

def AlonePost (n : NodeD) (w : World) (e : Ending) (w' : World) : Prop :=
  ∃ (g : Nat) (v : Value), e = .returned (.pointer (some ⟨g, 0, none⟩)) ∧ World.nodeAt w' g (aloneR n v) ∧ w'.ownsRow (g + 1) 119 3 v n.attrs.length (attrCells n.attrs) ∧ w.heap.size ≤ g ∧ Below w.heap.size w w'

theorem take_succ_getD {α : Type} (l : List α) (d : α) {k : Nat} (h : k < l.length) : l.take (k + 1) = l.take k ++ [l.getD k d] := by
  rw [List.take_succ_eq_append_getElem h, List.getD_eq_getElem?_getD, List.getElem?_eq_getElem h]; rfl

theorem alone_step {W wr w1 : World} {n : NodeD} {v : Value} {k g cap : Nat} {key val : ByteArray} {O1 O2 : Obj} (hbel : Below W.heap.size W wr) (hnode : World.nodeAt wr (W.heap.size + 1) (aloneR n v))
    (hown : wr.ownsRow (W.heap.size + 2) 119 3 v k (attrCells (n.attrs.take k))) (hgrow : (((wr.alloc O1).alloc O2).drew).grownBy w1 v.ownBlock)
    (hown1 : w1.ownsRow (W.heap.size + 2) 119 3 (.slice (some ⟨g, 0, none⟩) (k + 1) cap) (k + 1) (attrCells (n.attrs.take k) ++ [.string ByteArray.empty, .string key, .string val]))
    (hkv : (n.attrs.getD k default).1 = key ∧ (n.attrs.getD k default).2 = val) (hk : k < n.attrs.length) :
    World.nodeAt (w1.setCell ⟨W.heap.size + 1, 9, none⟩ (.slice (some ⟨g, 0, none⟩) (k + 1) cap)) (W.heap.size + 1) (aloneR n (.slice (some ⟨g, 0, none⟩) (k + 1) cap)) ∧
    (w1.setCell ⟨W.heap.size + 1, 9, none⟩ (.slice (some ⟨g, 0, none⟩) (k + 1) cap)).ownsRow (W.heap.size + 2) 119 3 (.slice (some ⟨g, 0, none⟩) (k + 1) cap) (k + 1) (attrCells (n.attrs.take (k + 1))) ∧
    Below W.heap.size W (w1.setCell ⟨W.heap.size + 1, 9, none⟩ (.slice (some ⟨g, 0, none⟩) (k + 1) cap)) := by
  have hlt := hnode.lt
  have hne : some (W.heap.size + 1) ≠ v.ownBlock := fun e => by have := (World.ownsRow.lt hown _ e.symm).1; omega
  have hn1 : World.nodeAt w1 (W.heap.size + 1) (aloneR n v) := by
    have h2 : World.nodeAt (((wr.alloc O1).alloc O2).drew) (W.heap.size + 1) (aloneR n v) := ((hnode.alloc O1).alloc O2 : World.nodeAt ((wr.alloc O1).alloc O2) _ _)
    unfold World.nodeAt at *
    rw [hgrow.block (W.heap.size + 1) (by simp; omega) hne]
    exact h2
  have hs := setCell_attr hn1 (.slice (some ⟨g, 0, none⟩) (k + 1) cap)
  refine ⟨?_, ?_, ?_⟩
  · rw [hs]; exact hn1.put _
  · refine ownsRow_setCell_below ?_ (by simp) _
    rw [take_succ_getD _ default hk, attrCells_snoc, hkv.1, hkv.2]
    exact hown1
  · refine Below.setCell ?_ (by simp) _
    exact (((hbel.alloc hbel.size O1).alloc (by have := hbel.size; simp; omega) O2).drew).grown hgrow (by have := hbel.size; simp; omega) (fun q hq => by have := (World.ownsRow.lt hown q hq).1; omega)

set_option maxRecDepth 100000 in
set_option maxHeartbeats 4000000 in
theorem alone_elem (tag text : ByteArray) (aa : Option Addr) (al ac : Nat) (l : List (ByteArray × ByteArray)) (z : Int) (w : World) (h : AttrsAt w aa al l) (hal : al ≤ 20) :
    Calls Tryz.prog 117 #[.agg #[.int .i64 3, .string tag, .string text, .slice aa al ac, .int .i64 z]] w (AlonePost ⟨3, tag, text, aa, al, ac, l, z⟩ w) := by
  have HA := Lib.hid h
  clear h
  obtain ⟨i0, hi, hz0, hz1, hz2⟩ := info_parts Tryz.infoAttr
  go_enter Tryz.func117, Tryz.ntmps117
  go_wp2
  go_loopw [37] (fun i wr => ∃ (k : Nat) (v : Value), k ≤ al ∧ i = .int .i64 k ∧ World.nodeAt wr (w.heap.size + 1) (aloneR ⟨3, tag, text, aa, al, ac, l, z⟩ v) ∧ wr.ownsRow (w.heap.size + 2) 119 3 v k (attrCells (l.take k)) ∧ Below w.heap.size w wr) (fun i _ => al - (intOf i).toNat)
  case atStart =>
    refine ⟨0, .slice none 0 0, Nat.zero_le _, rfl, ?_, World.ownsRow_nil _ _ _ _, ((Below.refl _ _).alloc (Nat.le_refl _) _).alloc (by simp) _⟩
    have := nodeAt_alloc_new (w.alloc (Obj.cells #[Value.int .i64 3, .string tag, .string text, .slice aa al ac, .int .i64 z] 38)) (aloneR ⟨3, tag, text, aa, al, ac, l, z⟩ (.slice none 0 0))
    rw [World.size_alloc] at this
    exact this
  case round =>
    obtain ⟨k, v, hk, rfl, hnode, hown, hbel⟩ := hrel
    have HB := Lib.hid hbel
    have HN := Lib.hid hnode
    have HO := Lib.hid hown
    have HA1 := Lib.hid (HA.out.below hbel)
    have hsz : w.heap.size + 1 < wr.heap.size := hnode.lt
    have c9 := hnode.attr
    have f9 := hnode.free 9
    clear hbel hnode hown
    by_cases hlt : k < al
    · obtain ⟨q1, q2, q3, q4⟩ := HA1.out
      obtain ⟨b, off, rfl, hc⟩ := q4 (by omega)
      have ck := (hc k hlt).1
      have cv := (hc k hlt).2
      obtain ⟨key, hkey⟩ : ∃ y, (l.getD k default).1 = y := ⟨_, rfl⟩
      obtain ⟨val, hval⟩ : ∃ y, (l.getD k default).2 = y := ⟨_, rfl⟩
      rw [hkey] at ck
      rw [hval] at cv
      have HKV := Lib.hid (And.intro hkey hval)
      clear q1 q2 q3 q4 hc hkey hval
      have hne : some (w.heap.size + 1) ≠ v.ownBlock := fun e => by have := (World.ownsRow.lt HO.out _ e.symm).1; omega
      have hownW : (((wr.alloc (.cells #[.string key, .string val] 61)).alloc (.cells #[.string ByteArray.empty, .string key, .string val] 119)).drew).ownsRow (w.heap.size + 2) 119 3 v k (attrCells (l.take k)) := (World.ownsRow.alloc (World.ownsRow.alloc HO.out _) _).drew
      have hnews : ∀ j u, [Value.string ByteArray.empty, .string key, .string val][j]? = some u → (((wr.alloc (.cells #[.string key, .string val] 61)).alloc (.cells #[.string ByteArray.empty, .string key, .string val] 119)).drew).cell? ((⟨wr.heap.size + 1, 0, none⟩ : Addr).add j) = some u :=
        World.news_of_block (cs := #[.string ByteArray.empty, .string key, .string val]) (t := 119) (fr := (0, 0)) (by have := heap_alloc_new (wr.alloc (.cells #[.string key, .string val] 61)) (.cells #[.string ByteArray.empty, .string key, .string val] 119); rw [World.size_alloc] at this; exact this)
      have HW := Lib.hid hownW
      have HNEWS := Lib.hid hnews
      have HNE := Lib.hid hne
      have c9' : wr.cell? ⟨w.heap.size + 1, 9, none⟩ = some v := c9
      have hsz2 : w.heap.size < wr.heap.size := by omega
      have c9a : (wr.alloc (.cells #[.string key, .string val] 61)).cell? ⟨w.heap.size + 1, 9, none⟩ = some v := (World.cell?_alloc_lt wr _ ⟨w.heap.size + 1, 9, none⟩ hsz).trans c9'
      have c9b : ((wr.alloc (.cells #[.string key, .string val] 61)).alloc (.cells #[.string ByteArray.empty, .string key, .string val] 119)).cell? ⟨w.heap.size + 1, 9, none⟩ = some v := (World.cell?_alloc_lt (wr.alloc (.cells #[.string key, .string val] 61)) _ ⟨w.heap.size + 1, 9, none⟩ (by rw [World.size_alloc]; exact Nat.lt_succ_of_lt hsz)).trans c9a
      have f9a : (wr.alloc (.cells #[.string key, .string val] 61)).frozen? ⟨w.heap.size + 1, 9, none⟩ = false := (World.frozen?_alloc_old wr _ ⟨w.heap.size + 1, 9, none⟩ (Nat.ne_of_lt hsz)).trans f9
      have f9b : ((wr.alloc (.cells #[.string key, .string val] 61)).alloc (.cells #[.string ByteArray.empty, .string key, .string val] 119)).frozen? ⟨w.heap.size + 1, 9, none⟩ = false := (World.frozen?_alloc_old (wr.alloc (.cells #[.string key, .string val] 61)) _ ⟨w.heap.size + 1, 9, none⟩ (by rw [World.size_alloc]; exact Nat.ne_of_lt (Nat.lt_succ_of_lt hsz))).trans f9a
      clear hne hownW hnews c9
      go_wp2
      go_region_law (first | (refine step_append_lies _ rfl (.tmp 45) (.tmp 51) 112 rfl (w.heap.size + 2) 119 i0 (.agg #[.string ByteArray.empty, .string ByteArray.empty, .string ByteArray.empty]) 3 48 Tryz.underlying112 hi hz0 hz1 hz2 rfl (by decide) v k (attrCells (l.take k)) (by simp [Act.eval, Act.put]) HW.out ⟨wr.heap.size + 1, 0, none⟩ 1 1 [.string ByteArray.empty, .string key, .string val] (by simp [Act.eval, Act.put]) rfl HNEWS.out (by simp [Value.oneCell']) (by omega) (by unfold maxLen; omega) (by omega) (by simp; omega) _ rfl ?_; intro g cap w1 hown1 hgrow hat hlt1; have hc9 : w1.cell? ⟨w.heap.size + 1, 9, none⟩ = some v := (hgrow.cell_far ⟨w.heap.size + 1, 9, none⟩ (by simp; omega) HNE.out).trans c9b; have hf9 : w1.frozen? ⟨w.heap.size + 1, 9, none⟩ = false := (hgrow.frozen_far ⟨w.heap.size + 1, 9, none⟩ (by simp; omega) HNE.out).trans f9b))
      all_goals
        have hst := alone_step (n := ⟨3, tag, text, some ⟨b, off, none⟩, al, ac, l, z⟩) HB.out HN.out HO.out hgrow hown1 HKV.out (by have := HA.out.1; simp; omega)
        have HST := Lib.hid hst
        clear hst hown1 hgrow hat hlt1 c9' c9a c9b f9 f9a f9b
        go_wp2
        go_roundw
        case rel => exact ⟨k + 1, _, by omega, by go_num, HST.out.1, HST.out.2.1, HST.out.2.2⟩
        case measure => simp [intOf]; omega
    · obtain rfl : k = al := by omega
      go_wp2
      go_ret
      refine ⟨w.heap.size + 1, v, rfl, HN.out, ?_, by omega, HB.out⟩
      have := HO.out
      rw [List.take_of_length_le (by have := HA.out.1; omega)] at this
      rw [show l.length = k from HA.out.1]
      exact this

end Go.Proofs.YtkdomegcacgpnaaGreat

namespace Go.Proofs.YtkdomegcacgpnaaGreat
open Go.RowKit
set_option linter.unusedVariables false
set_option linter.unusedSimpArgs false

set_option maxRecDepth 100000 in
theorem alone_1 (tag text : ByteArray) (aa : Option Addr) (al ac : Nat) (z : Int) (w : World) :
    Calls Tryz.prog 117 #[.agg #[.int .i64 1, .string tag, .string text, .slice aa al ac, .int .i64 z]] w (AlonePost ⟨1, tag, text, aa, al, ac, [], z⟩ w) := by
  have fin : World.nodeAt ((w.alloc (.cells #[.int .i64 1, .string tag, .string text, .slice aa al ac, .int .i64 z] 38)).alloc (aloneR ⟨1, tag, text, aa, al, ac, [], z⟩ (.slice none 0 0)).obj) (w.heap.size + 1) (aloneR ⟨1, tag, text, aa, al, ac, [], z⟩ (.slice none 0 0)) := by
    have := nodeAt_alloc_new (w.alloc (Obj.cells #[Value.int .i64 1, .string tag, .string text, .slice aa al ac, .int .i64 z] 38)) (aloneR ⟨1, tag, text, aa, al, ac, [], z⟩ (.slice none 0 0))
    rw [World.size_alloc] at this
    exact this
  have FIN := Lib.hid fin
  clear fin
  go_enter Tryz.func117, Tryz.ntmps117
  go_wp2
  go_ret
  exact ⟨w.heap.size + 1, .slice none 0 0, rfl, FIN.out, World.ownsRow_nil _ _ _ _, by omega, ((Below.refl _ _).alloc (Nat.le_refl _) _).alloc (by simp) _⟩

set_option maxRecDepth 100000 in
theorem alone_2 (tag text : ByteArray) (aa : Option Addr) (al ac : Nat) (z : Int) (w : World) :
    Calls Tryz.prog 117 #[.agg #[.int .i64 2, .string tag, .string text, .slice aa al ac, .int .i64 z]] w (AlonePost ⟨2, tag, text, aa, al, ac, [], z⟩ w) := by
  have fin : World.nodeAt ((w.alloc (.cells #[.int .i64 2, .string tag, .string text, .slice aa al ac, .int .i64 z] 38)).alloc (aloneR ⟨2, tag, text, aa, al, ac, [], z⟩ (.slice none 0 0)).obj) (w.heap.size + 1) (aloneR ⟨2, tag, text, aa, al, ac, [], z⟩ (.slice none 0 0)) := by
    have := nodeAt_alloc_new (w.alloc (Obj.cells #[Value.int .i64 2, .string tag, .string text, .slice aa al ac, .int .i64 z] 38)) (aloneR ⟨2, tag, text, aa, al, ac, [], z⟩ (.slice none 0 0))
    rw [World.size_alloc] at this
    exact this
  have FIN := Lib.hid fin
  clear fin
  go_enter Tryz.func117, Tryz.ntmps117
  go_wp2
  go_ret
  exact ⟨w.heap.size + 1, .slice none 0 0, rfl, FIN.out, World.ownsRow_nil _ _ _ _, by omega, ((Below.refl _ _).alloc (Nat.le_refl _) _).alloc (by simp) _⟩

set_option maxRecDepth 100000 in
theorem alone_4 (tag text : ByteArray) (aa : Option Addr) (al ac : Nat) (z : Int) (w : World) :
    Calls Tryz.prog 117 #[.agg #[.int .i64 4, .string tag, .string text, .slice aa al ac, .int .i64 z]] w (AlonePost ⟨4, tag, text, aa, al, ac, [], z⟩ w) := by
  have fin : World.nodeAt ((w.alloc (.cells #[.int .i64 4, .string tag, .string text, .slice aa al ac, .int .i64 z] 38)).alloc (aloneR ⟨4, tag, text, aa, al, ac, [], z⟩ (.slice none 0 0)).obj) (w.heap.size + 1) (aloneR ⟨4, tag, text, aa, al, ac, [], z⟩ (.slice none 0 0)) := by
    have := nodeAt_alloc_new (w.alloc (Obj.cells #[Value.int .i64 4, .string tag, .string text, .slice aa al ac, .int .i64 z] 38)) (aloneR ⟨4, tag, text, aa, al, ac, [], z⟩ (.slice none 0 0))
    rw [World.size_alloc] at this
    exact this
  have FIN := Lib.hid fin
  clear fin
  go_enter Tryz.func117, Tryz.ntmps117
  go_wp2
  go_ret
  exact ⟨w.heap.size + 1, .slice none 0 0, rfl, FIN.out, World.ownsRow_nil _ _ _ _, by omega, ((Below.refl _ _).alloc (Nat.le_refl _) _).alloc (by simp) _⟩

set_option maxRecDepth 100000 in
theorem alone_5 (tag text : ByteArray) (aa : Option Addr) (al ac : Nat) (z : Int) (w : World) :
    Calls Tryz.prog 117 #[.agg #[.int .i64 5, .string tag, .string text, .slice aa al ac, .int .i64 z]] w (AlonePost ⟨5, tag, text, aa, al, ac, [], z⟩ w) := by
  have fin : World.nodeAt ((w.alloc (.cells #[.int .i64 5, .string tag, .string text, .slice aa al ac, .int .i64 z] 38)).alloc (aloneR ⟨5, tag, text, aa, al, ac, [], z⟩ (.slice none 0 0)).obj) (w.heap.size + 1) (aloneR ⟨5, tag, text, aa, al, ac, [], z⟩ (.slice none 0 0)) := by
    have := nodeAt_alloc_new (w.alloc (Obj.cells #[Value.int .i64 5, .string tag, .string text, .slice aa al ac, .int .i64 z] 38)) (aloneR ⟨5, tag, text, aa, al, ac, [], z⟩ (.slice none 0 0))
    rw [World.size_alloc] at this
    exact this
  have FIN := Lib.hid fin
  clear fin
  go_enter Tryz.func117, Tryz.ntmps117
  go_wp2
  go_ret
  exact ⟨w.heap.size + 1, .slice none 0 0, rfl, FIN.out, World.ownsRow_nil _ _ _ _, by omega, ((Below.refl _ _).alloc (Nat.le_refl _) _).alloc (by simp) _⟩

theorem alone_any (n : NodeD) (z at_ : Nat) (w : World) (hok : NodeOk n z at_) (h : AttrsAt w n.aa n.al n.attrs) :
    Calls Tryz.prog 117 #[.agg #[.int .i64 n.kind, .string n.tag, .string n.text, .slice n.aa n.al n.ac, .int .i64 n.size]] w (AlonePost n w) := by
  obtain ⟨k, tag, text, aa, al, ac, l, size⟩ := n
  obtain ⟨hk, hb, ha⟩ := hok
  simp only at hk hb ha h ⊢
  rcases hk with ⟨rfl, _⟩ | ⟨rfl, _⟩ | rfl | ⟨rfl, _⟩ | ⟨rfl, _⟩
  · obtain rfl : l = [] := (hb (by decide)).2
    exact alone_1 tag text aa al ac size w
  · obtain rfl : l = [] := (hb (by decide)).2
    exact alone_2 tag text aa al ac size w
  · exact alone_elem tag text aa al ac l size w h (by have := (ha rfl).1; have := h.1; omega)
  · obtain rfl : l = [] := (hb (by decide)).2
    exact alone_4 tag text aa al ac size w
  · obtain rfl : l = [] := (hb (by decide)).2
    exact alone_5 tag text aa al ac size w

end Go.Proofs.YtkdomegcacgpnaaGreat

namespace Go.Proofs.YtkdomegcacgpnaaGreat
open Go.RowKit
set_option linter.unusedVariables false
set_option linter.unusedSimpArgs false

set_option maxHeartbeats 400000 in
theorem appendChild_first (n c : Nat) (rn rc : NRec) (w : World) (hn : World.nodeAt w n rn) (hc : World.nodeAt w c rc) (hne : n ≠ c)
    (hl : rn.lst = none) (h0 : rc.par = none) (h3 : rc.prv = none) (h4 : rc.nxt = none) :
    Calls Tryz.prog 82 #[.pointer (some ⟨n, 0, none⟩), .pointer (some ⟨c, 0, none⟩)] w fun e w' => e = .returned (.tuple #[]) ∧
      World.putN (World.putN w n { rn with fst := some c, lst := some c }) c { rc with par := some n } = w' := by
  have c0 := hc.par
  have c3 := hc.prv
  have c4 := hc.nxt
  have c2 := hn.lst
  have c1 := hn.fst
  rw [h0] at c0
  rw [h3] at c3
  rw [h4] at c4
  rw [hl] at c2
  obtain ⟨v, hv⟩ : ∃ v, w.cell? ⟨n, 1, none⟩ = some v := ⟨_, c1⟩
  have fc := hc.free
  have fn := hn.free
  have fin : (((w.setCell ⟨n, 1, none⟩ (.pointer (some ⟨c, 0, none⟩))).setCell ⟨n, 2, none⟩ (.pointer (some ⟨c, 0, none⟩))).setCell ⟨c, 0, none⟩ (.pointer (some ⟨n, 0, none⟩))).setCell ⟨c, 3, none⟩ (.pointer none) =
      World.putN (World.putN w n { rn with fst := some c, lst := some c }) c { rc with par := some n } := by
    rw [← lk_some c, ← lk_some n, ← lk_none, setCell_fst hn, setCell_lst (hn.put _), World.putN_putN,
      setCell_par (hc.other _ (Ne.symm hne)), setCell_prv ((hc.other _ (Ne.symm hne)).put _), World.putN_putN, ← h3]
  have FIN := Lib.hid fin
  clear c1 fin hn hc h0 h3 h4 hl hne
  simp only [lk_none] at c0 c2 c3 c4
  go_enter Tryz.func82, Tryz.ntmps82
  go_wp2
  go_end0
  exact ⟨rfl, FIN.out.symm⟩

set_option maxHeartbeats 400000 in
theorem appendChild_later (n c l : Nat) (rn rc rl : NRec) (w : World) (hn : World.nodeAt w n rn) (hc : World.nodeAt w c rc) (hlr : World.nodeAt w l rl) (hne : n ≠ c) (hln : l ≠ n) (hlc : l ≠ c)
    (hl : rn.lst = some l) (h0 : rc.par = none) (h3 : rc.prv = none) (h4 : rc.nxt = none) :
    Calls Tryz.prog 82 #[.pointer (some ⟨n, 0, none⟩), .pointer (some ⟨c, 0, none⟩)] w fun e w' => e = .returned (.tuple #[]) ∧
      World.putN (World.putN (World.putN w l { rl with nxt := some c }) n { rn with lst := some c }) c { rc with par := some n, prv := some l } = w' := by
  have c0 := hc.par
  have c3 := hc.prv
  have c4 := hc.nxt
  have c2 := hn.lst
  have d4 := hlr.nxt
  rw [h0] at c0
  rw [h3] at c3
  rw [h4] at c4
  rw [hl] at c2
  obtain ⟨v, hv⟩ : ∃ v, w.cell? ⟨l, 4, none⟩ = some v := ⟨_, d4⟩
  have fc := hc.free
  have fn := hn.free
  have fl := hlr.free
  have fin : (((w.setCell ⟨l, 4, none⟩ (.pointer (some ⟨c, 0, none⟩))).setCell ⟨n, 2, none⟩ (.pointer (some ⟨c, 0, none⟩))).setCell ⟨c, 0, none⟩ (.pointer (some ⟨n, 0, none⟩))).setCell ⟨c, 3, none⟩ (.pointer (some ⟨l, 0, none⟩)) =
      World.putN (World.putN (World.putN w l { rl with nxt := some c }) n { rn with lst := some c }) c { rc with par := some n, prv := some l } := by
    rw [← lk_some c, ← lk_some n, ← lk_some l, setCell_nxt hlr, setCell_lst (hn.other _ (Ne.symm hln)),
      setCell_par ((hc.other _ (Ne.symm hlc)).other _ (Ne.symm hne)), setCell_prv (((hc.other _ (Ne.symm hlc)).other _ (Ne.symm hne)).put _), World.putN_putN]
  have FIN := Lib.hid fin
  have hcl : (⟨c, 4, none⟩ : Addr) ≠ ⟨l, 4, none⟩ := by simp [Ne.symm hlc]
  clear d4 fin hn hc hlr h0 h3 h4 hl
  simp only [lk_none, lk_some] at c0 c2 c3 c4
  go_enter Tryz.func82, Tryz.ntmps82
  go_wp2
  go_end0
  exact ⟨rfl, FIN.out.symm⟩

end Go.Proofs.YtkdomegcacgpnaaGreat

