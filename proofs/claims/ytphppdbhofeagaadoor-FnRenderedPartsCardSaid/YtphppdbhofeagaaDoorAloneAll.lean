/- impl.alone: a node without kids. impl.alone, of every kind. -/
import Derived.Test.YtphppdbhofeagaaDoorRightAll
import Derived.Test.YtphppdbhofeagaaDoorDom
import Derived.Deep.AppendLies
import Derived.Deep.RegionLaw
namespace Go.Proofs.YtphppdbhofeagaaDoor
open Go.RowKit
set_option linter.unusedVariables false
set_option linter.unusedSimpArgs false

theorem Tryd.infoAttr : (Tryd.prog.info? 109).map (fun i => (i.zero, i.size, i.bytes)) = some (some (.agg #[.string ByteArray.empty, .string ByteArray.empty, .string ByteArray.empty]), 3, 48) := by kernel_rfl

/-- The cells of attributes in a document: no namespace, a key, a value. -/
def attrCells (l : List (ByteArray × ByteArray)) : List Value := l.flatMap fun x => [.string ByteArray.empty, .string x.1, .string x.2]

theorem attrCells_snoc (l : List (ByteArray × ByteArray)) (x : ByteArray × ByteArray) : attrCells (l ++ [x]) = attrCells l ++ [.string ByteArray.empty, .string x.1, .string x.2] := by simp [attrCells]

/-- The type of a node of a kind, its data. -/
def tyOf (k : Int) : Int := if k = 1 then 2 else if k = 2 then 5 else if k = 4 then 1 else if k = 5 then 4 else 3
def dataOf (n : NodeD) : ByteArray := if n.kind = 1 then ByteArray.empty else if n.kind = 3 then n.tag else n.text

/-- A node without kids. -/
def aloneR (n : NodeD) (v : Value) : NRec :=
  { par := none, fst := none, lst := none, prv := none, nxt := none, ty := tyOf n.kind, atom := 0, data := dataOf n, ns := ByteArray.empty, attr := v }

def AlonePost (n : NodeD) (w : World) (e : Ending) (w' : World) : Prop :=
  ∃ (g : Nat) (v : Value), e = .returned (.pointer (some ⟨g, 0, none⟩)) ∧ World.nodeAt w' g (aloneR n v) ∧ w'.ownsRow (g + 1) 109 3 v n.attrs.length (attrCells n.attrs) ∧ w.heap.size ≤ g ∧ Below w.heap.size w w'

theorem take_succ_getD {α : Type} (l : List α) (d : α) {k : Nat} (h : k < l.length) : l.take (k + 1) = l.take k ++ [l.getD k d] := by
  rw [List.take_succ_eq_append_getElem h, List.getD_eq_getElem?_getD, List.getElem?_eq_getElem h]; rfl

theorem alone_step {W wr w1 : World} {n : NodeD} {v : Value} {k g cap : Nat} {key val : ByteArray} {O1 O2 : Obj} (hbel : Below W.heap.size W wr) (hnode : World.nodeAt wr (W.heap.size + 1) (aloneR n v))
    (hown : wr.ownsRow (W.heap.size + 2) 109 3 v k (attrCells (n.attrs.take k))) (hgrow : (((wr.alloc O1).alloc O2).drew).grownBy w1 v.ownBlock)
    (hown1 : w1.ownsRow (W.heap.size + 2) 109 3 (.slice (some ⟨g, 0, none⟩) (k + 1) cap) (k + 1) (attrCells (n.attrs.take k) ++ [.string ByteArray.empty, .string key, .string val]))
    (hkv : (n.attrs.getD k default).1 = key ∧ (n.attrs.getD k default).2 = val) (hk : k < n.attrs.length) :
    World.nodeAt (w1.setCell ⟨W.heap.size + 1, 9, none⟩ (.slice (some ⟨g, 0, none⟩) (k + 1) cap)) (W.heap.size + 1) (aloneR n (.slice (some ⟨g, 0, none⟩) (k + 1) cap)) ∧
    (w1.setCell ⟨W.heap.size + 1, 9, none⟩ (.slice (some ⟨g, 0, none⟩) (k + 1) cap)).ownsRow (W.heap.size + 2) 109 3 (.slice (some ⟨g, 0, none⟩) (k + 1) cap) (k + 1) (attrCells (n.attrs.take (k + 1))) ∧
    Below W.heap.size W (w1.setCell ⟨W.heap.size + 1, 9, none⟩ (.slice (some ⟨g, 0, none⟩) (k + 1) cap)) := by
  have hlt := hnode.lt
  have hne : some (W.heap.size + 1) ≠ v.ownBlock := fun e => by have := (World.ownsRow.lt hown _ e.symm).1; omega
  have hn1 : World.nodeAt w1 (W.heap.size + 1) (aloneR n v) := by
    have h2 : World.nodeAt (((wr.alloc O1).alloc O2).drew) (W.heap.size + 1) (aloneR n v) := ((hnode.alloc O1).alloc O2 : World.nodeAt ((wr.alloc O1).alloc O2) _ _)
    unfold World.nodeAt at *
    rw [hgrow.block (W.heap.size + 1) (by simp; omega) hne]
    exact h2
  have hs := setCell_attr hn1 (.slice (some ⟨g, 0, none⟩) (k + 1) cap)
  refine ⟨?_, ?_, ?_⟩
  · rw [hs]; exact hn1.put _
  · refine ownsRow_setCell_below ?_ (by simp) _
    rw [take_succ_getD _ default hk, attrCells_snoc, hkv.1, hkv.2]
    exact hown1
  · refine Below.setCell ?_ (by simp) _
    exact (((hbel.alloc hbel.size O1).alloc (by have := hbel.size; simp; omega) O2).drew).grown hgrow (by have := hbel.size; simp; omega) (fun q hq => by have := (World.ownsRow.lt hown q hq).1; omega)

set_option maxRecDepth 100000 in
set_option maxHeartbeats 4000000 in
theorem alone_elem (tag text : ByteArray) (aa : Option Addr) (al ac : Nat) (l : List (ByteArray × ByteArray)) (z : Int) (w : World) (h : AttrsAt w aa al l) (hal : al ≤ 20) :
    Calls Tryd.prog 49 #[.agg #[.int .i64 3, .string tag, .string text, .slice aa al ac, .int .i64 z]] w (AlonePost ⟨3, tag, text, aa, al, ac, l, z⟩ w) := by
  have HA := Lib.hid h
  clear h
  obtain ⟨i0, hi, hz0, hz1, hz2⟩ := info_parts Tryd.infoAttr
  go_enter Tryd.func49, Tryd.ntmps49
  go_wp2
  go_loopw [37] (fun i wr => ∃ (k : Nat) (v : Value), k ≤ al ∧ i = .int .i64 k ∧ World.nodeAt wr (w.heap.size + 1) (aloneR ⟨3, tag, text, aa, al, ac, l, z⟩ v) ∧ wr.ownsRow (w.heap.size + 2) 109 3 v k (attrCells (l.take k)) ∧ Below w.heap.size w wr) (fun i _ => al - (intOf i).toNat)
  case atStart =>
    refine ⟨0, .slice none 0 0, Nat.zero_le _, rfl, ?_, World.ownsRow_nil _ _ _ _, ((Below.refl _ _).alloc (Nat.le_refl _) _).alloc (by simp) _⟩
    have := nodeAt_alloc_new (w.alloc (Obj.cells #[Value.int .i64 3, .string tag, .string text, .slice aa al ac, .int .i64 z] 26)) (aloneR ⟨3, tag, text, aa, al, ac, l, z⟩ (.slice none 0 0))
    rw [World.size_alloc] at this
    exact this
  case round =>
    obtain ⟨k, v, hk, rfl, hnode, hown, hbel⟩ := hrel
    have HB := Lib.hid hbel
    have HN := Lib.hid hnode
    have HO := Lib.hid hown
    have HA1 := Lib.hid (HA.out.below hbel)
    have hsz : w.heap.size + 1 < wr.heap.size := hnode.lt
    have c9 := hnode.attr
    have f9 := hnode.free 9
    clear hbel hnode hown
    by_cases hlt : k < al
    · obtain ⟨q1, q2, q3, q4⟩ := HA1.out
      obtain ⟨b, off, rfl, hc⟩ := q4 (by omega)
      have ck := (hc k hlt).1
      have cv := (hc k hlt).2
      obtain ⟨key, hkey⟩ : ∃ y, (l.getD k default).1 = y := ⟨_, rfl⟩
      obtain ⟨val, hval⟩ : ∃ y, (l.getD k default).2 = y := ⟨_, rfl⟩
      rw [hkey] at ck
      rw [hval] at cv
      have HKV := Lib.hid (And.intro hkey hval)
      clear q1 q2 q3 q4 hc hkey hval
      have hne : some (w.heap.size + 1) ≠ v.ownBlock := fun e => by have := (World.ownsRow.lt HO.out _ e.symm).1; omega
      have hownW : (((wr.alloc (.cells #[.string key, .string val] 46)).alloc (.cells #[.string ByteArray.empty, .string key, .string val] 109)).drew).ownsRow (w.heap.size + 2) 109 3 v k (attrCells (l.take k)) := (World.ownsRow.alloc (World.ownsRow.alloc HO.out _) _).drew
      have hnews : ∀ j u, [Value.string ByteArray.empty, .string key, .string val][j]? = some u → (((wr.alloc (.cells #[.string key, .string val] 46)).alloc (.cells #[.string ByteArray.empty, .string key, .string val] 109)).drew).cell? ((⟨wr.heap.size + 1, 0, none⟩ : Addr).add j) = some u :=
        World.news_of_block (cs := #[.string ByteArray.empty, .string key, .string val]) (t := 109) (fr := (0, 0)) (by have := heap_alloc_new (wr.alloc (.cells #[.string key, .string val] 46)) (.cells #[.string ByteArray.empty, .string key, .string val] 109); rw [World.size_alloc] at this; exact this)
      have HW := Lib.hid hownW
      have HNEWS := Lib.hid hnews
      have HNE := Lib.hid hne
      have c9' : wr.cell? ⟨w.heap.size + 1, 9, none⟩ = some v := c9
      have hsz2 : w.heap.size < wr.heap.size := by omega
      have c9a : (wr.alloc (.cells #[.string key, .string val] 46)).cell? ⟨w.heap.size + 1, 9, none⟩ = some v := (World.cell?_alloc_lt wr _ ⟨w.heap.size + 1, 9, none⟩ hsz).trans c9'
      have c9b : ((wr.alloc (.cells #[.string key, .string val] 46)).alloc (.cells #[.string ByteArray.empty, .string key, .string val] 109)).cell? ⟨w.heap.size + 1, 9, none⟩ = some v := (World.cell?_alloc_lt (wr.alloc (.cells #[.string key, .string val] 46)) _ ⟨w.heap.size + 1, 9, none⟩ (by rw [World.size_alloc]; exact Nat.lt_succ_of_lt hsz)).trans c9a
      have f9a : (wr.alloc (.cells #[.string key, .string val] 46)).frozen? ⟨w.heap.size + 1, 9, none⟩ = false := (World.frozen?_alloc_old wr _ ⟨w.heap.size + 1, 9, none⟩ (Nat.ne_of_lt hsz)).trans f9
      have f9b : ((wr.alloc (.cells #[.string key, .string val] 46)).alloc (.cells #[.string ByteArray.empty, .string key, .string val] 109)).frozen? ⟨w.heap.size + 1, 9, none⟩ = false := (World.frozen?_alloc_old (wr.alloc (.cells #[.string key, .string val] 46)) _ ⟨w.heap.size + 1, 9, none⟩ (by rw [World.size_alloc]; exact Nat.ne_of_lt (Nat.lt_succ_of_lt hsz))).trans f9a
      clear hne hownW hnews c9
      go_wp2
      go_region_law (first | (refine step_append_lies _ rfl (.tmp 45) (.tmp 51) 66 rfl (w.heap.size + 2) 109 i0 (.agg #[.string ByteArray.empty, .string ByteArray.empty, .string ByteArray.empty]) 3 48 Tryd.underlying66 hi hz0 hz1 hz2 rfl (by decide) v k (attrCells (l.take k)) (by simp [Act.eval, Act.put]) HW.out ⟨wr.heap.size + 1, 0, none⟩ 1 1 [.string ByteArray.empty, .string key, .string val] (by simp [Act.eval, Act.put]) rfl HNEWS.out (by simp [Value.oneCell']) (by omega) (by unfold maxLen; omega) (by omega) (by simp; omega) _ rfl ?_; intro g cap w1 hown1 hgrow hat hlt1; have hc9 : w1.cell? ⟨w.heap.size + 1, 9, none⟩ = some v := (hgrow.cell_far ⟨w.heap.size + 1, 9, none⟩ (by simp; omega) HNE.out).trans c9b; have hf9 : w1.frozen? ⟨w.heap.size + 1, 9, none⟩ = false := (hgrow.frozen_far ⟨w.heap.size + 1, 9, none⟩ (by simp; omega) HNE.out).trans f9b))
      all_goals
        have hst := alone_step (n := ⟨3, tag, text, some ⟨b, off, none⟩, al, ac, l, z⟩) HB.out HN.out HO.out hgrow hown1 HKV.out (by have := HA.out.1; simp; omega)
        have HST := Lib.hid hst
        clear hst hown1 hgrow hat hlt1 c9' c9a c9b f9 f9a f9b
        go_wp2
        go_roundw
        case rel => exact ⟨k + 1, _, by omega, by go_num, HST.out.1, HST.out.2.1, HST.out.2.2⟩
        case measure => simp [intOf]; omega
    · obtain rfl : k = al := by omega
      go_wp2
      go_ret
      refine ⟨w.heap.size + 1, v, rfl, HN.out, ?_, by omega, HB.out⟩
      have := HO.out
      rw [List.take_of_length_le (by have := HA.out.1; omega)] at this
      rw [show l.length = k from HA.out.1]
      exact this

end Go.Proofs.YtphppdbhofeagaaDoor

namespace Go.Proofs.YtphppdbhofeagaaDoor
open Go.RowKit
set_option linter.unusedVariables false
set_option linter.unusedSimpArgs false

set_option maxRecDepth 100000 in
theorem alone_1 (tag text : ByteArray) (aa : Option Addr) (al ac : Nat) (z : Int) (w : World) :
    Calls Tryd.prog 49 #[.agg #[.int .i64 1, .string tag, .string text, .slice aa al ac, .int .i64 z]] w (AlonePost ⟨1, tag, text, aa, al, ac, [], z⟩ w) := by
  have fin : World.nodeAt ((w.alloc (.cells #[.int .i64 1, .string tag, .string text, .slice aa al ac, .int .i64 z] 26)).alloc (aloneR ⟨1, tag, text, aa, al, ac, [], z⟩ (.slice none 0 0)).obj) (w.heap.size + 1) (aloneR ⟨1, tag, text, aa, al, ac, [], z⟩ (.slice none 0 0)) := by
    have := nodeAt_alloc_new (w.alloc (Obj.cells #[Value.int .i64 1, .string tag, .string text, .slice aa al ac, .int .i64 z] 26)) (aloneR ⟨1, tag, text, aa, al, ac, [], z⟩ (.slice none 0 0))
    rw [World.size_alloc] at this
    exact this
  have FIN := Lib.hid fin
  clear fin
  go_enter Tryd.func49, Tryd.ntmps49
  go_wp2
  go_ret
  exact ⟨w.heap.size + 1, .slice none 0 0, rfl, FIN.out, World.ownsRow_nil _ _ _ _, by omega, ((Below.refl _ _).alloc (Nat.le_refl _) _).alloc (by simp) _⟩

set_option maxRecDepth 100000 in
theorem alone_2 (tag text : ByteArray) (aa : Option Addr) (al ac : Nat) (z : Int) (w : World) :
    Calls Tryd.prog 49 #[.agg #[.int .i64 2, .string tag, .string text, .slice aa al ac, .int .i64 z]] w (AlonePost ⟨2, tag, text, aa, al, ac, [], z⟩ w) := by
  have fin : World.nodeAt ((w.alloc (.cells #[.int .i64 2, .string tag, .string text, .slice aa al ac, .int .i64 z] 26)).alloc (aloneR ⟨2, tag, text, aa, al, ac, [], z⟩ (.slice none 0 0)).obj) (w.heap.size + 1) (aloneR ⟨2, tag, text, aa, al, ac, [], z⟩ (.slice none 0 0)) := by
    have := nodeAt_alloc_new (w.alloc (Obj.cells #[Value.int .i64 2, .string tag, .string text, .slice aa al ac, .int .i64 z] 26)) (aloneR ⟨2, tag, text, aa, al, ac, [], z⟩ (.slice none 0 0))
    rw [World.size_alloc] at this
    exact this
  have FIN := Lib.hid fin
  clear fin
  go_enter Tryd.func49, Tryd.ntmps49
  go_wp2
  go_ret
  exact ⟨w.heap.size + 1, .slice none 0 0, rfl, FIN.out, World.ownsRow_nil _ _ _ _, by omega, ((Below.refl _ _).alloc (Nat.le_refl _) _).alloc (by simp) _⟩

set_option maxRecDepth 100000 in
theorem alone_4 (tag text : ByteArray) (aa : Option Addr) (al ac : Nat) (z : Int) (w : World) :
    Calls Tryd.prog 49 #[.agg #[.int .i64 4, .string tag, .string text, .slice aa al ac, .int .i64 z]] w (AlonePost ⟨4, tag, text, aa, al, ac, [], z⟩ w) := by
  have fin : World.nodeAt ((w.alloc (.cells #[.int .i64 4, .string tag, .string text, .slice aa al ac, .int .i64 z] 26)).alloc (aloneR ⟨4, tag, text, aa, al, ac, [], z⟩ (.slice none 0 0)).obj) (w.heap.size + 1) (aloneR ⟨4, tag, text, aa, al, ac, [], z⟩ (.slice none 0 0)) := by
    have := nodeAt_alloc_new (w.alloc (Obj.cells #[Value.int .i64 4, .string tag, .string text, .slice aa al ac, .int .i64 z] 26)) (aloneR ⟨4, tag, text, aa, al, ac, [], z⟩ (.slice none 0 0))
    rw [World.size_alloc] at this
    exact this
  have FIN := Lib.hid fin
  clear fin
  go_enter Tryd.func49, Tryd.ntmps49
  go_wp2
  go_ret
  exact ⟨w.heap.size + 1, .slice none 0 0, rfl, FIN.out, World.ownsRow_nil _ _ _ _, by omega, ((Below.refl _ _).alloc (Nat.le_refl _) _).alloc (by simp) _⟩

set_option maxRecDepth 100000 in
theorem alone_5 (tag text : ByteArray) (aa : Option Addr) (al ac : Nat) (z : Int) (w : World) :
    Calls Tryd.prog 49 #[.agg #[.int .i64 5, .string tag, .string text, .slice aa al ac, .int .i64 z]] w (AlonePost ⟨5, tag, text, aa, al, ac, [], z⟩ w) := by
  have fin : World.nodeAt ((w.alloc (.cells #[.int .i64 5, .string tag, .string text, .slice aa al ac, .int .i64 z] 26)).alloc (aloneR ⟨5, tag, text, aa, al, ac, [], z⟩ (.slice none 0 0)).obj) (w.heap.size + 1) (aloneR ⟨5, tag, text, aa, al, ac, [], z⟩ (.slice none 0 0)) := by
    have := nodeAt_alloc_new (w.alloc (Obj.cells #[Value.int .i64 5, .string tag, .string text, .slice aa al ac, .int .i64 z] 26)) (aloneR ⟨5, tag, text, aa, al, ac, [], z⟩ (.slice none 0 0))
    rw [World.size_alloc] at this
    exact this
  have FIN := Lib.hid fin
  clear fin
  go_enter Tryd.func49, Tryd.ntmps49
  go_wp2
  go_ret
  exact ⟨w.heap.size + 1, .slice none 0 0, rfl, FIN.out, World.ownsRow_nil _ _ _ _, by omega, ((Below.refl _ _).alloc (Nat.le_refl _) _).alloc (by simp) _⟩

theorem alone_any (n : NodeD) (z at_ : Nat) (w : World) (hok : NodeOk n z at_) (h : AttrsAt w n.aa n.al n.attrs) :
    Calls Tryd.prog 49 #[.agg #[.int .i64 n.kind, .string n.tag, .string n.text, .slice n.aa n.al n.ac, .int .i64 n.size]] w (AlonePost n w) := by
  obtain ⟨k, tag, text, aa, al, ac, l, size⟩ := n
  obtain ⟨hk, hb, ha⟩ := hok
  simp only at hk hb ha h ⊢
  rcases hk with ⟨rfl, _⟩ | ⟨rfl, _⟩ | rfl | ⟨rfl, _⟩ | ⟨rfl, _⟩
  · obtain rfl : l = [] := (hb (by decide)).2
    exact alone_1 tag text aa al ac size w
  · obtain rfl : l = [] := (hb (by decide)).2
    exact alone_2 tag text aa al ac size w
  · exact alone_elem tag text aa al ac l size w h (by have := (ha rfl).1; have := h.1; omega)
  · obtain rfl : l = [] := (hb (by decide)).2
    exact alone_4 tag text aa al ac size w
  · obtain rfl : l = [] := (hb (by decide)).2
    exact alone_5 tag text aa al ac size w

end Go.Proofs.YtphppdbhofeagaaDoor

