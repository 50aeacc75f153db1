/- An element with attributes: impl.element, getAttributePtr, SetAttr. -/
import Derived.Test.YtoleejaabiafcaaAttrPure
import Derived.Test.YtoleejaabiafcaaRowSet
import Derived.Test.YtoleejaabiafcaaAloneAll
import Derived.Test.YtoleejaabiafcaaAttrOpen
import Derived.Test.YtoleejaabiafcaaSegAll
namespace Go.Proofs.Ytoleejaabiafcaa
open Go.RowKit
set_option linter.unusedVariables false
set_option linter.unusedSimpArgs false

theorem attrCells_set : ∀ (l : KVs) (k : Nat) (y : ByteArray), k < l.length → (attrCells l).set (k * 3 + 2) (.string y) = attrCells (l.set k ((l.getD k default).1, y)) := by
  intro l
  induction l with
  | nil => intro k y h; simp at h
  | cons x l ih =>
    intro k y h
    have hc : ∀ z (r : KVs), attrCells (z :: r) = [.string ByteArray.empty, .string z.1, .string z.2] ++ attrCells r := fun z r => by simp [attrCells]
    cases k with
    | zero => simp [hc]
    | succ k =>
      have h' : k < l.length := by simpa using h
      rw [hc, List.set_cons_succ, hc]
      rw [show (k + 1) * 3 + 2 = (k * 3 + 2) + 3 by omega]
      simp only [List.cons_append, List.nil_append, List.set_cons_succ, ih k y h', List.getD_cons_succ]

theorem nodeAt_below {w w' : World} {b : Nat} {r : NRec} (h : World.nodeAt w b r) (hb : Below w.heap.size w w') : World.nodeAt w' b r := by
  have hl := h.lt
  unfold World.nodeAt at h ⊢
  rw [hb.block b hl]
  exact h

/-- The element. -/
def elemR (v : Value) : NRec := { par := none, fst := none, lst := none, prv := none, nxt := none, ty := 3, atom := 0, data := ⟨#[97]⟩, ns := ByteArray.empty, attr := v }

theorem attr_step {B N : Nat} {W X w1 : World} {r : NRec} {v : Value} {k g cap : Nat} {cells news : List Value} (hBN : B ≤ N) (hbel : Below B W X) (hnode : World.nodeAt X N r)
    (hown : X.ownsRow (N + 1) 123 3 v k cells) (hgrow : X.grownBy w1 v.ownBlock)
    (hown1 : w1.ownsRow (N + 1) 123 3 (.slice (some ⟨g, 0, none⟩) (k + 1) cap) (k + 1) (cells ++ news)) :
    World.nodeAt (w1.setCell ⟨N, 9, none⟩ (.slice (some ⟨g, 0, none⟩) (k + 1) cap)) N { r with attr := .slice (some ⟨g, 0, none⟩) (k + 1) cap } ∧
    (w1.setCell ⟨N, 9, none⟩ (.slice (some ⟨g, 0, none⟩) (k + 1) cap)).ownsRow (N + 1) 123 3 (.slice (some ⟨g, 0, none⟩) (k + 1) cap) (k + 1) (cells ++ news) ∧
    Below B W (w1.setCell ⟨N, 9, none⟩ (.slice (some ⟨g, 0, none⟩) (k + 1) cap)) := by
  have hlt := hnode.lt
  have hne : some N ≠ v.ownBlock := fun e => by have := (World.ownsRow.lt hown _ e.symm).1; omega
  have hn1 : World.nodeAt w1 N r := by
    unfold World.nodeAt at *
    rw [hgrow.block N hlt hne]
    exact hnode
  have hs := setCell_attr hn1 (.slice (some ⟨g, 0, none⟩) (k + 1) cap)
  refine ⟨?_, ?_, ?_⟩
  · rw [hs]; exact hn1.put _
  · exact ownsRow_setCell_below hown1 (by simp) _
  · refine Below.setCell ?_ (by simpa using hBN) _
    exact hbel.grown hgrow (by omega) (fun q hq => by have := (World.ownsRow.lt hown q hq).1; omega)

def ElemPost (l : KVs) (w : World) (e : Ending) (w' : World) : Prop :=
  ∃ s q g v, e = .returned (.tuple #[.pointer (some ⟨s, 0, none⟩), .pointer (some ⟨g, 0, none⟩)]) ∧ w'.cell? ⟨s, 0, none⟩ = some (.slice (some ⟨q, 0, none⟩) 1 1) ∧ w'.cell? ⟨q, 0, none⟩ = some (.pointer (some ⟨g, 0, none⟩)) ∧
    World.nodeAt w' g (elemR v) ∧ w'.ownsRow (g + 1) 123 3 v l.length (attrCells l) ∧ w.heap.size ≤ g ∧ Hid (Below w.heap.size w w')

set_option maxRecDepth 100000 in
set_option maxHeartbeats 4000000 in
theorem element_any (aa : Option Addr) (al ac : Nat) (l : KVs) (w : World) (h : AttrsAt w aa al l) (hal : al ≤ 100) :
    Calls Try.prog 65 #[.slice aa al ac] w (ElemPost l w) := by
  have HA := Lib.hid h
  clear h
  obtain ⟨i0, hi, hz0, hz1, hz2⟩ := info_parts Try.infoAttr
  go_enter Try.func65, Try.ntmps65
  go_wp2
  go_loopw [11] (fun i wr => ∃ (k : Nat) (v : Value), k ≤ al ∧ i = .int .i64 k ∧ World.nodeAt wr w.heap.size (elemR v) ∧ wr.ownsRow (w.heap.size + 1) 123 3 v k (attrCells (l.take k)) ∧ Below w.heap.size w wr) (fun i _ => al - (intOf i).toNat)
  case atStart => exact ⟨0, .slice none 0 0, Nat.zero_le _, rfl, nodeAt_alloc_new w (elemR (.slice none 0 0)), World.ownsRow_nil _ _ _ _, (Below.refl _ _).alloc (Nat.le_refl _) _⟩
  case round =>
    obtain ⟨k, v, hk, rfl, hnode, hown, hbel⟩ := hrel
    have HB := Lib.hid hbel
    have HN := Lib.hid hnode
    have HO := Lib.hid hown
    have HA1 := Lib.hid (HA.out.below hbel)
    have hsz : w.heap.size < wr.heap.size := hnode.lt
    have c9 := hnode.attr
    have f9 := hnode.free 9
    clear hbel hnode hown
    by_cases hlt : k < al
    · obtain ⟨q1, q2, q3, q4⟩ := HA1.out
      obtain ⟨b, off, rfl, hc⟩ := q4 (by omega)
      have ck := (hc k hlt).1
      have cv := (hc k hlt).2
      obtain ⟨key, hkey⟩ : ∃ y, (l.getD k default).1 = y := ⟨_, rfl⟩
      obtain ⟨val, hval⟩ : ∃ y, (l.getD k default).2 = y := ⟨_, rfl⟩
      rw [hkey] at ck
      rw [hval] at cv
      have HKV := Lib.hid (And.intro hkey hval)
      clear q1 q2 q3 q4 hc hkey hval
      have hne : some w.heap.size ≠ v.ownBlock := fun e => by have := (World.ownsRow.lt HO.out _ e.symm).1; omega
      have hownW : (((wr.alloc (.cells #[.string key, .string val] 86)).alloc (.cells #[.string ByteArray.empty, .string key, .string val] 123)).drew).ownsRow (w.heap.size + 1) 123 3 v k (attrCells (l.take k)) := (World.ownsRow.alloc (World.ownsRow.alloc HO.out _) _).drew
      have hnews : ∀ j u, [Value.string ByteArray.empty, .string key, .string val][j]? = some u → (((wr.alloc (.cells #[.string key, .string val] 86)).alloc (.cells #[.string ByteArray.empty, .string key, .string val] 123)).drew).cell? ((⟨wr.heap.size + 1, 0, none⟩ : Addr).add j) = some u :=
        World.news_of_block (cs := #[.string ByteArray.empty, .string key, .string val]) (t := 123) (fr := (0, 0)) (by have := heap_alloc_new (wr.alloc (.cells #[.string key, .string val] 86)) (.cells #[.string ByteArray.empty, .string key, .string val] 123); rw [World.size_alloc] at this; exact this)
      have HW := Lib.hid hownW
      have HNEWS := Lib.hid hnews
      have HNE := Lib.hid hne
      have c9' : wr.cell? ⟨w.heap.size, 9, none⟩ = some v := c9
      have c9a : (wr.alloc (.cells #[.string key, .string val] 86)).cell? ⟨w.heap.size, 9, none⟩ = some v := (World.cell?_alloc_lt wr _ ⟨w.heap.size, 9, none⟩ hsz).trans c9'
      have c9b : ((wr.alloc (.cells #[.string key, .string val] 86)).alloc (.cells #[.string ByteArray.empty, .string key, .string val] 123)).cell? ⟨w.heap.size, 9, none⟩ = some v := (World.cell?_alloc_lt (wr.alloc (.cells #[.string key, .string val] 86)) _ ⟨w.heap.size, 9, none⟩ (by rw [World.size_alloc]; exact Nat.lt_succ_of_lt hsz)).trans c9a
      have f9a : (wr.alloc (.cells #[.string key, .string val] 86)).frozen? ⟨w.heap.size, 9, none⟩ = false := (World.frozen?_alloc_old wr _ ⟨w.heap.size, 9, none⟩ (Nat.ne_of_lt hsz)).trans f9
      have f9b : ((wr.alloc (.cells #[.string key, .string val] 86)).alloc (.cells #[.string ByteArray.empty, .string key, .string val] 123)).frozen? ⟨w.heap.size, 9, none⟩ = false := (World.frozen?_alloc_old (wr.alloc (.cells #[.string key, .string val] 86)) _ ⟨w.heap.size, 9, none⟩ (by rw [World.size_alloc]; exact Nat.ne_of_lt (Nat.lt_succ_of_lt hsz))).trans f9a
      clear hne hownW hnews c9
      go_wp2
      go_region_law (first | (refine step_append_lies _ rfl (.tmp 19) (.tmp 25) 111 rfl (w.heap.size + 1) 123 i0 (.agg #[.string ByteArray.empty, .string ByteArray.empty, .string ByteArray.empty]) 3 48 Try.underlying111 hi hz0 hz1 hz2 rfl (by decide) v k (attrCells (l.take k)) (by simp [Act.eval, Act.put]) HW.out ⟨wr.heap.size + 1, 0, none⟩ 1 1 [.string ByteArray.empty, .string key, .string val] (by simp [Act.eval, Act.put]) rfl HNEWS.out (by simp [Value.oneCell']) (by omega) (by unfold maxLen; omega) (by omega) (by simp; omega) _ rfl ?_; intro g cap w1 hown1 hgrow hat hlt1; have hc9 : w1.cell? ⟨w.heap.size, 9, none⟩ = some v := (hgrow.cell_far ⟨w.heap.size, 9, none⟩ (by simp; omega) HNE.out).trans c9b; have hf9 : w1.frozen? ⟨w.heap.size, 9, none⟩ = false := (hgrow.frozen_far ⟨w.heap.size, 9, none⟩ (by simp; omega) HNE.out).trans f9b))
      all_goals
        have hst := attr_step (r := elemR v) (Nat.le_refl _) (((HB.out.alloc HB.out.size _).alloc (by have := HB.out.size; simp; omega) _).drew) ((HN.out.alloc _).alloc _) HW.out hgrow hown1
        have e1 : attrCells (l.take k) ++ [.string ByteArray.empty, .string key, .string val] = attrCells (l.take (k + 1)) := by rw [take_succ_getD _ default (by have := HA.out.1; omega), attrCells_snoc, HKV.out.1, HKV.out.2]
        rw [e1] at hst
        have HST := Lib.hid hst
        clear hst hown1 hgrow hat hlt1 c9' c9a c9b f9 f9a f9b
        go_wp2
        go_roundw
        case rel => exact ⟨k + 1, _, by omega, by go_num, HST.out.1, HST.out.2.1, HST.out.2.2⟩
        case measure => simp [intOf]; omega
    · obtain rfl : k = al := by omega
      have hfin : wr.ownsRow (w.heap.size + 1) 123 3 v l.length (attrCells l) := by
        have h1 := HO.out
        rw [List.take_of_length_le (by have := HA.out.1; omega)] at h1
        rw [show l.length = k from HA.out.1]
        exact h1
      have hb2 : ∀ o1 o2, Below w.heap.size w ((wr.alloc o1).alloc o2) := fun o1 o2 => (HB.out.alloc HB.out.size _).alloc (by have := HB.out.size; simp; omega) _
      have HF := Lib.hid hfin
      have HB2 := Lib.hid hb2
      clear hfin hb2 c9 f9 hlt
      go_wp2
      go_ret2
      refine ⟨wr.heap.size + 1, wr.heap.size, w.heap.size, v, rfl, ?_, ?_, ?_, ?_, Nat.le_refl _, Lib.hid (HB2.out _ _)⟩
      · exact cell_alloc_new' _ _ _ (by simp) rfl
      · exact cell_alloc_old (cell_alloc_new' _ _ _ rfl rfl) _
      · exact (HN.out.alloc _).alloc _
      · exact World.ownsRow.alloc (World.ownsRow.alloc HF.out _) _

/-- Where an attribute of a key lies. -/
def GapPost (g : Nat) (l : KVs) (key : ByteArray) (w : World) (e : Ending) (w' : World) : Prop :=
  ((e = .returned (.pointer none) ∧ NoneBefore l key l.length) ∨ ∃ k, k < l.length ∧ e = .returned (.pointer (some ⟨g, k * 3, none⟩)) ∧ NoneBefore l key k ∧ ((l.getD k default).1.toList == key.toList) = true) ∧ Hid (Below w.heap.size w w')

set_option maxRecDepth 100000 in
set_option maxHeartbeats 2000000 in
theorem getPtr_any (n g cap : Nat) (a : Option Addr) (r : NRec) (l : KVs) (key : ByteArray) (w : World) (hn : World.nodeAt w n r) (hv : r.attr = .slice a l.length cap) (hm : l.length ≤ 9223372036854775807) (ha : 0 < l.length → a = some ⟨g, 0, none⟩)
    (hc : ∀ i, i < l.length → w.cell? ⟨g, i * 3, none⟩ = some (.string ByteArray.empty) ∧ w.cell? ⟨g, i * 3 + 1, none⟩ = some (.string (l.getD i default).1) ∧ w.cell? ⟨g, i * 3 + 2, none⟩ = some (.string (l.getD i default).2)) :
    Calls Try.prog 126 #[.string key, .pointer (some ⟨n, 0, none⟩)] w (GapPost g l key w) := by
  have k9 := hn.attr
  rw [hv] at k9
  have HA := Lib.hid ha
  have HC := Lib.hid hc
  clear hn hv ha hc
  go_enter Try.func126, Try.ntmps126
  go_wp2
  go_loopw [14] (fun i wr => ∃ k : Nat, k ≤ l.length ∧ i = .int .i64 (k : Int) ∧ NoneBefore l key k ∧ Below w.heap.size w wr) (fun i _ => l.length - (intOf i).toNat)
  case atStart => exact ⟨0, by omega, by go_num, fun j hj => by omega, Below.refl _ _⟩
  case round =>
    obtain ⟨k, hk, rfl, hno, hbel⟩ := hrel
    have HBEL := Lib.hid hbel
    have HNO := Lib.hid hno
    clear hbel hno
    by_cases hlt : k < l.length
    · obtain rfl := HA.out (by omega)
      obtain ⟨c0, c1, c2⟩ := HC.out k hlt
      have c0 := cell_below HBEL.out c0
      have c1 := cell_below HBEL.out c1
      have c2 := cell_below HBEL.out c2
      have c9 := cell_below HBEL.out k9
      obtain ⟨x, hxx⟩ : ∃ x, (l.getD k default).1 = x := ⟨_, rfl⟩
      obtain ⟨y, hyy⟩ : ∃ y, (l.getD k default).2 = y := ⟨_, rfl⟩
      rw [hxx] at c1
      rw [hyy] at c2
      have hbo : ∀ o, Below w.heap.size w (wr.alloc o) := fun o => HBEL.out.alloc HBEL.out.size o
      have HBO := Lib.hid hbo
      have HX := Lib.hid hxx
      have hkI : (k : Int) < (l.length : Int) := by omega
      clear hxx hyy hbo
      cases hke : (x.toList == key.toList)
      · have HKE := Lib.hid (HNO.out.succ HX.out hke)
        go_wp2
        go_roundw
        case rel => exact ⟨k + 1, by omega, by go_num, HKE.out, HBO.out _⟩
        case measure => simp [intOf]; omega
      · have hke2 : ((l.getD k default).1.toList == key.toList) = true := by rw [HX.out]; exact hke
        have HKE := Lib.hid hke2
        have c9a := cell_alloc_old c9 (.cells #[.string ByteArray.empty, .string x, .string y] 123)
        clear hke2
        go_wp2
        go_ret
        exact ⟨.inr ⟨k, hlt, by simp [Addr.add], HNO.out, HKE.out⟩, Lib.hid (HBO.out _)⟩
    · obtain rfl : k = l.length := by omega
      go_wp2
      go_ret
      exact ⟨.inl ⟨rfl, HNO.out⟩, HBEL⟩

end Go.Proofs.Ytoleejaabiafcaa
