/- An element with attributes: impl.element, getAttributePtr, SetAttr. -/
import Derived.Test.YtikimffifkiinaaAttrPure
import Derived.Test.YtikimffifkiinaaAlone
import Derived.Test.YtikimffifkiinaaAttrOpen
import Derived.Test.YtikimffifkiinaaSeg
namespace Go.Proofs.Ytikimffifkiinaa
open Go.RowKit
set_option linter.unusedVariables false
set_option linter.unusedSimpArgs false

/-- A row that is stored into. -/
theorem ownsRow_set {w : World} {B : Nat} {e : TypeId} {size g n cap : Nat} {xs : List Value} (h : w.ownsRow B e size (.slice (some ⟨g, 0, none⟩) n cap) n xs) {i : Nat} (hi : i < n * size) (u : Value) :
    (w.setCell ⟨g, i, none⟩ u).ownsRow B e size (.slice (some ⟨g, 0, none⟩) n cap) n (xs.set i u) := by
  rcases h.2 with ⟨h1, _⟩ | ⟨g', cap', cur, hv, hb, hg, hn, hm, hcs, ht⟩
  · simp at h1
  · simp at hv
    obtain ⟨rfl, rfl⟩ := hv
    refine ⟨by rw [List.length_set]; exact h.1, .inr ⟨g, cap, cur.setIfInBounds i u, rfl, hb, heap_setCell_same w g i cur e u hg, hn, hm, by simpa using hcs, ?_⟩⟩
    rw [← ht, Array.toList_setIfInBounds]
    apply List.ext_getElem?
    intro j
    simp only [List.getElem?_take, List.getElem?_set, List.length_take]
    have hl : n * size ≤ cur.toList.length := by
      have := h.1
      rw [← ht, List.length_take] at this
      omega
    by_cases hj : j < n * size
    · simp only [hj, if_true]
      by_cases hji : i = j
      · subst hji
        simp only [if_true]
        rw [if_pos (by omega), if_pos (by omega)]
      · simp only [hji, if_false]
    · simp only [hj, if_false]
      by_cases hji : i = j
      · omega
      · simp only [hji, if_false]

theorem attrCells_set : ∀ (l : KVs) (k : Nat) (y : ByteArray), k < l.length → (attrCells l).set (k * 3 + 2) (.string y) = attrCells (l.set k ((l.getD k default).1, y)) := by
  intro l
  induction l with
  | nil => intro k y h; simp at h
  | cons x l ih =>
    intro k y h
    have hc : ∀ z (r : KVs), attrCells (z :: r) = [.string ByteArray.empty, .string z.1, .string z.2] ++ attrCells r := fun z r => by simp [attrCells]
    cases k with
    | zero => simp [hc]
    | succ k =>
      have h' : k < l.length := by simpa using h
      rw [hc, List.set_cons_succ, hc]
      rw [show (k + 1) * 3 + 2 = (k * 3 + 2) + 3 by omega]
      simp only [List.cons_append, List.nil_append, List.set_cons_succ, ih k y h', List.getD_cons_succ]

theorem nodeAt_below {w w' : World} {b : Nat} {r : NRec} (h : World.nodeAt w b r) (hb : Below w.heap.size w w') : World.nodeAt w' b r := by
  have hl := h.lt
  unfold World.nodeAt at h ⊢
  rw [hb.block b hl]
  exact h

/-- The element. -/
def elemR (v : Value) : NRec := { par := none, fst := none, lst := none, prv := none, nxt := none, ty := 3, atom := 0, data := ⟨#[97]⟩, ns := ByteArray.empty, attr := v }

theorem attr_step {B N : Nat} {W X w1 : World} {r : NRec} {v : Value} {k g cap : Nat} {cells news : List Value} (hBN : B ≤ N) (hbel : Below B W X) (hnode : World.nodeAt X N r)
    (hown : X.ownsRow (N + 1) 81 3 v k cells) (hgrow : X.grownBy w1 v.ownBlock)
    (hown1 : w1.ownsRow (N + 1) 81 3 (.slice (some ⟨g, 0, none⟩) (k + 1) cap) (k + 1) (cells ++ news)) :
    World.nodeAt (w1.setCell ⟨N, 9, none⟩ (.slice (some ⟨g, 0, none⟩) (k + 1) cap)) N { r with attr := .slice (some ⟨g, 0, none⟩) (k + 1) cap } ∧
    (w1.setCell ⟨N, 9, none⟩ (.slice (some ⟨g, 0, none⟩) (k + 1) cap)).ownsRow (N + 1) 81 3 (.slice (some ⟨g, 0, none⟩) (k + 1) cap) (k + 1) (cells ++ news) ∧
    Below B W (w1.setCell ⟨N, 9, none⟩ (.slice (some ⟨g, 0, none⟩) (k + 1) cap)) := by
  have hlt := hnode.lt
  have hne : some N ≠ v.ownBlock := fun e => by have := (World.ownsRow.lt hown _ e.symm).1; omega
  have hn1 : World.nodeAt w1 N r := by
    unfold World.nodeAt at *
    rw [hgrow.block N hlt hne]
    exact hnode
  have hs := setCell_attr hn1 (.slice (some ⟨g, 0, none⟩) (k + 1) cap)
  refine ⟨?_, ?_, ?_⟩
  · rw [hs]; exact hn1.put _
  · exact ownsRow_setCell_below hown1 (by simp) _
  · refine Below.setCell ?_ (by simpa using hBN) _
    exact hbel.grown hgrow (by omega) (fun q hq => by have := (World.ownsRow.lt hown q hq).1; omega)

def ElemPost (l : KVs) (w : World) (e : Ending) (w' : World) : Prop :=
  ∃ s q g v, e = .returned (.tuple #[.pointer (some ⟨s, 0, none⟩), .pointer (some ⟨g, 0, none⟩)]) ∧ w'.cell? ⟨s, 0, none⟩ = some (.slice (some ⟨q, 0, none⟩) 1 1) ∧ w'.cell? ⟨q, 0, none⟩ = some (.pointer (some ⟨g, 0, none⟩)) ∧
    World.nodeAt w' g (elemR v) ∧ w'.ownsRow (g + 1) 81 3 v l.length (attrCells l) ∧ w.heap.size ≤ g ∧ Hid (Below w.heap.size w w')

set_option maxRecDepth 100000 in
set_option maxHeartbeats 4000000 in
theorem element_any (aa : Option Addr) (al ac : Nat) (l : KVs) (w : World) (h : AttrsAt w aa al l) (hal : al ≤ 100) :
    Calls Try.prog 26 #[.slice aa al ac] w (ElemPost l w) := by
  have HA := Lib.hid h
  clear h
  obtain ⟨i0, hi, hz0, hz1, hz2⟩ := info_parts Try.infoAttr
  go_enter Try.func26, Try.ntmps26
  go_wp2
  go_loopw [11] (fun i wr => ∃ (k : Nat) (v : Value), k ≤ al ∧ i = .int .i64 k ∧ World.nodeAt wr w.heap.size (elemR v) ∧ wr.ownsRow (w.heap.size + 1) 81 3 v k (attrCells (l.take k)) ∧ Below w.heap.size w wr) (fun i _ => al - (intOf i).toNat)
  case atStart => exact ⟨0, .slice none 0 0, Nat.zero_le _, rfl, nodeAt_alloc_new w (elemR (.slice none 0 0)), World.ownsRow_nil _ _ _ _, (Below.refl _ _).alloc (Nat.le_refl _) _⟩
  case round =>
    obtain ⟨k, v, hk, rfl, hnode, hown, hbel⟩ := hrel
    have HB := Lib.hid hbel
    have HN := Lib.hid hnode
    have HO := Lib.hid hown
    have HA1 := Lib.hid (HA.out.below hbel)
    have hsz : w.heap.size < wr.heap.size := hnode.lt
    have c9 := hnode.attr
    have f9 := hnode.free 9
    clear hbel hnode hown
    by_cases hlt : k < al
    · obtain ⟨q1, q2, q3, q4⟩ := HA1.out
      obtain ⟨b, off, rfl, hc⟩ := q4 (by omega)
      have ck := (hc k hlt).1
      have cv := (hc k hlt).2
      obtain ⟨key, hkey⟩ : ∃ y, (l.getD k default).1 = y := ⟨_, rfl⟩
      obtain ⟨val, hval⟩ : ∃ y, (l.getD k default).2 = y := ⟨_, rfl⟩
      rw [hkey] at ck
      rw [hval] at cv
      have HKV := Lib.hid (And.intro hkey hval)
      clear q1 q2 q3 q4 hc hkey hval
      have hne : some w.heap.size ≠ v.ownBlock := fun e => by have := (World.ownsRow.lt HO.out _ e.symm).1; omega
      have hownW : (((wr.alloc (.cells #[.string key, .string val] 33)).alloc (.cells #[.string ByteArray.empty, .string key, .string val] 81)).drew).ownsRow (w.heap.size + 1) 81 3 v k (attrCells (l.take k)) := (World.ownsRow.alloc (World.ownsRow.alloc HO.out _) _).drew
      have hnews : ∀ j u, [Value.string ByteArray.empty, .string key, .string val][j]? = some u → (((wr.alloc (.cells #[.string key, .string val] 33)).alloc (.cells #[.string ByteArray.empty, .string key, .string val] 81)).drew).cell? ((⟨wr.heap.size + 1, 0, none⟩ : Addr).add j) = some u :=
        World.news_of_block (cs := #[.string ByteArray.empty, .string key, .string val]) (t := 81) (fr := (0, 0)) (by have := heap_alloc_new (wr.alloc (.cells #[.string key, .string val] 33)) (.cells #[.string ByteArray.empty, .string key, .string val] 81); rw [World.size_alloc] at this; exact this)
      have HW := Lib.hid hownW
      have HNEWS := Lib.hid hnews
      have HNE := Lib.hid hne
      have c9' : wr.cell? ⟨w.heap.size, 9, none⟩ = some v := c9
      have c9a : (wr.alloc (.cells #[.string key, .string val] 33)).cell? ⟨w.heap.size, 9, none⟩ = some v := (World.cell?_alloc_lt wr _ ⟨w.heap.size, 9, none⟩ hsz).trans c9'
      have c9b : ((wr.alloc (.cells #[.string key, .string val] 33)).alloc (.cells #[.string ByteArray.empty, .string key, .string val] 81)).cell? ⟨w.heap.size, 9, none⟩ = some v := (World.cell?_alloc_lt (wr.alloc (.cells #[.string key, .string val] 33)) _ ⟨w.heap.size, 9, none⟩ (by rw [World.size_alloc]; exact Nat.lt_succ_of_lt hsz)).trans c9a
      have f9a : (wr.alloc (.cells #[.string key, .string val] 33)).frozen? ⟨w.heap.size, 9, none⟩ = false := (World.frozen?_alloc_old wr _ ⟨w.heap.size, 9, none⟩ (Nat.ne_of_lt hsz)).trans f9
      have f9b : ((wr.alloc (.cells #[.string key, .string val] 33)).alloc (.cells #[.string ByteArray.empty, .string key, .string val] 81)).frozen? ⟨w.heap.size, 9, none⟩ = false := (World.frozen?_alloc_old (wr.alloc (.cells #[.string key, .string val] 33)) _ ⟨w.heap.size, 9, none⟩ (by rw [World.size_alloc]; exact Nat.ne_of_lt (Nat.lt_succ_of_lt hsz))).trans f9a
      clear hne hownW hnews c9
      go_wp2
      go_region_law (first | (refine step_append_lies _ rfl (.tmp 19) (.tmp 25) 57 rfl (w.heap.size + 1) 81 i0 (.agg #[.string ByteArray.empty, .string ByteArray.empty, .string ByteArray.empty]) 3 48 Try.underlying57 hi hz0 hz1 hz2 rfl (by decide) v k (attrCells (l.take k)) (by simp [Act.eval, Act.put]) HW.out ⟨wr.heap.size + 1, 0, none⟩ 1 1 [.string ByteArray.empty, .string key, .string val] (by simp [Act.eval, Act.put]) rfl HNEWS.out (by simp [Value.oneCell']) (by omega) (by unfold maxLen; omega) (by omega) (by simp; omega) _ rfl ?_; intro g cap w1 hown1 hgrow hat hlt1; have hc9 : w1.cell? ⟨w.heap.size, 9, none⟩ = some v := (hgrow.cell_far ⟨w.heap.size, 9, none⟩ (by simp; omega) HNE.out).trans c9b; have hf9 : w1.frozen? ⟨w.heap.size, 9, none⟩ = false := (hgrow.frozen_far ⟨w.heap.size, 9, none⟩ (by simp; omega) HNE.out).trans f9b))
      all_goals
        have hst := attr_step (r := elemR v) (Nat.le_refl _) (((HB.out.alloc HB.out.size _).alloc (by have := HB.out.size; simp; omega) _).drew) ((HN.out.alloc _).alloc _) HW.out hgrow hown1
        have e1 : attrCells (l.take k) ++ [.string ByteArray.empty, .string key, .string val] = attrCells (l.take (k + 1)) := by rw [take_succ_getD _ default (by have := HA.out.1; omega), attrCells_snoc, HKV.out.1, HKV.out.2]
        rw [e1] at hst
        have HST := Lib.hid hst
        clear hst hown1 hgrow hat hlt1 c9' c9a c9b f9 f9a f9b
        go_wp2
        go_roundw
        case rel => exact ⟨k + 1, _, by omega, by go_num, HST.out.1, HST.out.2.1, HST.out.2.2⟩
        case measure => simp [intOf]; omega
    · obtain rfl : k = al := by omega
      have hfin : wr.ownsRow (w.heap.size + 1) 81 3 v l.length (attrCells l) := by
        have h1 := HO.out
        rw [List.take_of_length_le (by have := HA.out.1; omega)] at h1
        rw [show l.length = k from HA.out.1]
        exact h1
      have hb2 : ∀ o1 o2, Below w.heap.size w ((wr.alloc o1).alloc o2) := fun o1 o2 => (HB.out.alloc HB.out.size _).alloc (by have := HB.out.size; simp; omega) _
      have HF := Lib.hid hfin
      have HB2 := Lib.hid hb2
      clear hfin hb2 c9 f9 hlt
      go_wp2
      go_ret2
      refine ⟨wr.heap.size + 1, wr.heap.size, w.heap.size, v, rfl, ?_, ?_, ?_, ?_, Nat.le_refl _, Lib.hid (HB2.out _ _)⟩
      · exact cell_alloc_new' _ _ _ (by simp) rfl
      · exact cell_alloc_old (cell_alloc_new' _ _ _ rfl rfl) _
      · exact (HN.out.alloc _).alloc _
      · exact World.ownsRow.alloc (World.ownsRow.alloc HF.out _) _

/-- Where an attribute of a key lies. -/
def GapPost (g : Nat) (l : KVs) (key : ByteArray) (w : World) (e : Ending) (w' : World) : Prop :=
  ((e = .returned (.pointer none) ∧ NoneBefore l key l.length) ∨ ∃ k, k < l.length ∧ e = .returned (.pointer (some ⟨g, k * 3, none⟩)) ∧ NoneBefore l key k ∧ ((l.getD k default).1.toList == key.toList) = true) ∧ Hid (Below w.heap.size w w')

set_option maxRecDepth 100000 in
set_option maxHeartbeats 2000000 in
theorem getPtr_any (n g cap : Nat) (a : Option Addr) (r : NRec) (l : KVs) (key : ByteArray) (w : World) (hn : World.nodeAt w n r) (hv : r.attr = .slice a l.length cap) (hm : l.length ≤ 9223372036854775807) (ha : 0 < l.length → a = some ⟨g, 0, none⟩)
    (hc : ∀ i, i < l.length → w.cell? ⟨g, i * 3, none⟩ = some (.string ByteArray.empty) ∧ w.cell? ⟨g, i * 3 + 1, none⟩ = some (.string (l.getD i default).1) ∧ w.cell? ⟨g, i * 3 + 2, none⟩ = some (.string (l.getD i default).2)) :
    Calls Try.prog 43 #[.string key, .pointer (some ⟨n, 0, none⟩)] w (GapPost g l key w) := by
  have k9 := hn.attr
  rw [hv] at k9
  have HA := Lib.hid ha
  have HC := Lib.hid hc
  clear hn hv ha hc
  go_enter Try.func43, Try.ntmps43
  go_wp2
  go_loopw [14] (fun i wr => ∃ k : Nat, k ≤ l.length ∧ i = .int .i64 (k : Int) ∧ NoneBefore l key k ∧ Below w.heap.size w wr) (fun i _ => l.length - (intOf i).toNat)
  case atStart => exact ⟨0, by omega, by go_num, fun j hj => by omega, Below.refl _ _⟩
  case round =>
    obtain ⟨k, hk, rfl, hno, hbel⟩ := hrel
    have HBEL := Lib.hid hbel
    have HNO := Lib.hid hno
    clear hbel hno
    by_cases hlt : k < l.length
    · obtain rfl := HA.out (by omega)
      obtain ⟨c0, c1, c2⟩ := HC.out k hlt
      have c0 := cell_below HBEL.out c0
      have c1 := cell_below HBEL.out c1
      have c2 := cell_below HBEL.out c2
      have c9 := cell_below HBEL.out k9
      obtain ⟨x, hxx⟩ : ∃ x, (l.getD k default).1 = x := ⟨_, rfl⟩
      obtain ⟨y, hyy⟩ : ∃ y, (l.getD k default).2 = y := ⟨_, rfl⟩
      rw [hxx] at c1
      rw [hyy] at c2
      have hbo : ∀ o, Below w.heap.size w (wr.alloc o) := fun o => HBEL.out.alloc HBEL.out.size o
      have HBO := Lib.hid hbo
      have HX := Lib.hid hxx
      have hkI : (k : Int) < (l.length : Int) := by omega
      clear hxx hyy hbo
      cases hke : (x.toList == key.toList)
      · have HKE := Lib.hid (HNO.out.succ HX.out hke)
        go_wp2
        go_roundw
        case rel => exact ⟨k + 1, by omega, by go_num, HKE.out, HBO.out _⟩
        case measure => simp [intOf]; omega
      · have hke2 : ((l.getD k default).1.toList == key.toList) = true := by rw [HX.out]; exact hke
        have HKE := Lib.hid hke2
        have c9a := cell_alloc_old c9 (.cells #[.string ByteArray.empty, .string x, .string y] 81)
        clear hke2
        go_wp2
        go_ret
        exact ⟨.inr ⟨k, hlt, by simp [Addr.add], HNO.out, HKE.out⟩, Lib.hid (HBO.out _)⟩
    · obtain rfl : k = l.length := by omega
      go_wp2
      go_ret
      exact ⟨.inl ⟨rfl, HNO.out⟩, HBEL⟩

def SetPost (s g : Nat) (l : KVs) (w : World) (e : Ending) (w' : World) : Prop :=
  ∃ v, e = .returned (.pointer (some ⟨s, 0, none⟩)) ∧ World.nodeAt w' g (elemR v) ∧ w'.ownsRow (g + 1) 81 3 v l.length (attrCells l) ∧ Hid (Below g w w')

set_option maxRecDepth 100000 in
set_option maxHeartbeats 4000000 in
theorem setAttr_any (s q g : Nat) (v : Value) (l : KVs) (key val : ByteArray) (w : World) (hs : w.cell? ⟨s, 0, none⟩ = some (.slice (some ⟨q, 0, none⟩) 1 1)) (hq : w.cell? ⟨q, 0, none⟩ = some (.pointer (some ⟨g, 0, none⟩)))
    (hn : World.nodeAt w g (elemR v)) (ho : w.ownsRow (g + 1) 81 3 v l.length (attrCells l)) (hl : l.length ≤ 100) :
    Calls Try.prog 27 #[.pointer (some ⟨s, 0, none⟩), .string key, .string val] w (SetPost s g (setKV l key val) w) := by
  obtain ⟨i0, hi, hz0, hz1, hz2⟩ := info_parts Try.infoAttr
  obtain ⟨a, cap, gr, hv, hm, ha, hc⟩ := attr_open ho
  have hgp := getPtr_any g gr cap a (elemR v) l key w hn hv hm ha hc
  have HGP := Lib.hid hgp
  have HN := Lib.hid hn
  have HO := Lib.hid ho
  have HV := Lib.hid (And.intro hv ha)
  clear hgp hn ho hv ha hc hm
  go_enter Try.func27, Try.ntmps27
  go_wp2
  go_loopw [15] (fun i wr => (i = .int .i64 0 ∧ wr = w) ∨ (i = .int .i64 1 ∧ ∃ v', World.nodeAt wr g (elemR v') ∧ wr.ownsRow (g + 1) 81 3 v' (setKV l key val).length (attrCells (setKV l key val)) ∧ Below g w wr)) (fun i _ => 1 - (intOf i).toNat)
  case atStart => exact .inl ⟨rfl, rfl⟩
  case round =>
    rcases hrel with ⟨rfl, rfl⟩ | ⟨rfl, v', hn', ho', hb'⟩
    · go_wp2_with fail
      refine HGP.out.mono ?_
      rintro e w1 ⟨⟨rfl, hno⟩ | ⟨k, hk, rfl, hno, he⟩, hb1⟩
      · have HSET := Lib.hid (set_none val hno)
        have n1 := nodeAt_below HN.out hb1.out
        have c9 := n1.attr
        have f9 := n1.free 9
        have o1 := ownsRow_kept HO.out (fun k hk => hb1.out.block k (World.ownsRow.lt HO.out k hk).2)
        have hlt1 := n1.lt
        have c9a : (w1.alloc (.cells #[.string ByteArray.empty, .string key, .string val] 81)).cell? ⟨g, 9, none⟩ = some v := (World.cell?_alloc_lt w1 _ ⟨g, 9, none⟩ hlt1).trans c9
        have f9a : (w1.alloc (.cells #[.string ByteArray.empty, .string key, .string val] 81)).frozen? ⟨g, 9, none⟩ = false := (World.frozen?_alloc_old w1 _ ⟨g, 9, none⟩ (Nat.ne_of_lt hlt1)).trans f9
        have hnews : ∀ j u, [Value.string ByteArray.empty, .string key, .string val][j]? = some u → (w1.alloc (.cells #[.string ByteArray.empty, .string key, .string val] 81)).cell? ((⟨w1.heap.size, 0, none⟩ : Addr).add j) = some u :=
          World.news_of_block (cs := #[.string ByteArray.empty, .string key, .string val]) (t := 81) (fr := (0, 0)) (heap_alloc_new w1 _)
        have hownW : (w1.alloc (.cells #[.string ByteArray.empty, .string key, .string val] 81)).ownsRow (g + 1) 81 3 v l.length (attrCells l) := World.ownsRow.alloc o1 _
        have hne : some g ≠ v.ownBlock := fun e => by have := (World.ownsRow.lt HO.out _ e.symm).1; omega
        have HN1 := Lib.hid n1
        have HW := Lib.hid hownW
        have HNEWS := Lib.hid hnews
        have HNE := Lib.hid hne
        have HB1 := Lib.hid (hb1.out.mono (Nat.le_of_lt HN.out.lt))
        clear hno hb1 n1 o1 hnews hownW hne f9
        go_wp2_with (at_builtin; refine wpList_append_lies _ rfl _ _ 57 rfl (g + 1) 81 i0 (.agg #[.string ByteArray.empty, .string ByteArray.empty, .string ByteArray.empty]) 3 48 Try.underlying57 hi hz0 hz1 hz2 rfl (by decide) v l.length (attrCells l) rfl HW.out ⟨w1.heap.size, 0, none⟩ 1 1 [.string ByteArray.empty, .string key, .string val] rfl rfl HNEWS.out (by simp [Value.oneCell']) (by omega) (by unfold maxLen; omega) (by omega) (by simp; omega) _ rfl ?_)
        intro g2 cap2 w2 hown2 hgrow hat hlt2
        have hc9 : w2.cell? ⟨g, 9, none⟩ = some v := (hgrow.cell_far ⟨g, 9, none⟩ (by simp; omega) HNE.out).trans c9a
        have hf9 : w2.frozen? ⟨g, 9, none⟩ = false := (hgrow.frozen_far ⟨g, 9, none⟩ (by simp; omega) HNE.out).trans f9a
        have hst := attr_step (B := g) (r := elemR v) (Nat.le_refl _) (HB1.out.alloc (Nat.le_of_lt hlt1) _) (HN1.out.alloc _) HW.out hgrow hown2
        have e1 : attrCells l ++ [.string ByteArray.empty, .string key, .string val] = attrCells (setKV l key val) := by rw [HSET.out, attrCells_snoc]
        have e2 : l.length + 1 = (setKV l key val).length := by rw [HSET.out]; simp
        have HST := Lib.hid hst
        have HE := Lib.hid (And.intro e1 e2)
        clear hst hown2 hgrow hat hlt2 c9 c9a f9a e1 e2
        go_wp2
        go_roundw
        case rel => exact .inr ⟨by go_num, _, HST.out.1, by rw [← HE.out.1, ← HE.out.2]; exact HST.out.2.1, HST.out.2.2⟩
        case measure => simp [intOf]
      · have HSET := Lib.hid (set_at val hk hno he)
        have n1 := nodeAt_below HN.out hb1.out
        have o1 := ownsRow_kept HO.out (fun k hk => hb1.out.block k (World.ownsRow.lt HO.out k hk).2)
        obtain rfl := HV.out.2 (by omega)
        obtain hv' := HV.out.1
        subst hv'
        have hrow : w1.frozen? ⟨gr, k * 3 + 2, none⟩ = false := by
          rcases o1.2 with ⟨h1, _⟩ | ⟨g', cap', cur, hv, hb, hg, hn, hm, hcs, ht⟩
          · simp at h1
          · simp at hv
            obtain ⟨rfl, rfl⟩ := hv
            simp [World.frozen?, hg]
        obtain ⟨_, _, g', hvv, _, hga, hc⟩ := attr_open o1
        simp at hvv
        have hgg : gr = g' := by
          have h3 := hga (by omega)
          rw [← hvv.1] at h3
          simpa using h3
        subst hgg
        have c2 := (hc k hk).2.2
        have hgr := (World.ownsRow.lt o1 gr rfl).1
        have hst2 : ∀ u, (w1.setCell ⟨gr, k * 3 + 2, none⟩ u).ownsRow (g + 1) 81 3 (.slice (some ⟨gr, 0, none⟩) l.length cap) l.length ((attrCells l).set (k * 3 + 2) u) := fun u => ownsRow_set o1 (by omega) u
        have hb1' : ∀ u, Below (g + 1) _ (w1.setCell ⟨gr, k * 3 + 2, none⟩ u) := fun u => Below.setCell (p := ⟨gr, k * 3 + 2, none⟩) (hb1.out.mono HN.out.lt) hgr u
        have hnd : ∀ u, World.nodeAt (w1.setCell ⟨gr, k * 3 + 2, none⟩ u) g (elemR (.slice (some ⟨gr, 0, none⟩) l.length cap)) := fun u => by
          have hn0 := HN.out
          unfold World.nodeAt at hn0 ⊢
          rw [(hb1' u).block g (by omega)]
          exact hn0
        have e1 : (attrCells l).set (k * 3 + 2) (.string val) = attrCells (setKV l key val) := by rw [HSET.out, attrCells_set l k val hk]
        have e2 : l.length = (setKV l key val).length := by rw [HSET.out]; simp
        have HST := Lib.hid (And.intro hst2 (And.intro hb1' hnd))
        have HE := Lib.hid (And.intro e1 e2)
        clear hno he hb1 n1 o1 hvv hga hc hst2 hb1' hnd e1 e2 HSET
        go_wp2
        go_roundw
        case rel => exact .inr ⟨by go_num, _, HST.out.2.2 _, by rw [← HE.out.1, ← HE.out.2]; exact HST.out.1 _, (HST.out.2.1 _).mono (by omega)⟩
        case measure => simp [intOf]
    · have H := Lib.hid (And.intro hn' (And.intro ho' hb'))
      clear hn' ho' hb'
      go_wp2
      go_ret
      exact ⟨v', rfl, H.out.1, H.out.2.1, Lib.hid H.out.2.2⟩

end Go.Proofs.Ytikimffifkiinaa
