/- What an element has behind a change: impl.kindOf, impl.attrs, impl.AttrsSet. -/
import Derived.Test.YtoleejaabiafcaaElement
import Derived.Test.YtoleejaabiafcaaKV
import Derived.Test.YtoleejaabiafcaaResCells
namespace Go.Proofs.Ytoleejaabiafcaa
open Go.RowKit
set_option linter.unusedVariables false
set_option linter.unusedSimpArgs false

/-- The value of an element as data. -/
def elemV (pv : Value) : Value := .agg #[.int .i64 3, .string ⟨#[97]⟩, .string ⟨#[]⟩, pv, .int .i64 0]

def KindPost (l : KVs) (w : World) (e : Ending) (w' : World) : Prop := ∃ pv, e = .returned (elemV pv) ∧ Hid (OwnKV w' w.heap.size pv l) ∧ Hid (Below w.heap.size w w')

/-- What the loop of kindOf knows. -/
structure KindAt (W wr : World) (l : KVs) (k : Nat) (pv : Value) : Prop where
  out : World.objAt wr (W.heap.size + 1) #[.int .i64 3, .string ⟨#[97]⟩, .string ⟨#[]⟩, pv, .int .i64 0] 39
  res : World.objAt wr W.heap.size #[.int .i64 0, .string ⟨#[]⟩, .string ⟨#[]⟩, .slice none 0 0, .int .i64 0] 39
  own : wr.ownsRow (W.heap.size + 2) 86 2 pv k (kvCells (l.take k))
  bel : Below W.heap.size W wr

set_option maxRecDepth 100000 in
set_option maxHeartbeats 4000000 in
theorem kindOf_any {B : Nat} (g : Nat) (v : Value) (l : KVs) (w : World) (hn : World.nodeAt w g (elemR v)) (ho : w.ownsRow B 123 3 v l.length (attrCells l)) (hl : l.length ≤ 100) :
    Calls Try.prog 97 #[.pointer (some ⟨g, 0, none⟩)] w (KindPost l w) := by
  obtain ⟨i0, hi, hz0, hz1, hz2⟩ := info_parts Try.infoKV
  obtain ⟨a, cap, gr, hv, hm, ha, hc⟩ := attr_open ho
  have k5 := hn.ty
  have k7 := hn.data
  have k9 := hn.attr
  have hgl := hn.lt
  simp only [elemR] at k5 k7 k9
  rw [hv] at k9
  have hb0 : Below w.heap.size w ((w.alloc (.cells #[.int .i64 0, .string ⟨#[]⟩, .string ⟨#[]⟩, .slice none 0 0, .int .i64 0] 39)).alloc (.cells #[.int .i64 3, .string ⟨#[97]⟩, .string ⟨#[]⟩, .slice none 0 0, .int .i64 0] 39)) := ((Below.refl _ _).alloc (Nat.le_refl _) _).alloc (by simp) _
  have o1 := objAt_alloc_new (w.alloc (.cells #[.int .i64 0, .string ⟨#[]⟩, .string ⟨#[]⟩, .slice none 0 0, .int .i64 0] 39)) #[.int .i64 3, .string ⟨#[97]⟩, .string ⟨#[]⟩, .slice none 0 0, .int .i64 0] 39
  rw [World.size_alloc] at o1
  have o0 := World.objAt.below (B := w.heap.size + 1) (objAt_alloc_new w #[.int .i64 0, .string ⟨#[]⟩, .string ⟨#[]⟩, .slice none 0 0, .int .i64 0] 39) ((Below.refl _ _).alloc (by simp) (.cells #[.int .i64 3, .string ⟨#[97]⟩, .string ⟨#[]⟩, .slice none 0 0, .int .i64 0] 39)) (by omega)
  have H0 := Lib.hid (And.intro hb0 (And.intro o1 o0))
  have HA := Lib.hid ha
  have HC := Lib.hid hc
  have HL := Lib.hid (And.intro hgl hl)
  clear hn ho hv ha hc hb0 o1 o0
  go_enter Try.func97, Try.ntmps97
  go_wp2
  go_loopw [46] (fun i wr => ∃ (k : Nat) (pv : Value), k ≤ l.length ∧ i = .int .i64 (k : Int) ∧ KindAt w wr l k pv) (fun i _ => l.length - (intOf i).toNat)
  case atStart => exact ⟨0, .slice none 0 0, by omega, by go_num, H0.out.2.1, H0.out.2.2, World.ownsRow_nil _ _ _ _, H0.out.1⟩
  case round =>
    obtain ⟨k, pv, hk, rfl, hK⟩ := hrel
    have HK := Lib.hid hK
    by_cases hlt : k < l.length
    · obtain rfl := HA.out (by omega)
      obtain ⟨c0, c1, c2⟩ := HC.out k hlt
      have c0 := cell_below hK.bel c0
      have c1 := cell_below hK.bel c1
      have c2 := cell_below hK.bel c2
      obtain ⟨x, hxx⟩ : ∃ x, (l.getD k default).1 = x := ⟨_, rfl⟩
      obtain ⟨y, hyy⟩ : ∃ y, (l.getD k default).2 = y := ⟨_, rfl⟩
      rw [hxx] at c1
      rw [hyy] at c2
      have hsz := World.objAt.lt hK.out
      obtain ⟨wx, hwx⟩ : ∃ wx, wr.alloc (.cells #[.string ByteArray.empty, .string x, .string y] 123) = wx := ⟨_, rfl⟩
      have hbx : Below wr.heap.size wr wx := by rw [← hwx]; exact (Below.refl _ _).alloc (Nat.le_refl _) _
      have e1 : wx.cell? ⟨wr.heap.size, 1, none⟩ = some (.string x) := by rw [← hwx]; exact cell_alloc_new' _ _ _ rfl rfl
      have e2 : wx.cell? ⟨wr.heap.size, 2, none⟩ = some (.string y) := by rw [← hwx]; exact cell_alloc_new' _ _ _ rfl rfl
      have ox : World.objAt wx (w.heap.size + 1) #[.int .i64 3, .string ⟨#[97]⟩, .string ⟨#[]⟩, pv, .int .i64 0] 39 := hK.out.below hbx hsz
      have e3 : wx.cell? ⟨w.heap.size + 1, 3, none⟩ = some pv := World.objAt.cell ox (i := 3) rfl
      have hsx := World.objAt.lt ox
      have hownX : wx.ownsRow (w.heap.size + 2) 86 2 pv k (kvCells (l.take k)) := ownsRow_kept hK.own (fun q hq => hbx.block q (World.ownsRow.lt hK.own q hq).2)
      have hownW : (wx.alloc (.cells #[.string x, .string y] 86)).ownsRow (w.heap.size + 2) 86 2 pv k (kvCells (l.take k)) := World.ownsRow.alloc hownX _
      have hnews : ∀ j u, [Value.string x, .string y][j]? = some u → (wx.alloc (.cells #[.string x, .string y] 86)).cell? ((⟨wx.heap.size, 0, none⟩ : Addr).add j) = some u :=
        World.news_of_block (cs := #[.string x, .string y]) (t := 86) (fr := (0, 0)) (heap_alloc_new wx _)
      have hne : some (w.heap.size + 1) ≠ pv.ownBlock := fun e => by have := (World.ownsRow.lt hownX _ e.symm).1; omega
      have hne0 : some w.heap.size ≠ pv.ownBlock := fun e => by have := (World.ownsRow.lt hownX _ e.symm).1; omega
      have e3a : (wx.alloc (.cells #[.string x, .string y] 86)).cell? ⟨w.heap.size + 1, 3, none⟩ = some pv := cell_alloc_old e3 _
      have oxa : World.objAt (wx.alloc (.cells #[.string x, .string y] 86)) (w.heap.size + 1) #[.int .i64 3, .string ⟨#[97]⟩, .string ⟨#[]⟩, pv, .int .i64 0] 39 := ox.below ((Below.refl _ _).alloc (Nat.le_refl _) _) hsx
      have orx : World.objAt (wx.alloc (.cells #[.string x, .string y] 86)) w.heap.size #[.int .i64 0, .string ⟨#[]⟩, .string ⟨#[]⟩, .slice none 0 0, .int .i64 0] 39 := (hK.res.below hbx (by omega)).below ((Below.refl _ _).alloc (Nat.le_refl _) _) (by omega)
      have hbxa : Below w.heap.size w (wx.alloc (.cells #[.string x, .string y] 86)) := by
        have h1 := hK.bel.trans (hbx.mono hK.bel.size)
        exact h1.alloc h1.size _
      have HX := Lib.hid (And.intro hxx hyy)
      have HW := Lib.hid hownW
      have HNEWS := Lib.hid hnews
      have HNE := Lib.hid (And.intro hne hne0)
      have HO := Lib.hid (And.intro oxa (And.intro orx hbxa))
      have HE3 := Lib.hid e3a
      have hsx2 : w.heap.size + 2 ≤ wx.heap.size + 1 := by omega
      have hl100 := HL.out.2
      clear hK hxx hyy hbx ox hownX hownW hnews hne hne0 e3a oxa orx hbxa k5 k7 k9 H0
      go_wp2_with (at_builtin; refine wpList_append_lies _ rfl _ _ 37 rfl (w.heap.size + 2) 86 i0 (.agg #[.string ByteArray.empty, .string ByteArray.empty]) 2 32 Try.underlying37 hi hz0 hz1 hz2 rfl (by decide) pv k (kvCells (l.take k)) rfl HW.out ⟨wx.heap.size, 0, none⟩ 1 1 [.string x, .string y] rfl rfl HNEWS.out (by simp [Value.oneCell']) (by omega) (by unfold maxLen; omega) (by omega) (by simp; omega) _ rfl ?_)
      intro g2 cap2 w2 hown2 hgrow hat hlt2
      have oo : World.objAt w2 (w.heap.size + 1) #[.int .i64 3, .string ⟨#[97]⟩, .string ⟨#[]⟩, pv, .int .i64 0] 39 := by
        have h1 := HO.out.1
        unfold World.objAt at h1 ⊢
        rw [hgrow.block (w.heap.size + 1) (by simp; omega) HNE.out.1]; exact h1
      have or2 : World.objAt w2 w.heap.size #[.int .i64 0, .string ⟨#[]⟩, .string ⟨#[]⟩, .slice none 0 0, .int .i64 0] 39 := by
        have h1 := HO.out.2.1
        unfold World.objAt at h1 ⊢
        rw [hgrow.block w.heap.size (by simp; omega) HNE.out.2]; exact h1
      have hc3 : w2.cell? ⟨w.heap.size + 1, 3, none⟩ = some pv := World.objAt.cell oo (i := 3) rfl
      have hf3 : w2.frozen? ⟨w.heap.size + 1, 3, none⟩ = false := oo.free 3
      have hb2 : Below w.heap.size w w2 := HO.out.2.2.grown hgrow (by have := HO.out.2.2.size; exact this) (fun q hq => by have := (World.ownsRow.lt HW.out q hq).1; omega)
      have hK2 : ∀ nv, nv = .slice (some ⟨g2, 0, none⟩) (k + 1) cap2 → KindAt w (w2.setCell ⟨w.heap.size + 1, 3, none⟩ nv) l (k + 1) nv := fun nv hnv => by
        refine ⟨?_, ?_, ?_, ?_⟩
        · exact oo.set 3 nv
        · exact or2.below ((Below.refl (w.heap.size + 1) w2).setCell (p := ⟨w.heap.size + 1, 3, none⟩) (Nat.le_refl _) nv) (by omega)
        · rw [take_succ_getD _ default hlt, kvCells_snoc, HX.out.1, HX.out.2, hnv]
          exact ownsRow_setCell_below hown2 (by simp) _
        · exact Below.setCell (p := ⟨w.heap.size + 1, 3, none⟩) hb2 (by simp) nv
      have HK2 := Lib.hid hK2
      clear oo or2 hb2 hK2 hown2 hgrow hat hlt2
      go_wp2
      go_roundw
      case rel => exact ⟨k + 1, _, by omega, by go_num, HK2.out _ rfl⟩
      case measure => simp [intOf]; omega
    · obtain rfl : k = l.length := by omega
      obtain ⟨pa, pc, rfl⟩ := ownsRow_slice hK.own
      have q0 : wr.cell? ⟨w.heap.size + 1, 0, none⟩ = some (.int .i64 3) := hK.out.cell (i := 0) rfl
      have q1 : wr.cell? ⟨w.heap.size + 1, 1, none⟩ = some (.string ⟨#[97]⟩) := hK.out.cell (i := 1) rfl
      have q2 : wr.cell? ⟨w.heap.size + 1, 2, none⟩ = some (.string ⟨#[]⟩) := hK.out.cell (i := 2) rfl
      have q3 : wr.cell? ⟨w.heap.size + 1, 3, none⟩ = some (.slice pa l.length pc) := hK.out.cell (i := 3) rfl
      have q4 : wr.cell? ⟨w.heap.size + 1, 4, none⟩ = some (.int .i64 0) := hK.out.cell (i := 4) rfl
      have r0 : wr.cell? ⟨w.heap.size, 0, none⟩ = some (.int .i64 0) := hK.res.cell (i := 0) rfl
      have r1 : wr.cell? ⟨w.heap.size, 1, none⟩ = some (.string ⟨#[]⟩) := hK.res.cell (i := 1) rfl
      have r2 : wr.cell? ⟨w.heap.size, 2, none⟩ = some (.string ⟨#[]⟩) := hK.res.cell (i := 2) rfl
      have r3 : wr.cell? ⟨w.heap.size, 3, none⟩ = some (.slice none 0 0) := hK.res.cell (i := 3) rfl
      have r4 : wr.cell? ⟨w.heap.size, 4, none⟩ = some (.int .i64 0) := hK.res.cell (i := 4) rfl
      have f0 := fun o => hK.res.free o
      have hwl := World.objAt.lt hK.res
      clear hK hlt k5 k7 k9 H0
      go_wp2
      refine bodyPost_ret (v := elemV (.slice pa l.length pc)) ?_ rfl ?_
      · rw [results_cell1 rfl]
        go_simp
        try rfl
      · have hown := HK.out.own
        rw [List.take_length] at hown
        have hs : ∀ {x : World} (h : x.ownsRow (w.heap.size + 2) 86 2 (.slice pa l.length pc) l.length (kvCells l)) (o : Nat) (u : Value), (x.setCell ⟨w.heap.size, o, none⟩ u).ownsRow (w.heap.size + 2) 86 2 (.slice pa l.length pc) l.length (kvCells l) := fun h o u => ownsRow_setCell_below h (by simp) u
        have hh : ∀ {x : World} (h : Below w.heap.size w x) (o : Nat) (u : Value), Below w.heap.size w (x.setCell ⟨w.heap.size, o, none⟩ u) := fun h o u => Below.setCell h (Nat.le_refl _) u
        exact ⟨_, rfl, Lib.hid (ownsRow_base (hs (hs (hs (hs (hs hown _ _) _ _) _ _) _ _) _ _) (by omega)), Lib.hid (hh (hh (hh (hh (hh HK.out.bel _ _) _ _) _ _) _ _) _ _)⟩

def KVPost (l : KVs) (w : World) (e : Ending) (w' : World) : Prop := ∃ pv, e = .returned pv ∧ Hid (OwnKV w' w.heap.size pv l) ∧ Hid (Below w.heap.size w w')

set_option maxRecDepth 100000 in
set_option maxHeartbeats 1000000 in
theorem attrs_any {B : Nat} (g : Nat) (v : Value) (l : KVs) (w : World) (hn : World.nodeAt w g (elemR v)) (ho : w.ownsRow B 123 3 v l.length (attrCells l)) (hl : l.length ≤ 100) :
    Calls Try.prog 67 #[.pointer (some ⟨g, 0, none⟩)] w (KVPost l w) := by
  have hk := kindOf_any g v l w hn ho hl
  have HK := Lib.hid hk
  clear hk hn ho
  go_enter Try.func67, Try.ntmps67
  go_wp2_with fail
  refine HK.out.mono ?_
  rintro e w1 ⟨pv, rfl, ho, hb⟩
  obtain ⟨pa, pc, rfl⟩ := ownsRow_slice ho.out
  unfold elemV
  have hfd : ∀ w : World, (Instr.field 39 (.agg #[.int .i64 3, .string ⟨#[97]⟩, .string ⟨#[]⟩, .slice pa l.length pc, .int .i64 0]) 3).run Try.prog w = .ok (.slice pa l.length pc) w := fun _ => by kernel_rfl
  go_wp2
  go_ret
  exact ⟨_, rfl, ho, hb⟩

/-- All texts of a list within a machine's bounds. -/
def KVFit (l : KVs) : Prop := ∀ x ∈ l, x.1.size ≤ maxLen ∧ x.2.size ≤ maxLen
theorem KVFit.set {l : KVs} (h : KVFit l) {k v : ByteArray} (hk : k.size ≤ maxLen) (hv : v.size ≤ maxLen) : KVFit (setKV l k v) := by
  induction l with
  | nil => intro x hx; simp [setKV] at hx; subst hx; exact ⟨hk, hv⟩
  | cons y r ih =>
    intro x hx
    simp only [setKV] at hx
    by_cases e : y.1.toList = k.toList
    · rw [if_pos e] at hx
      rcases List.mem_cons.mp hx with rfl | hx
      · exact ⟨(h y (by simp)).1, hv⟩
      · exact h x (by simp [hx])
    · rw [if_neg e] at hx
      rcases List.mem_cons.mp hx with rfl | hx
      · exact h x (by simp)
      · exact ih (fun z hz => h z (by simp [hz])) x hx

end Go.Proofs.Ytoleejaabiafcaa
