/- goquery.getClassesAndAttr, of any element. goquery.setClasses, of any element. Attributes that have lost their class: which ones are left. Plain. -/
import Derived.Test.YtkdomegcacgpnaaGreatGetPtr
import Derived.Test.YtkdomegcacgpnaaGreatReattr
import Derived.Test.YtkdomegcacgpnaaGreatClassTrim
import Derived.Test.YtkdomegcacgpnaaGreatKnotAll
import Derived.Deep.QuietTactic
import Derived.BigQuiet
import Derived.IntWalk
import Derived.Test.YtkdomegcacgpnaaGreatRemoveAttrAll
import Derived.Test.YtkdomegcacgpnaaGreatTrimAll
import Derived.Test.YtkdomegcacgpnaaGreatAttrPure
namespace Go.Proofs.YtkdomegcacgpnaaGreat
open Go.RowKit
set_option linter.unusedVariables false
set_option linter.unusedSimpArgs false

/-- The key. -/
def clsK : ByteArray := ⟨#[99, 108, 97, 115, 115]⟩

/-- The attributes with the class at a place, taken there if it was not. -/
def ClsAt (l l' : KVs) (k : Nat) (val : ByteArray) : Prop :=
  (l' = l ∧ k < l.length ∧ NoneBefore l clsK k ∧ (l.getD k default).1.toList = clsK.toList ∧ (l.getD k default).2 = val) ∨ (l' = l ++ [(clsK, ByteArray.empty)] ∧ k = l.length ∧ NoneBefore l clsK l.length ∧ val = ByteArray.empty)

def GcPost (B g : Nat) (r : NRec) (l : KVs) (w : World) (e : Ending) (w' : World) : Prop :=
  ∃ (c val : ByteArray) (gr k cap : Nat) (l' : KVs), e = .returned (.tuple #[.string c, .pointer (some ⟨gr, k * 3, none⟩)]) ∧ Hid (c.data.toList = (32 :: (val.data.toList ++ [32])).map trB) ∧ Hid (ClsAt l l' k val) ∧ k < l'.length ∧ Hid (Reattr B g r w w' (.slice (some ⟨gr, 0, none⟩) l'.length cap) l')

theorem cat_list (a b : ByteArray) : (a ++ b).data.toList = a.data.toList ++ b.data.toList := by
  rw [ByteArray.data_append, Array.toList_append]

set_option maxRecDepth 100000 in
set_option maxHeartbeats 4000000 in
theorem getClasses_any (B g : Nat) (r : NRec) (l : KVs) (w : World) (hn : World.nodeAt w g r) (hty : r.ty = 3) (ho : w.ownsRow B 119 3 r.attr l.length (attrCells l)) (hB : B ≤ w.heap.size) (hl : l.length ≤ 90) (hv : ∀ x ∈ l, x.2.size ≤ 100000000000000) :
    Calls Tryz.prog 76 #[.pointer (some ⟨g, 0, none⟩)] w (GcPost B g r l w) := by
  obtain ⟨i0, hi, hz0, hz1, hz2⟩ := info_parts Tryz.infoAttr
  obtain ⟨a, cap, gr, hvv, hm, ha, hc⟩ := attr_open ho
  have hgp := getPtr_any g gr cap a r l clsK w hn hvv hm ha hc
  unfold clsK at hgp
  have HGP := Lib.hid hgp
  have HN := Lib.hid hn
  have HO := Lib.hid ho
  have HRE := Lib.hid (Reattr.refl hn ho)
  have HV := Lib.hid (And.intro hvv (And.intro ha hv))
  have HCC := Lib.hid hc
  have c5 := hn.ty
  rw [hty] at c5
  have HC5 := Lib.hid c5
  obtain ⟨v, hrv⟩ : ∃ v, r.attr = v := ⟨_, rfl⟩
  have HRV := Lib.hid hrv
  clear hgp hn ho hvv ha hc hm hv hty hrv
  go_enter Tryz.func76, Tryz.ntmps76
  go_wp2_with fail
  refine HGP.out.mono ?_
  rintro e w1 ⟨⟨rfl, hno⟩ | ⟨k, hk, rfl, hno, he⟩, hb1⟩
  · have n1 := nodeAt_below HN.out hb1.out
    have c9 := n1.attr
    rw [HRV.out] at c9
    have f9 := n1.free 9
    have o1 := ownsRow_kept HO.out (fun k hk => hb1.out.block k (World.ownsRow.lt HO.out k hk).2)
    rw [HRV.out] at o1
    have hlt1 := n1.lt
    obtain ⟨wa, hwa⟩ : ∃ wa, w1.alloc (.cells #[.string ⟨#[]⟩, .string ⟨#[99, 108, 97, 115, 115]⟩, .string ⟨#[]⟩] 119) = wa := ⟨_, rfl⟩
    have c9a : wa.cell? ⟨g, 9, none⟩ = some v := by rw [← hwa]; exact (World.cell?_alloc_lt w1 _ ⟨g, 9, none⟩ hlt1).trans c9
    have f9a : wa.frozen? ⟨g, 9, none⟩ = false := by rw [← hwa]; exact (World.frozen?_alloc_old w1 _ ⟨g, 9, none⟩ (Nat.ne_of_lt hlt1)).trans f9
    have hnews : ∀ j u, [Value.string ⟨#[]⟩, .string ⟨#[99, 108, 97, 115, 115]⟩, .string ⟨#[]⟩][j]? = some u → wa.cell? ((⟨w1.heap.size, 0, none⟩ : Addr).add j) = some u := by
      rw [← hwa]
      exact World.news_of_block (cs := #[.string ⟨#[]⟩, .string ⟨#[99, 108, 97, 115, 115]⟩, .string ⟨#[]⟩]) (t := 119) (fr := (0, 0)) (heap_alloc_new w1 _)
    have hownW : wa.ownsRow B 119 3 v l.length (attrCells l) := by rw [← hwa]; exact World.ownsRow.alloc o1 _
    have hna : World.nodeAt wa g r := by rw [← hwa]; exact n1.alloc _
    have hba : Below w.heap.size w wa := by rw [← hwa]; exact hb1.out.alloc hb1.out.size _
    have hne : some g ≠ v.ownBlock := fun e => node_ne_own hna hownW e.symm
    have HNA := Lib.hid (And.intro hna hba)
    have HW := Lib.hid hownW
    have HNEWS := Lib.hid hnews
    have HNE := Lib.hid hne
    have HNO := Lib.hid hno
    have HSA := Lib.hid (show B ≤ wa.heap.size by have := hba.size; omega)
    clear hno hb1 n1 o1 hnews hownW hne f9 hna hba
    subst hwa
    go_wp2_with (at_builtin; refine wpList_append_lies _ rfl _ _ 112 rfl B 119 i0 (.agg #[.string ByteArray.empty, .string ByteArray.empty, .string ByteArray.empty]) 3 48 Tryz.underlying112 hi hz0 hz1 hz2 rfl (by decide) v l.length (attrCells l) rfl HW.out ⟨w1.heap.size, 0, none⟩ 1 1 [.string ⟨#[]⟩, .string ⟨#[99, 108, 97, 115, 115]⟩, .string ⟨#[]⟩] rfl rfl HNEWS.out (by simp [Value.oneCell']) (by omega) (by unfold maxLen; omega) (by omega) (by exact HSA.out) _ rfl ?_)
    intro g2 cap2 w2 hown2 hgrow hat hlt2
    have hc9 : w2.cell? ⟨g, 9, none⟩ = some v := (hgrow.cell_far ⟨g, 9, none⟩ (by simp; omega) HNE.out).trans c9a
    have hf9 : w2.frozen? ⟨g, 9, none⟩ = false := (hgrow.frozen_far ⟨g, 9, none⟩ (by simp; omega) HNE.out).trans f9a
    have e1 : attrCells l ++ [.string ⟨#[]⟩, .string ⟨#[99, 108, 97, 115, 115]⟩, .string ⟨#[]⟩] = attrCells (l ++ [(clsK, ByteArray.empty)]) := by rw [attrCells_snoc]; rfl
    rw [e1] at hown2
    have hlen : (l ++ [(clsK, ByteArray.empty)]).length = l.length + 1 := by simp
    have hst0 := reattr_app (B := B) (g := g) (r := r) HNA.out.1 (by rw [HRV.out]; exact HW.out) (by rw [HRV.out]; exact hgrow) hlen hown2 (by rw [HRV.out, World.size_alloc]; exact hat)
    have hst := Reattr.ahead HNA.out.2 HN.out.lt hB hst0
    obtain ⟨n, hnn⟩ : ∃ n, l.length + 1 = n := ⟨_, rfl⟩
    rw [hnn] at hst hlen ⊢
    obtain ⟨w3, hw3⟩ : ∃ w3, w2.setCell ⟨g, 9, none⟩ (.slice (some ⟨g2, 0, none⟩) n cap2) = w3 := ⟨_, rfl⟩
    rw [hw3] at hst
    obtain ⟨k, hk⟩ : ∃ k, l.length = k := ⟨_, rfl⟩
    have hcc := attr_open (l := l ++ [(clsK, ByteArray.empty)]) hst.own
    obtain ⟨a', cap', gr', hvv', hm', ha', hcc'⟩ := hcc
    have hla : 0 < (l ++ [(clsK, ByteArray.empty)]).length := by simp
    have hgg : gr' = g2 := by
      have h3 := ha' hla
      rw [h3] at hvv'
      simp at hvv'
      exact hvv'.1.symm
    rw [hgg] at hcc'
    have hc2 := (hcc' k (by simp; omega)).2.2
    have hget : ((l ++ [(clsK, ByteArray.empty)]).getD k default) = (clsK, ByteArray.empty) := by rw [← hk]; simp [List.getD_eq_getElem?_getD]
    rw [hget] at hc2
    have hnk : n = k + 1 := by omega
    have hw1 : IntKind.i64.wrap ((n : Int) - 1) = (k : Int) := by rw [hnk]; rw [IntWalk.i64_in _ (by omega)]; omega
    have hkI : (k : Int) < (n : Int) := by omega
    have hk0 : (0 : Int) ≤ (k : Int) := by omega
    have c9b := hst.node.attr
    have HST := Lib.hid hst
    have HK := Lib.hid (And.intro hk (And.intro hnn (And.intro hnk hlen)))
    have HC2 := Lib.hid hc2
    have HHW := Lib.hid hw3
    clear hst hst0 hown2 hgrow hat hlt2 c9 c9a f9a e1 hcc' hvv' hm' ha' hla hgg hget hnk hk hnn hlen hw3 hc2
    go_wp2
    rw [HHW.out]
    go_quiet (fail)
    obtain ⟨wz, hwz⟩ : ∃ wz, w3.drewN nq = wz := ⟨_, rfl⟩
    have hbz : Below w3.heap.size w3 wz := by rw [← hwz]; exact below_drewN (Below.refl _ _) _
    have hc3 : wz.cell? ⟨g2, k * 3 + 2, none⟩ = some (.string ⟨#[]⟩) := cell_below hbz HC2.out
    rw [hwz]
    have HBZ := Lib.hid hbz
    clear hbz hwz c9b hw1 hc9 hf9
    go_wp2_with fail
    refine (classTrim_any _ _ (by decide)).mono ?_
    rintro e w4 ⟨r1, rfl, hr, hb4⟩
    have HR := Lib.hid hr
    have HB4 := Lib.hid hb4.out
    clear hr hb4
    go_wp2
    go_ret2
    refine ⟨r1, ByteArray.empty, g2, k, cap2, l ++ [(clsK, ByteArray.empty)], rfl, Lib.hid (by rw [HR.out]; rfl), Lib.hid (.inr ⟨rfl, HK.out.1.symm, HNO.out, rfl⟩), by rw [HK.out.2.2.2, HK.out.2.2.1]; omega, Lib.hid ?_⟩
    have h5 := (HST.out.below HBZ.out).below HB4.out
    rw [HK.out.2.2.2]
    exact h5
  · have n1 := nodeAt_below HN.out hb1.out
    obtain rfl := HV.out.2.1 (by omega)
    have hv := HV.out.1
    have hval := HV.out.2.2 (l.getD k default) (by rw [List.getD_eq_getElem?_getD, List.getElem?_eq_getElem hk]; exact List.getElem_mem hk)
    have c2 := cell_below hb1.out (HCC.out k hk).2.2
    have HE := Lib.hid (show (l.getD k default).1.toList = clsK.toList by simpa [clsK] using he)
    obtain ⟨val, hvv⟩ : ∃ val, (l.getD k default).2 = val := ⟨_, rfl⟩
    rw [hvv] at c2 hval
    have HVV := Lib.hid hvv
    have HNO := Lib.hid hno
    have HB1 := Lib.hid hb1.out
    have HVA := Lib.hid hv
    have z1 : ¬ 9223372036854775807 < (ByteArray.mk #[32]).size + val.size := by have : (ByteArray.mk #[32]).size = 1 := rfl; omega
    have z2 : ¬ 9223372036854775807 < ((ByteArray.mk #[32]) ++ val).size + (ByteArray.mk #[32]).size := by
      have : (ByteArray.mk #[32]).size = 1 := rfl
      rw [ByteArray.size_append]; omega
    clear hvv n1 hno he hb1 hv
    go_wp2_with fail
    refine (classTrim_any _ _ (by rw [ByteArray.size_append, ByteArray.size_append]; have : (ByteArray.mk #[32]).size = 1 := rfl; omega)).mono ?_
    rintro e w4 ⟨r1, rfl, hr, hb4⟩
    have HR := Lib.hid hr
    have HB4 := Lib.hid hb4.out
    clear hr hb4
    go_wp2
    go_ret2
    refine ⟨r1, val, gr, k, cap, l, rfl, Lib.hid ?_, Lib.hid (.inl ⟨rfl, hk, HNO.out, HE.out, HVV.out⟩), hk, Lib.hid ?_⟩
    · rw [HR.out, cat_list, cat_list]; rfl
    · rw [← HVA.out]
      exact (HRE.out.below HB1.out).below HB4.out

end Go.Proofs.YtkdomegcacgpnaaGreat

namespace Go.Proofs.YtkdomegcacgpnaaGreat
open Go.RowKit
set_option linter.unusedVariables false
set_option linter.unusedSimpArgs false

/-- The attributes when a text of classes has been laid at a place. -/
def Sets (l : KVs) (k : Nat) (c : List UInt8) (l2 : KVs) : Prop :=
  (bareL c = [] ∧ RemC l l2) ∨ ∃ r : ByteArray, r.data.toList = bareL c ∧ bareL c ≠ [] ∧ l2 = l.set k ((l.getD k default).1, r)

def ScPost (B g : Nat) (r0 : NRec) (l : KVs) (k : Nat) (c : ByteArray) (w : World) (e : Ending) (w' : World) : Prop :=
  ∃ v l2, e = .returned (.tuple #[]) ∧ Hid (Sets l k c.data.toList l2) ∧ Hid (Reattr B g r0 w w' v l2)

set_option maxRecDepth 100000 in
set_option maxHeartbeats 4000000 in
theorem setClasses_any (B g gr k cap : Nat) (r0 : NRec) (l : KVs) (c : ByteArray) (w : World) (hn : World.nodeAt w g r0) (hra : r0.attr = .slice (some ⟨gr, 0, none⟩) l.length cap) (ho : w.ownsRow B 119 3 r0.attr l.length (attrCells l)) (hB : B ≤ w.heap.size) (hk : k < l.length) (hl : l.length ≤ 100) (hs : c.size ≤ 4611686018427387904) (ha : ∀ i (h : i < c.size), (c[i]'h).toNat < 128 ∧ (c[i]'h).toNat ≠ 11) :
    Calls Tryz.prog 78 #[.pointer (some ⟨g, 0, none⟩), .pointer (some ⟨gr, k * 3, none⟩), .string c] w (ScPost B g r0 l k c w) := by
  have ht := trim_any c w hs ha
  have HT := Lib.hid ht
  have HN := Lib.hid hn
  have HO := Lib.hid ho
  have HRA := Lib.hid hra
  clear ht hn ho ha hra
  go_enter Tryz.func78, Tryz.ntmps78
  go_wp2_with fail
  refine HT.out.mono ?_
  rintro e w1 ⟨r, rfl, hr, hrs, hb1⟩
  have hlt := HN.out.lt
  have n1 := nodeAt_below HN.out hb1
  have o1 := ownsRow_kept HO.out (fun k hk => hb1.block k (World.ownsRow.lt HO.out k hk).2)
  have HB1 := Lib.hid hb1
  have HR := Lib.hid hr
  have hsz := hb1.size
  have HSZ := Lib.hid hsz
  clear hb1 hr hrs hsz
  cases hE : r.toList.isEmpty
  · have o2 := o1
    rw [HRA.out] at o2
    have hrow : w1.frozen? ⟨gr, k * 3 + 2, none⟩ = false := by
      rcases o2.2 with ⟨h1, _⟩ | ⟨g', cap', cur, hv, hb, hg, hn, hm, hcs, ht⟩
      · simp at h1
      · simp at hv
        obtain ⟨rfl, rfl⟩ := hv
        simp [World.frozen?, hg]
    obtain ⟨_, _, g', hvv, _, hga, hc⟩ := attr_open o2
    simp at hvv
    have hgg : gr = g' := by
      have h3 := hga (by omega)
      rw [← hvv.1] at h3
      simpa using h3
    subst hgg
    have c2 := (hc k hk).2.2
    have hgr := World.ownsRow.lt o2 gr rfl
    have hgne : gr ≠ g := fun e => node_ne_own n1 o2 (congrArg some e)
    have hst2 : (w1.setCell ⟨gr, k * 3 + 2, none⟩ (.string r)).ownsRow B 119 3 (.slice (some ⟨gr, 0, none⟩) l.length cap) l.length ((attrCells l).set (k * 3 + 2) (.string r)) := ownsRow_set o2 (by omega) (.string r)
    rw [attrCells_set l k r hk] at hst2
    have hre : Reattr B g r0 w1 (w1.setCell ⟨gr, k * 3 + 2, none⟩ (.string r)) r0.attr (l.set k ((l.getD k default).1, r)) := by
      refine ⟨?_, by rw [HRA.out, List.length_set]; exact hst2, fun j hj h1 h2 => ?_, by simp, fun B' h1 h2 => ?_, fun b hb => .inl hb⟩
      · have hn0 := n1
        unfold World.nodeAt at hn0 ⊢
        rw [heap_setCell_other _ _ _ _ (fun e => hgne e.symm)]
        exact hn0
      · exact heap_setCell_other _ _ _ _ (fun e => h2 (by rw [HRA.out]; exact congrArg some e.symm))
      · exact Below.setCell (p := ⟨gr, k * 3 + 2, none⟩) (Below.refl _ _) (by show B' ≤ gr; have := hgr.1; omega) (.string r)
    have HST := Lib.hid (Reattr.ahead HB1.out hlt hB hre)
    have hne : bareL c.data.toList ≠ [] := by
      intro h
      rw [← HR.out] at h
      have := size_pos hE
      rw [size_list, h] at this
      simp at this
    have HNE := Lib.hid hne
    clear o1 o2 hvv hga hc hst2 hre n1 hgr hgne hne hlt
    go_wp2
    go_end0
    exact ⟨_, l.set k ((l.getD k default).1, r), rfl, Lib.hid (.inr ⟨r, HR.out, HNE.out, rfl⟩), HST⟩
  · have hrem := removeAttr_any B g r0 l w1 n1 o1 hl
    have HREM := Lib.hid hrem
    have hb0 := HR.out
    rw [nil_of hE] at hb0
    have HB0 := Lib.hid hb0.symm
    have HLT := Lib.hid hlt
    clear hrem n1 o1 hb0 hlt
    go_wp2_with fail
    refine HREM.out.mono ?_
    rintro e w2 ⟨v', l', rfl, hu⟩
    go_wp2
    go_end0
    exact ⟨v', l', rfl, Lib.hid (.inl ⟨HB0.out, hu.out.rem⟩), Lib.hid (Reattr.ahead HB1.out HLT.out hB hu.out.re)⟩

end Go.Proofs.YtkdomegcacgpnaaGreat

namespace Go.Proofs.YtkdomegcacgpnaaGreat
set_option linter.unusedVariables false
set_option linter.unusedSimpArgs false

theorem dist_at {l : KVs} (h : DistKV l) {a b : Nat} (ha : a < l.length) (hb : b < l.length) (hne : a ≠ b) : (l.getD a default).1.toList ≠ (l.getD b default).1.toList := by
  unfold DistKV at h
  rw [List.pairwise_iff_getElem] at h
  rw [List.getD_eq_getElem?_getD, List.getD_eq_getElem?_getD, List.getElem?_eq_getElem ha, List.getElem?_eq_getElem hb]
  rcases Nat.lt_or_gt_of_ne hne with h1 | h1
  · exact h a b ha hb h1
  · exact fun e => h b a hb ha h1 e.symm

theorem dist_mk {l : KVs} (h : ∀ a b, a < l.length → b < l.length → a < b → (l.getD a default).1.toList ≠ (l.getD b default).1.toList) : DistKV l := by
  unfold DistKV
  rw [List.pairwise_iff_getElem]
  intro a b ha hb hab
  have := h a b ha hb hab
  rw [List.getD_eq_getElem?_getD, List.getD_eq_getElem?_getD, List.getElem?_eq_getElem ha, List.getElem?_eq_getElem hb] at this
  exact this

theorem swap_get {l : KVs} {i j : Nat} {e : ByteArray × ByteArray} (hj : j + 1 < l.length) : ((l.set i e).dropLast).getD j default = if j = i then e else l.getD j default := by
  rw [List.getD_eq_getElem?_getD, List.getElem?_dropLast, List.length_set, if_pos (by omega), List.getElem?_set]
  by_cases h : i = j
  · subst h
    rw [if_pos rfl, if_pos (by omega), if_pos rfl]
    rfl
  · rw [if_neg h, if_neg (Ne.symm h), List.getD_eq_getElem?_getD]

structure RemSay (l l' : KVs) : Prop where
  dist : DistKV l'
  mem : ∀ x, x ∈ l' ↔ x ∈ l ∧ (x.1.toList == [99, 108, 97, 115, 115]) = false
  len : l'.length ≤ l.length

theorem getD_mem_kv {l : KVs} {j : Nat} (h : j < l.length) : l.getD j default ∈ l := by
  rw [List.getD_eq_getElem?_getD, List.getElem?_eq_getElem h]; exact List.getElem_mem _

theorem mem_getD_kv {l : KVs} {x : ByteArray × ByteArray} (h : x ∈ l) : ∃ j, j < l.length ∧ l.getD j default = x := by
  obtain ⟨j, hj, e⟩ := List.getElem_of_mem h
  exact ⟨j, hj, by rw [List.getD_eq_getElem?_getD, List.getElem?_eq_getElem hj]; exact e⟩

theorem remC_say {l l' : KVs} (hd : DistKV l) (h : RemC l l') : RemSay l l' := by
  rcases h with ⟨hn, rfl⟩ | ⟨i, hi, hc, rfl⟩
  · exact ⟨hd, fun x => ⟨fun hx => ⟨hx, hn x hx⟩, fun hx => hx.1⟩, Nat.le_refl _⟩
  · have hlen : ((l.set i (l.getD (l.length - 1) default)).dropLast).length = l.length - 1 := by simp
    have hcls : ∀ j, j < l.length → j ≠ i → ((l.getD j default).1.toList == [99, 108, 97, 115, 115]) = false := fun j hj hne => by
      have h1 := dist_at hd hj hi hne
      have h2 := eq_of_beq hc
      rw [h2] at h1
      simpa using h1
    -- each place of the new list is a place of the old one
    have hidx : ∀ j, j + 1 < l.length → ∃ k, k < l.length ∧ k ≠ i ∧ ((l.set i (l.getD (l.length - 1) default)).dropLast).getD j default = l.getD k default ∧ ((j = i ∧ k = l.length - 1) ∨ (j ≠ i ∧ k = j)) := fun j hj => by
      rw [swap_get hj]
      by_cases e : j = i
      · exact ⟨l.length - 1, by omega, by omega, by rw [if_pos e], .inl ⟨e, rfl⟩⟩
      · exact ⟨j, by omega, e, by rw [if_neg e], .inr ⟨e, rfl⟩⟩
    refine ⟨dist_mk (fun a b ha hb hab => ?_), fun x => ⟨fun hx => ?_, fun hx => ?_⟩, by rw [hlen]; omega⟩
    · rw [hlen] at ha hb
      obtain ⟨ka, a1, a2, a3, a4⟩ := hidx a (by omega)
      obtain ⟨kb, b1, b2, b3, b4⟩ := hidx b (by omega)
      rw [a3, b3]
      refine dist_at hd a1 b1 ?_
      rcases a4 with ⟨_, e1⟩ | ⟨_, e1⟩ <;> rcases b4 with ⟨_, e2⟩ | ⟨_, e2⟩ <;> omega
    · obtain ⟨j, hj, rfl⟩ := mem_getD_kv hx
      rw [hlen] at hj
      obtain ⟨k, a1, a2, a3, _⟩ := hidx j (by omega)
      rw [a3]
      exact ⟨getD_mem_kv a1, hcls k a1 a2⟩
    · obtain ⟨hx1, hx2⟩ := hx
      obtain ⟨k, hk, rfl⟩ := mem_getD_kv hx1
      have hki : k ≠ i := fun e => by rw [e, hc] at hx2; cases hx2
      by_cases hl : k + 1 < l.length
      · have h1 := swap_get (i := i) (e := l.getD (l.length - 1) default) hl
        rw [if_neg hki] at h1
        rw [← h1]
        exact getD_mem_kv (by rw [hlen]; omega)
      · have hk2 : k = l.length - 1 := by omega
        have h1 := swap_get (l := l) (i := i) (j := i) (e := l.getD (l.length - 1) default) (by omega)
        rw [if_pos rfl] at h1
        have h2 := getD_mem_kv (l := (l.set i (l.getD (l.length - 1) default)).dropLast) (j := i) (by rw [hlen]; omega)
        rw [h1] at h2
        rw [hk2]
        exact h2

end Go.Proofs.YtkdomegcacgpnaaGreat

