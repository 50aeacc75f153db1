/- goquery.getClassesAndAttr, of an element. -/
import Derived.Test.YtoleejaabiafcaaElement
import Derived.Test.YtoleejaabiafcaaClassTrim
import Derived.Test.YtoleejaabiafcaaCells
import Derived.Deep.QuietTactic
import Derived.BigQuiet
import Derived.IntWalk
namespace Go.Proofs.Ytoleejaabiafcaa
open Go.RowKit
set_option linter.unusedVariables false
set_option linter.unusedSimpArgs false

/-- The key. -/
def clsK : ByteArray := ⟨#[99, 108, 97, 115, 115]⟩

/-- The attributes with the class at a place, taken there if it was not. -/
def ClsAt (l l' : KVs) (k : Nat) (val : ByteArray) : Prop :=
  (l' = l ∧ k < l.length ∧ NoneBefore l clsK k ∧ (l.getD k default).1.toList = clsK.toList ∧ (l.getD k default).2 = val) ∨ (l' = l ++ [(clsK, ByteArray.empty)] ∧ k = l.length ∧ NoneBefore l clsK l.length ∧ val = ByteArray.empty)

def GcPost (g : Nat) (v : Value) (l : KVs) (w : World) (e : Ending) (w' : World) : Prop :=
  ∃ (c val : ByteArray) (gr k cap : Nat) (l' : KVs), e = .returned (.tuple #[.string c, .pointer (some ⟨gr, k * 3, none⟩)]) ∧ Hid (c.data.toList = (32 :: (val.data.toList ++ [32])).map trB) ∧ Hid (ClsAt l l' k val) ∧ k < l'.length ∧ Hid (World.nodeAt w' g (elemR (.slice (some ⟨gr, 0, none⟩) l'.length cap))) ∧ Hid (w'.ownsRow (g + 1) 123 3 (.slice (some ⟨gr, 0, none⟩) l'.length cap) l'.length (attrCells l')) ∧ Hid (Below g w w') ∧ Hid (∀ k, k < w.heap.size → k ≠ g → v.ownBlock ≠ some k → w'.heap[k]? = w.heap[k]?) ∧ w.heap.size ≤ w'.heap.size

theorem cat_list (a b : ByteArray) : (a ++ b).data.toList = a.data.toList ++ b.data.toList := by
  rw [ByteArray.data_append, Array.toList_append]

set_option maxRecDepth 100000 in
set_option maxHeartbeats 4000000 in
theorem getClasses_any (g : Nat) (v : Value) (l : KVs) (w : World) (hn : World.nodeAt w g (elemR v)) (ho : w.ownsRow (g + 1) 123 3 v l.length (attrCells l)) (hl : l.length ≤ 90) (hv : ∀ x ∈ l, x.2.size ≤ 10000) :
    Calls Try.prog 94 #[.pointer (some ⟨g, 0, none⟩)] w (GcPost g v l w) := by
  obtain ⟨i0, hi, hz0, hz1, hz2⟩ := info_parts Try.infoAttr
  obtain ⟨a, cap, gr, hvv, hm, ha, hc⟩ := attr_open ho
  have hgp := getPtr_any g gr cap a (elemR v) l clsK w hn hvv hm ha hc
  unfold clsK at hgp
  have HGP := Lib.hid hgp
  have HN := Lib.hid hn
  have HO := Lib.hid ho
  have HV := Lib.hid (And.intro hvv (And.intro ha hv))
  have HCC := Lib.hid hc
  have c5 := hn.ty
  rw [show (elemR v).ty = 3 from rfl] at c5
  have HC5 := Lib.hid c5
  clear hgp hn ho hvv ha hc hm hv
  go_enter Try.func94, Try.ntmps94
  go_wp2_with fail
  refine HGP.out.mono ?_
  rintro e w1 ⟨⟨rfl, hno⟩ | ⟨k, hk, rfl, hno, he⟩, hb1⟩
  · have n1 := nodeAt_below HN.out hb1.out
    have c9 := n1.attr
    have f9 := n1.free 9
    have o1 := ownsRow_kept HO.out (fun k hk => hb1.out.block k (World.ownsRow.lt HO.out k hk).2)
    have hlt1 := n1.lt
    obtain ⟨wa, hwa⟩ : ∃ wa, w1.alloc (.cells #[.string ⟨#[]⟩, .string ⟨#[99, 108, 97, 115, 115]⟩, .string ⟨#[]⟩] 123) = wa := ⟨_, rfl⟩
    have c9a : wa.cell? ⟨g, 9, none⟩ = some v := by rw [← hwa]; exact (World.cell?_alloc_lt w1 _ ⟨g, 9, none⟩ hlt1).trans c9
    have f9a : wa.frozen? ⟨g, 9, none⟩ = false := by rw [← hwa]; exact (World.frozen?_alloc_old w1 _ ⟨g, 9, none⟩ (Nat.ne_of_lt hlt1)).trans f9
    have hnews : ∀ j u, [Value.string ⟨#[]⟩, .string ⟨#[99, 108, 97, 115, 115]⟩, .string ⟨#[]⟩][j]? = some u → wa.cell? ((⟨w1.heap.size, 0, none⟩ : Addr).add j) = some u := by
      rw [← hwa]
      exact World.news_of_block (cs := #[.string ⟨#[]⟩, .string ⟨#[99, 108, 97, 115, 115]⟩, .string ⟨#[]⟩]) (t := 123) (fr := (0, 0)) (heap_alloc_new w1 _)
    have hownW : wa.ownsRow (g + 1) 123 3 v l.length (attrCells l) := by rw [← hwa]; exact World.ownsRow.alloc o1 _
    have hne : some g ≠ v.ownBlock := fun e => by have := (World.ownsRow.lt HO.out _ e.symm).1; omega
    have hna : World.nodeAt wa g (elemR v) := by rw [← hwa]; exact n1.alloc _
    have hba : Below g w wa := by rw [← hwa]; exact (hb1.out.mono (Nat.le_of_lt HN.out.lt)).alloc (Nat.le_of_lt hlt1) _
    have hka : ∀ k, k < w.heap.size → wa.heap[k]? = w.heap[k]? := fun k hk => by
      rw [← hwa]
      refine (((Below.refl w1.heap.size w1).alloc (Nat.le_refl _) _).block k (by have := hb1.out.size; omega)).trans ?_
      exact hb1.out.block k hk
    have hsa : w.heap.size ≤ wa.heap.size := by rw [← hwa]; have := hb1.out.size; simp; omega
    have HKA := Lib.hid (And.intro hka hsa)
    have HN1 := Lib.hid hna
    have HW := Lib.hid hownW
    have HNEWS := Lib.hid hnews
    have HNE := Lib.hid hne
    have HBA := Lib.hid hba
    have HNO := Lib.hid hno
    clear hno hb1 n1 o1 hnews hownW hne f9 hna hba hka hsa
    subst hwa
    go_wp2_with (at_builtin; refine wpList_append_lies _ rfl _ _ 111 rfl (g + 1) 123 i0 (.agg #[.string ByteArray.empty, .string ByteArray.empty, .string ByteArray.empty]) 3 48 Try.underlying111 hi hz0 hz1 hz2 rfl (by decide) v l.length (attrCells l) rfl HW.out ⟨w1.heap.size, 0, none⟩ 1 1 [.string ⟨#[]⟩, .string ⟨#[99, 108, 97, 115, 115]⟩, .string ⟨#[]⟩] rfl rfl HNEWS.out (by simp [Value.oneCell']) (by omega) (by unfold maxLen; omega) (by omega) (by simp; omega) _ rfl ?_)
    intro g2 cap2 w2 hown2 hgrow hat hlt2
    have hc9 : w2.cell? ⟨g, 9, none⟩ = some v := (hgrow.cell_far ⟨g, 9, none⟩ (by simp; omega) HNE.out).trans c9a
    have hf9 : w2.frozen? ⟨g, 9, none⟩ = false := (hgrow.frozen_far ⟨g, 9, none⟩ (by simp; omega) HNE.out).trans f9a
    have hst := attr_step (B := g) (r := elemR v) (Nat.le_refl _) HBA.out HN1.out HW.out hgrow hown2
    have e1 : attrCells l ++ [.string ⟨#[]⟩, .string ⟨#[99, 108, 97, 115, 115]⟩, .string ⟨#[]⟩] = attrCells (l ++ [(clsK, ByteArray.empty)]) := by rw [attrCells_snoc]; rfl
    rw [e1] at hst
    obtain ⟨n, hnn⟩ : ∃ n, l.length + 1 = n := ⟨_, rfl⟩
    rw [hnn] at hst ⊢
    obtain ⟨w3, hw3⟩ : ∃ w3, w2.setCell ⟨g, 9, none⟩ (.slice (some ⟨g2, 0, none⟩) n cap2) = w3 := ⟨_, rfl⟩
    rw [hw3] at hst
    have hk3 : ∀ k, k < w.heap.size → k ≠ g → v.ownBlock ≠ some k → w3.heap[k]? = w.heap[k]? := fun k hk hkg hkv => by
      rw [← hw3, heap_setCell_other _ _ _ _ hkg, hgrow.block k (by have := HKA.out.2; omega) (fun e => hkv e.symm)]
      exact HKA.out.1 k hk
    have hs3 : w.heap.size ≤ w3.heap.size := by
      rw [← hw3]; have := hgrow.size; have := HKA.out.2; simp; omega
    have HK3 := Lib.hid (And.intro hk3 hs3)
    clear hk3 hs3
    obtain ⟨k, hk⟩ : ∃ k, l.length = k := ⟨_, rfl⟩
    have hcc := attr_open (l := l ++ [(clsK, ByteArray.empty)]) (by rw [List.length_append]; rw [← hnn] at hst; exact hst.2.1)
    obtain ⟨a', cap', gr', hvv', hm', ha', hcc'⟩ := hcc
    have hla : 0 < (l ++ [(clsK, ByteArray.empty)]).length := by simp
    have hgg : gr' = g2 := by
      have h3 := ha' hla
      rw [h3] at hvv'
      simp at hvv'
      exact hvv'.1.symm
    rw [hgg] at hcc'
    have hc2 := (hcc' k (by simp; omega)).2.2
    have hget : ((l ++ [(clsK, ByteArray.empty)]).getD k default) = (clsK, ByteArray.empty) := by rw [← hk]; simp [List.getD_eq_getElem?_getD]
    rw [hget] at hc2
    have hnk : n = k + 1 := by omega
    have hw1 : IntKind.i64.wrap ((n : Int) - 1) = (k : Int) := by rw [hnk]; rw [IntWalk.i64_in _ (by omega)]; omega
    have hkI : (k : Int) < (n : Int) := by omega
    have hk0 : (0 : Int) ≤ (k : Int) := by omega
    have c9b := hst.1.attr
    have hclt : (w3.heap.size) = w3.heap.size := rfl
    have HST := Lib.hid hst
    have HK := Lib.hid (And.intro hk (And.intro hnn hnk))
    have HC2 := Lib.hid hc2
    have HHW := Lib.hid hw3
    clear hst hown2 hgrow hat hlt2 c9 c9a f9a e1 hcc' hvv' hm' ha' hla hgg hget hnk hk hnn hclt hw3 hc2
    go_wp2
    rw [HHW.out]
    go_quiet (fail)
    obtain ⟨wz, hwz⟩ : ∃ wz, w3.drewN nq = wz := ⟨_, rfl⟩
    have hbz : Below w3.heap.size w3 wz := by rw [← hwz]; exact below_drewN (Below.refl _ _) _
    have hc3 : wz.cell? ⟨g2, k * 3 + 2, none⟩ = some (.string ⟨#[]⟩) := cell_below hbz HC2.out
    rw [hwz]
    have HBZ := Lib.hid hbz
    clear hbz hwz c9b hw1 hc9 hf9
    go_wp2_with fail
    refine (classTrim_any _ _ (by decide)).mono ?_
    rintro e w4 ⟨r, rfl, hr, hb4⟩
    have HR := Lib.hid hr
    clear hr
    go_wp2
    go_ret2
    have hlen : (l ++ [(clsK, ByteArray.empty)]).length = n := by rw [List.length_append, ← HK.out.2.1]; rfl
    have hnz := nodeAt_below (nodeAt_below HST.out.1 (HBZ.out)) hb4.out
    have hoz := ownsRow_kept (ownsRow_kept HST.out.2.1 (fun j hj => HBZ.out.block j (World.ownsRow.lt HST.out.2.1 j hj).2)) (fun j hj => hb4.out.block j (by have := (World.ownsRow.lt HST.out.2.1 j hj).2; have := HBZ.out.size; omega))
    have hgs := HST.out.2.2.size
    have hgz := HBZ.out.size
    refine ⟨r, ByteArray.empty, g2, k, cap2, l ++ [(clsK, ByteArray.empty)], rfl, Lib.hid (by rw [HR.out]; rfl), Lib.hid (.inr ⟨rfl, HK.out.1.symm, HNO.out, rfl⟩), by rw [hlen, HK.out.2.2]; omega, ?_, ?_, ?_, ?_, ?_⟩
    · rw [hlen]; exact Lib.hid hnz
    · rw [hlen]; exact Lib.hid hoz
    · exact Lib.hid ((HST.out.2.2.trans (HBZ.out.mono (Nat.le_of_lt HST.out.1.lt))).trans (hb4.out.mono (by have := HST.out.1.lt; omega)))
    · refine Lib.hid fun j hj h1 h2 => ?_
      have := HK3.out.2
      rw [hb4.out.block j (by omega), HBZ.out.block j (by omega)]
      exact HK3.out.1 j hj h1 h2
    · have := HK3.out.2; have := hb4.out.size; omega
  · have n1 := nodeAt_below HN.out hb1.out
    have o1 := ownsRow_kept HO.out (fun k hk => hb1.out.block k (World.ownsRow.lt HO.out k hk).2)
    obtain rfl := HV.out.2.1 (by omega)
    have hv := HV.out.1
    have hval := HV.out.2.2 (l.getD k default) (by rw [List.getD_eq_getElem?_getD, List.getElem?_eq_getElem hk]; exact List.getElem_mem hk)
    have c2 := cell_below hb1.out (HCC.out k hk).2.2
    have HE := Lib.hid (show (l.getD k default).1.toList = clsK.toList by simpa [clsK] using he)
    obtain ⟨val, hvv⟩ : ∃ val, (l.getD k default).2 = val := ⟨_, rfl⟩
    rw [hvv] at c2 hval
    have HVV := Lib.hid hvv
    have HN1 := Lib.hid n1
    have HO1 := Lib.hid o1
    have HNO := Lib.hid hno
    have HB1 := Lib.hid hb1.out
    subst hv
    have z1 : ¬ 9223372036854775807 < (ByteArray.mk #[32]).size + val.size := by have : (ByteArray.mk #[32]).size = 1 := rfl; omega
    have z2 : ¬ 9223372036854775807 < ((ByteArray.mk #[32]) ++ val).size + (ByteArray.mk #[32]).size := by
      have : (ByteArray.mk #[32]).size = 1 := rfl
      rw [ByteArray.size_append]; omega
    clear hvv n1 o1 hno he hb1
    go_wp2_with fail
    refine (classTrim_any _ _ (by rw [ByteArray.size_append, ByteArray.size_append]; have : (ByteArray.mk #[32]).size = 1 := rfl; omega)).mono ?_
    rintro e w4 ⟨r, rfl, hr, hb4⟩
    have HR := Lib.hid hr
    clear hr
    go_wp2
    go_ret2
    refine ⟨r, val, gr, k, cap, l, rfl, Lib.hid ?_, Lib.hid (.inl ⟨rfl, hk, HNO.out, HE.out, HVV.out⟩), hk, Lib.hid ?_, Lib.hid ?_, Lib.hid ?_, Lib.hid (fun j hj _ _ => ?_), ?_⟩
    · rw [HR.out, cat_list, cat_list]; rfl
    · exact nodeAt_below HN1.out hb4.out
    · exact ownsRow_kept HO1.out (fun j hj => hb4.out.block j (World.ownsRow.lt HO1.out j hj).2)
    · exact (HB1.out.mono (Nat.le_of_lt HN.out.lt)).trans (hb4.out.mono (by have := HN1.out.lt; omega))
    · have := HB1.out.size
      rw [hb4.out.block j (by omega), HB1.out.block j hj]
    · have := HB1.out.size; have := hb4.out.size; omega

end Go.Proofs.Ytoleejaabiafcaa
