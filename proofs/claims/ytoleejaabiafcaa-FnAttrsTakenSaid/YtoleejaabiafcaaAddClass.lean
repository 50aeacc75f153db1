/- goquery: AddClass with names, at one element. -/
import Derived.Test.YtoleejaabiafcaaClsText
import Derived.Test.YtoleejaabiafcaaFields
namespace Go.Proofs.Ytoleejaabiafcaa
open Go.RowKit
set_option linter.unusedVariables false
set_option linter.unusedSimpArgs false

/-- The element behind a step of classes. -/
def ClsPost (s g : Nat) (l : KVs) (W : Wds) (m sz : Nat) (w : World) (e : Ending) (w' : World) : Prop :=
  ∃ v l2, e = .returned (.pointer (some ⟨s, 0, none⟩)) ∧ Hid (GoodC l2 W m sz) ∧ Hid (NearC l l2) ∧ Hid (World.nodeAt w' g (elemR v)) ∧ Hid (w'.ownsRow (g + 1) 123 3 v l2.length (attrCells l2)) ∧ Hid (Below g w w')

theorem take_name {ws : List ByteArray} {j : Nat} (h : j < ws.length) : (ws.map (·.data.toList)).take (j + 1) = (ws.map (·.data.toList)).take j ++ [(ws.getD j ByteArray.empty).data.toList] := by
  rw [List.take_add_one, List.getD_eq_getElem?_getD, List.getElem?_map, List.getElem?_eq_getElem h]
  rfl

theorem ne_of_words {r : ByteArray} {W : Wds} (h : wl r.data.toList = W) (h0 : W ≠ []) : r.toList.isEmpty = false := by
  cases hE : r.toList.isEmpty
  · rfl
  · rw [nil_of hE, wl_nil] at h
    exact absurd h.symm h0

set_option maxRecDepth 100000 in
set_option maxHeartbeats 1000000 in
theorem slice_any (s : ByteArray) (w : World) (hs : s.size ≤ 100000) (ha : ∀ i (h : i < s.size), (s[i]'h).toNat < 128 ∧ (s[i]'h).toNat ≠ 11) :
    Calls Try.prog 92 #[.string s] w (FieldsPost s w) := by
  have HF := Lib.hid (fields_any s w hs ha)
  clear ha
  go_enter Try.func92, Try.ntmps92
  go_wp2_with fail
  refine HF.out.mono ?_
  rintro e w1 ⟨v, ws, rfl, h1, h2, h3⟩
  go_wp2
  go_ret
  exact ⟨v, ws, rfl, h1, h2, h3⟩

set_option maxRecDepth 100000 in
set_option maxHeartbeats 4000000 in
theorem addClass_any (s q g : Nat) (v : Value) (l : KVs) (W0 : Wds) (m sz : Nat) (a : Option Addr) (xs : List ByteArray) (c : Nat) (w : World) (hs : w.cell? ⟨s, 0, none⟩ = some (.slice (some ⟨q, 0, none⟩) 1 1)) (hq : w.cell? ⟨q, 0, none⟩ = some (.pointer (some ⟨g, 0, none⟩)))
    (hn : World.nodeAt w g (elemR v)) (ho : w.ownsRow (g + 1) 123 3 v l.length (attrCells l)) (hg : GoodC l W0 m sz) (hm : m ≤ 50) (hsz : sz ≤ 5000) (hx : NamesAt w a xs c) :
    Calls Try.prog 68 #[.pointer (some ⟨s, 0, none⟩), .slice a xs.length c] w (ClsPost s g l (moreW W0 (xs.map (·.data.toList))) (m + 1) (sz + 400) w) := by
  have hJ := join_any a xs c w hx
  have HJ := Lib.hid hJ
  have HX := Lib.hid hx
  have HG := Lib.hid hg
  have HN := Lib.hid hn
  have HO := Lib.hid ho
  have hne : xs.map (·.data.toList) ≠ [] := fun e => by
    have h1 := hx.pos
    have h2 := congrArg List.length e
    simp at h2
    rw [h2] at h1
    simp at h1
  have HNE := Lib.hid hne
  clear hJ hx hg hn ho hne
  go_enter Try.func68, Try.ntmps68
  go_wp2_with fail
  refine HJ.out.mono ?_
  rintro e w1 ⟨r1, rfl, hr1, hb1, hz1, hbel1⟩
  have HT := Lib.hid (trim_any r1 w1 (by omega) (cls_at hb1.out))
  go_wp2_with fail
  refine HT.out.mono ?_
  rintro e w2 ⟨r2, rfl, hr2, hz2, hbel2⟩
  have hw2 : wl r2.data.toList = xs.map (·.data.toList) := by rw [hr2, wl_bare]; exact hr1.out
  have hc2 : ∀ b ∈ r2.data.toList, clsB b := fun b hb => by rw [hr2] at hb; exact hb1.out b (bare_sub hb)
  have gE : r2.toList.isEmpty = false := ne_of_words hw2 HNE.out
  have hF := slice_any r2 w2 (by omega) (cls_at hc2)
  have HF := Lib.hid hF
  have HB2 := Lib.hid (hbel1.out.trans (hbel2.mono hbel1.out.size))
  have HW2 := Lib.hid hw2
  clear hw2 hc2 hF HT hr2 hbel2 hbel1 hr1 hb1 HJ
  go_wp2_with fail
  refine HF.out.mono ?_
  rintro e w3 ⟨tv, ws, rfl, how, hws, hbel3⟩
  have hwsx : ws.map (·.data.toList) = xs.map (·.data.toList) := by rw [hws.out, HW2.out]
  have hs3 := cell_below (hbel3.out.mono (Nat.le_refl _)) (cell_below HB2.out hs)
  have hq3 := cell_below hbel3.out (cell_below HB2.out hq)
  have hown3 := how.out
  obtain ⟨ta, tc, rfl, htc, htcells⟩ := how.out.open
  have htb : ∀ b off, ta = some ⟨b, off, none⟩ → w2.heap.size ≤ b ∧ b < w3.heap.size := fun b off e => by
    subst e
    exact World.ownsRow.lt hown3 b rfl
  have hlx : ws.length = xs.length := by have := congrArg List.length hwsx; simpa using this
  have hb3 : Below g w w3 := (HB2.out.trans (hbel3.out.mono HB2.out.size)).mono (Nat.le_of_lt HN.out.lt)
  have hn3 := nodeAt_below (nodeAt_below HN.out HB2.out) hbel3.out
  have ho3 := ownsRow_kept (ownsRow_kept HO.out (fun j hj => HB2.out.block j (World.ownsRow.lt HO.out j hj).2)) (fun j hj => hbel3.out.block j (by have := (World.ownsRow.lt HO.out j hj).2; have := HB2.out.size; omega))
  have hvb : ∀ j, v.ownBlock = some j → j < w2.heap.size := fun j hj => by have := (World.ownsRow.lt HO.out j hj).2; have := HB2.out.size; omega
  have hg2 : g < w2.heap.size := by have := HN.out.lt; have := HB2.out.size; omega
  have HTC := Lib.hid (And.intro htcells htb)
  have HWX := Lib.hid (And.intro hwsx hlx)
  have HB3 := Lib.hid hb3
  have HN3 := Lib.hid hn3
  have HO3 := Lib.hid ho3
  have HVB := Lib.hid (And.intro hvb hg2)
  have hgc := getClasses_any g v l w3 hn3 ho3 (by have := HG.out.len; omega) (fun x hx => by have := (HG.out.size x hx).2; omega)
  have HGC := Lib.hid hgc
  have hf8 := HX.out.few
  have hle8 : ws.length ≤ 8 := by omega
  clear how hws hbel3 hown3 htcells htb hwsx hlx hb3 hn3 ho3 hvb hg2 hgc HB2 HW2 HF hs hq htc hf8
  go_wp2
  go_loopw [26] (fun i wr => (i = .int .i64 0 ∧ wr = w3) ∨ (i = .int .i64 1 ∧ ∃ v' l2, Hid (GoodC l2 (moreW W0 (xs.map (·.data.toList))) (m + 1) (sz + 400)) ∧ Hid (NearC l l2) ∧ Hid (World.nodeAt wr g (elemR v')) ∧ Hid (wr.ownsRow (g + 1) 123 3 v' l2.length (attrCells l2)) ∧ Hid (Below g w wr))) (fun i _ => 1 - (intOf i).toNat)
  case atStart => exact .inl ⟨rfl, rfl⟩
  case round =>
    rcases hrel with ⟨rfl, rfl⟩ | ⟨rfl, v', l2, h1, h2, h3, h4, h5⟩
    · go_wp2_with fail
      refine HGC.out.mono ?_
      rintro e w4 ⟨cc, val, gr, k, cap, l1, rfl, hcc, hat, hkl, hn4, ho4, hb4, hk4, hs4⟩
      have hcl0 : Cls cc.data.toList W0 (sz + 2) := by
        rw [hcc.out]
        have hv := at_val hat.out
        have h1 := HG.out.asc
        have h2 := HG.out.words
        rw [hv] at h1 h2
        rw [← h2]
        refine cls_start h1 ?_
        rcases hat.out with ⟨rfl, hk, _, _, hvv⟩ | ⟨_, _, _, hvv⟩
        · have := (HG.out.size _ (getD_mem_kv hk)).2
          rw [hvv, size_list] at this
          omega
        · rw [hvv]; show 0 + 2 ≤ _; omega
      have htc4 : ∀ j, j < ws.length → ∃ b off, ta = some ⟨b, off, none⟩ ∧ w4.cell? ⟨b, off + j, none⟩ = some (.string (ws.getD j ByteArray.empty)) := fun j hj => by
        obtain ⟨b, off, rfl, hc⟩ := HTC.out.1.2 (by omega)
        obtain ⟨h1, h2⟩ := HTC.out.2 b off rfl
        have h3 := HVB.out.2
        exact ⟨b, off, rfl, (World.cell?_of_block (hk4.out b h2 (by omega) (fun e => by have := HVB.out.1 b e; omega))).trans (hc j hj)⟩
      have HCL := Lib.hid hcl0
      have HT4 := Lib.hid htc4
      have HAT := Lib.hid (And.intro hat.out hkl)
      have HNO := Lib.hid (And.intro hn4.out (And.intro ho4.out hb4.out))
      clear hcl0 htc4 hcc hat hk4 hkl hn4 ho4 hb4 hs4 HGC HN3 HO3 HTC
      go_wp2
      go_loopw [9, 37] (fun cv iv wr => ∃ (cur : ByteArray) (j : Nat), cv = .string cur ∧ iv = .int .i64 (j : Int) ∧ j ≤ ws.length ∧ wr = w4 ∧ Hid (Cls cur.data.toList (moreW W0 ((xs.map (·.data.toList)).take j)) (sz + 2 + 41 * j))) (fun _ iv _ => ws.length - (intOf iv).toNat)
      case atStart => exact ⟨cc, 0, rfl, by go_num, by omega, rfl, Lib.hid (by have := HCL.out; unfold moreW; simpa using this)⟩
      case round =>
        obtain ⟨cur, j, rfl, rfl, hj, rfl, hcur⟩ := hrel
        by_cases hlt : j < ws.length
        · obtain ⟨b, off, hab, hcell⟩ := HT4.out j hlt
          have hname : (xs.map (·.data.toList)).take (j + 1) = (xs.map (·.data.toList)).take j ++ [(ws.getD j ByteArray.empty).data.toList] := by
            rw [← HWX.out.1]
            exact take_name hlt
          have hok : NameOk (ws.getD j ByteArray.empty).data.toList := by
            have hm : (ws.getD j ByteArray.empty).data.toList ∈ xs.map (·.data.toList) := by
              rw [← HWX.out.1]
              refine List.mem_map.2 ⟨ws.getD j ByteArray.empty, ?_, rfl⟩
              rw [List.getD_eq_getElem?_getD, List.getElem?_eq_getElem hlt]
              exact List.getElem_mem hlt
            obtain ⟨y, hy, he⟩ := List.mem_map.1 hm
            rw [← he]
            exact HX.out.ok y hy
          have hnot : (ws.getD j ByteArray.empty).data.toList ∉ (xs.map (·.data.toList)).take j := by
            have h1 := HX.out.nodup
            have h2 : ((xs.map (·.data.toList)).take (j + 1)).Nodup := h1.sublist (List.take_sublist _ _)
            rw [hname, List.nodup_append] at h2
            exact fun hm => h2.2.2 _ hm _ (by simp) rfl
          obtain ⟨x, hx⟩ : ∃ x, ws.getD j ByteArray.empty = x := ⟨_, rfl⟩
          rw [hx] at hcell hname hok hnot
          have hxs : x.size ≤ 40 := by rw [size_list]; exact hok.len
          have hcs : cur.size ≤ sz + 2 + 41 * j := by rw [size_list]; exact hcur.out.len
          have hcon := goContains_any cur ((ByteArray.mk #[32]) ++ x ++ (ByteArray.mk #[32])) wr (by omega) (by rw [ByteArray.size_append, ByteArray.size_append]; have : (ByteArray.mk #[32]).size = 1 := rfl; omega)
          have hpl : ((ByteArray.mk #[32]) ++ x ++ (ByteArray.mk #[32])).data.toList = 32 :: (x.data.toList ++ [32]) := by rw [cat_list, cat_list]; rfl
          have z1 : ¬ 9223372036854775807 < (ByteArray.mk #[32]).size + x.size := by have : (ByteArray.mk #[32]).size = 1 := rfl; omega
          have z2 : ¬ 9223372036854775807 < ((ByteArray.mk #[32]) ++ x).size + (ByteArray.mk #[32]).size := by
            have : (ByteArray.mk #[32]).size = 1 := rfl
            rw [ByteArray.size_append]; omega
          have z3 : ¬ 9223372036854775807 < x.size + (ByteArray.mk #[32]).size := by have : (ByteArray.mk #[32]).size = 1 := rfl; omega
          have z4 : ¬ 9223372036854775807 < cur.size + (x ++ (ByteArray.mk #[32])).size := by
            have : (ByteArray.mk #[32]).size = 1 := rfl
            rw [ByteArray.size_append]; omega
          have hin := hcur.out.in_ hok
          have hmo := more_snoc W0 _ _ hnot
          rw [← hname] at hmo
          have hmm := hcur.out.more hok
          have HCON := Lib.hid hcon
          have HPL := Lib.hid hpl
          have HMM := Lib.hid (And.intro hin (And.intro hmo hmm))
          have hjI : (j : Int) < (ws.length : Int) := by omega
          subst hab
          clear hx hname hok hnot hxs hcs hcon hpl hin hmo hmm
          go_wp2_with fail
          refine HCON.out.mono ?_
          rintro e w5 ⟨bb, rfl, hbb, rfl⟩
          rw [HPL.out] at hbb
          have HBB := Lib.hid hbb
          clear hbb
          cases bb
          · have hno : x.data.toList ∉ moreW W0 ((xs.map (·.data.toList)).take j) := fun hm => by
              have := HBB.out.2 (HMM.out.1.2 hm)
              cases this
            have hnx := HMM.out.2.1.2 hno
            have HNX := Lib.hid (show Cls (cur ++ (x ++ (ByteArray.mk #[32]))).data.toList (moreW W0 ((xs.map (·.data.toList)).take (j + 1))) (sz + 2 + 41 * (j + 1)) by
              have h1 := HMM.out.2.2
              rw [cat_list, cat_list, hnx]
              have e1 : sz + 2 + 41 * (j + 1) = sz + 2 + 41 * j + 41 := by omega
              rw [e1]
              exact h1)
            clear hno hnx hcell
            go_wp2
            go_roundw
            case rel => exact ⟨_, j + 1, rfl, by go_num, by omega, (by first | rfl | trivial), HNX⟩
            case measure => simp [intOf]; omega
          · have hyes : x.data.toList ∈ moreW W0 ((xs.map (·.data.toList)).take j) := HMM.out.1.1 (HBB.out.1 rfl)
            have hnx := HMM.out.2.1.1 hyes
            have HNX := Lib.hid (show Cls cur.data.toList (moreW W0 ((xs.map (·.data.toList)).take (j + 1))) (sz + 2 + 41 * (j + 1)) by
              rw [hnx]
              exact ⟨hcur.out.pad, hcur.out.words, hcur.out.asc, by have := hcur.out.len; omega⟩)
            clear hyes hnx hcell
            go_wp2
            go_roundw
            case rel => exact ⟨cur, j + 1, rfl, by go_num, by omega, (by first | rfl | trivial), HNX⟩
            case measure => simp [intOf]; omega
        · obtain rfl : j = ws.length := by omega
          have hfull : (xs.map (·.data.toList)).take ws.length = xs.map (·.data.toList) := List.take_of_length_le (by simp; have := HWX.out.2; omega)
          have hc9 := hcur.out
          rw [hfull] at hc9
          have hl1 : l1.length ≤ 100 := by
            have := HG.out.len
            rcases HAT.out.1 with ⟨rfl, _⟩ | ⟨rfl, _⟩
            · omega
            · simp; omega
          have hsc := setClasses_any g gr k cap l1 cur wr HNO.out.1 HNO.out.2.1 HAT.out.2 hl1 (by rw [size_list]; have := hc9.len; omega) (cls_at hc9.asc)
          have HSC := Lib.hid hsc
          have HC9 := Lib.hid hc9
          clear hfull hc9 hl1 hsc hcur hlt HT4
          go_wp2_with fail
          refine HSC.out.mono ?_
          rintro e w6 ⟨v', l2, rfl, hst, hn6, ho6, hb6⟩
          have hgood := sets_good (⟨HG.out.dist, HG.out.words, HG.out.nodup, HG.out.asc, HG.out.len, fun x hx => ⟨(HG.out.size x hx).1, by have := (HG.out.size x hx).2; omega⟩⟩ : GoodC l W0 m (sz + 400)) HAT.out.1 HC9.out (more_nodup HG.out.nodup HX.out.nodup) hst.out (by omega)
          have HGOOD := Lib.hid hgood
          have HB6 := Lib.hid ((HB3.out.trans HNO.out.2.2).trans hb6.out)
          clear hgood hst hb6 HSC
          go_wp2
          go_roundw
          case rel => exact .inr ⟨by go_num, v', l2, Lib.hid HGOOD.out.1, Lib.hid HGOOD.out.2, hn6, ho6, HB6⟩
          case measure => simp [intOf]
    · clear HGC HN3 HO3 HTC
      go_wp2
      go_ret
      exact ⟨v', l2, rfl, h1, h2, h3, h4, h5⟩

end Go.Proofs.Ytoleejaabiafcaa
