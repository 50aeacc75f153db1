/- html.render1 at any node of a plain document, into a strings.Builder. -/
import Derived.Test.YtphppdbhofeagaaDoorRenderLem
import Derived.Deep.RegionHeld3
namespace Go.Proofs.YtphppdbhofeagaaDoor
open Go.RowKit
set_option linter.unusedVariables false
set_option linter.unusedSimpArgs false

/-- What the cells of an element's node hold, as the walk wants them. -/
structure ElAt (w : World) (g : Nat) (tag : ByteArray) (fst : Option Nat) (a : Option Addr) (al cap : Nat) : Prop where
  ty : w.cell? ⟨g, 5, none⟩ = some (.int .u32 3)
  data : w.cell? ⟨g, 7, none⟩ = some (.string tag)
  fst : w.cell? ⟨g, 1, none⟩ = some (lk fst)
  attr : w.cell? ⟨g, 9, none⟩ = some (.slice a al cap)

set_option maxRecDepth 100000 in
set_option maxHeartbeats 32000000 in
theorem render1_any {B' : Nat} {W : World} {bl len : Nat} {nb : Nat → Nat} {vv : Nat → Value} {ts : List NodeD} (hF : Forest B' W bl len nb vv ts) (hR : RightT ts len) (hV : VoidAt W) (hP : ∀ i, 4 ≤ i → i < len → PlainNode (ts.getD i default)) (b : Nat) : ∀ (m x : Nat) (l : List UInt8) (w : World), x < len → 4 ≤ x → sz ts x ≤ m → Below W.heap.size W w →
    IsB W.heap.size b l w → l.length + sz ts x * 600000 ≤ 50000000000 →
    Calls Tryd.prog 56 #[wtr b, .pointer (some ⟨nb x, 0, none⟩)] w (Wrote W.heap.size b (l ++ rend ts x) w) := by
  intro m
  induction m with
  | zero => intro x l w hx h4 hm; have := (hR.sizes x hx).1; omega
  | succ m ih =>
    intro x l w hx h4 hm hb hbuf hlim
    have hsmall := fun i h1 h2 => small_node hR h2 (hP i h1 h2)
    rcases hP x h4 hx with ⟨hk, hpl⟩ | hk | ⟨hk, hlet⟩
    rotate_left
    · exact renderText_any hF hR b x l w hx hb hbuf hk (hR.text_le hx) (by omega)
    · exact renderComment_any hF hR b x l w hx hb hbuf hk hlet (hR.text_le hx) (by omega)
    have hsm := hsmall x h4 hx
    have hr := rend_el hR.nest hx hk
    have hpos := (hR.sizes x hx).1
    have hnest := hR.nest
    obtain ⟨aa, acap, ag, hva, hal, hag, hac⟩ := attr_open (hF.seg.own x (Nat.zero_le _) hx)
    have hdat : dataOf (ts.getD x default) = (ts.getD x default).tag := by unfold dataOf; rw [if_neg (by omega), if_pos hk]
    have hel : ∀ w', Below W.heap.size W w' → ElAt w' (nb x) (ts.getD x default).tag ((kidTo (sz ts) x (x + 1)).map nb) aa (ts.getD x default).attrs.length acap := fun w' hw => by
      have hn := (hF.below hw).node hx
      have c5 := hn.ty
      have c7 := hn.data
      have c1 := hn.fst
      have c9 := hn.attr
      simp only [nodeR] at c5 c7 c1 c9
      rw [hk] at c5
      rw [hdat] at c7
      rw [hva] at c9
      exact ⟨c5, c7, c1, c9⟩
    have hlit := fun (w' : World) (hw : Below W.heap.size W w') => childLit_any (nb x) _ w' ((hF.below hw).node hx) rfl (by show Plainish (dataOf _); rw [hdat]; exact hpl)
    have hattr : ∀ k, k < (ts.getD x default).attrs.length → ∀ w', Below W.heap.size W w' → aa = some ⟨ag, 0, none⟩ ∧ w'.cell? ⟨ag, k * 3, none⟩ = some (.string ByteArray.empty) ∧ w'.cell? ⟨ag, k * 3 + 1, none⟩ = some (.string ((ts.getD x default).attrs.getD k default).1) ∧ w'.cell? ⟨ag, k * 3 + 2, none⟩ = some (.string ((ts.getD x default).attrs.getD k default).2) := fun k hk' w' hw =>
      ⟨hag (by omega), cell_below hw (hac k hk').1, cell_below hw (hac k hk').2.1, cell_below hw (hac k hk').2.2⟩
    have hkid : ∀ j, x + 1 ≤ j → j < x + sz ts x → par (sz ts) j = some x → ∀ w', Below W.heap.size W w' → w'.cell? ⟨nb j, 4, none⟩ = some (lk ((kidTo (sz ts) x (j + sz ts j)).map nb)) ∧ w'.cell? ⟨nb j, 5, none⟩ = some (.int .u32 (tyOf (ts.getD j default).kind)) ∧ w'.cell? ⟨nb j, 7, none⟩ = some (.string (dataOf (ts.getD j default))) := fun j h1 h2 hp w' hw => by
      have hfit := hnest.fit x hx
      have hn := (hF.below hw).node (show j < len by omega)
      have c4 := hn.nxt
      have c5 := hn.ty
      have c7 := hn.data
      simp only [nodeR] at c4 c5 c7
      rw [nxt_kidTo hp] at c4
      exact ⟨c4, c5, c7⟩
    obtain ⟨bm, hv1, hv2⟩ := hV
    have hvoid : ∀ w', Below W.heap.size W w' → w'.cell? ⟨3, 0, none⟩ = some (.map (some bm)) ∧ (Instr.lookup 117 (.map (some bm)) (.string (ts.getD x default).tag) false).run Tryd.prog w' = .ok (.bool false) w' := fun w' hw => ⟨cell_below hw hv1, hv2 w' hw _ hpl⟩
    have hmS := mtdStr b
    have hnS := nilStr b
    have hmB := mtdByte b
    have hnB := nilByte b
    have hfit := hnest.fit x hx
    have hW0 : W.heap.size ≤ w.heap.size := hb.size
    have hop := openB_length hsm hk
    have hkl : ∀ j, x < j → j < x + sz ts x → (rend ts j).length ≤ sz ts j * 600000 := fun j h1 h2 => rend_length hnest (fun i h1 h2 => hsmall i h1 h2) (by omega) (by omega)
    have hts := hsm.tag hk
    have hmany := hsm.many
    have hatt := hsm.attrs
    have hall : ∀ k, (attsB ((ts.getD x default).attrs.take k)).length ≤ 20 * 24004 := attsB_take_length hsm
    have hopen : openB (ts.getD x default) = [60] ++ (ts.getD x default).tag.data.toList ++ attsB (ts.getD x default).attrs ++ [62] := rfl
    have hclose : closeB (ts.getD x default) = [60, 47] ++ (ts.getD x default).tag.data.toList ++ [62] := rfl
    rw [hr, hopen, hclose]
    have HIH := Lib.hid (fun (y : Nat) (l' : List UInt8) (w' : World) (hy : y < len) (hy0 : 4 ≤ y) (hym : sz ts y ≤ m) => ih y l' w' hy hy0 hym)
    have HNEST := Lib.hid hnest
    have HKID := Lib.hid hkid
    have HKL := Lib.hid hkl
    have HPOS := Lib.hid hpos
    have hkinds := fun j h1 h2 => hP j h1 h2
    have HKINDS := Lib.hid hkinds
    have htext : ∀ j, x < j → j < x + sz ts x → (ts.getD j default).text.size ≤ 4000 := fun j h1 h2 => hR.text_le (by omega)
    have HTEXT := Lib.hid htext
    clear hF hR hP hsmall hdat hag hac hv1 hv2 hr hopen hclose hsm hkid ih hnest hkl hkinds htext hop hk
    obtain ⟨tag, htag⟩ : ∃ tag, (ts.getD x default).tag = tag := ⟨_, rfl⟩
    obtain ⟨at', hat'⟩ : ∃ at', (ts.getD x default).attrs = at' := ⟨_, rfl⟩
    rw [htag] at hel hvoid hpl hts
    rw [hat'] at hel hattr hatt hall hmany
    rw [htag, hat']
    have hpre := plainish_ne hpl [112, 114, 101] (by decide)
    have hlis := plainish_ne hpl [108, 105, 115, 116, 105, 110, 103] (by decide)
    have htxa := plainish_ne hpl [116, 101, 120, 116, 97, 114, 101, 97] (by decide)
    have htl : tag.data.toList.length = tag.size := by rw [Array.length_toList]; rfl
    have HEL := Lib.hid hel
    have HLIT := Lib.hid hlit
    have HATT := Lib.hid hattr
    have HVOID := Lib.hid hvoid
    have HSZ := Lib.hid hatt
    have HALL := Lib.hid hall
    have HB := Lib.hid hb
    have HBUF := Lib.hid hbuf
    have HTL := Lib.hid htl
    have hl1 : l.length ≤ 50000000000 := by omega
    clear hel hlit hattr hvoid hatt hall hb hbuf htag hat' hva hpl htl
    obtain ⟨lfin, hlfin⟩ : ∃ lfin, l ++ ([60] ++ tag.data.toList ++ attsB at' ++ [62] ++ inner ts x ++ ([60, 47] ++ tag.data.toList ++ [62])) = lfin := ⟨_, rfl⟩
    rw [hlfin]
    have HFIN := Lib.hid hlfin
    clear hlfin
    have e1 := HEL.out w HB.out
    have c5 := e1.ty
    clear e1
    go_enter Tryd.func56, Tryd.ntmps56
    go_wp2_with fail
    refine (putB W.heap.size b l 60 60 rfl w HBUF.out (by omega) hW0).mono ?_
    rintro e w2 ⟨rfl, ⟨hb2, hbl2⟩, _⟩
    have HB2 := Lib.hid (And.intro hb2 hbl2)
    have c7 := (HEL.out w2 (HB.out.trans hbl2)).data
    have HS2 := Lib.hid fun (w' : World) (hd : Below w2.heap.size w2 w') => putS W.heap.size b (l ++ [60]) tag w' (HB2.out.1.below hd) (by rw [List.length_append]; show l.length + 1 ≤ _; omega) (by omega) (Nat.le_trans (Nat.le_trans hW0 HB2.out.2.size) hd.size)
    clear hb2 hbl2 HBUF c5
    go_wp2_with fail
    have hbd : Below W.heap.size W w2.drew := (HB.out.trans HB2.out.2).trans (Below.refl _ _).drew
    have c7d : w2.drew.cell? ⟨nb x, 7, none⟩ = some (.string tag) := c7
    go_region_held3 (fun w' => w'.cell? ⟨nb x, 7, none⟩ = some (.string tag)) (first | exact (HEL.out _ (hbd.trans hbl3)).data | exact c7d) (first | (go_at_call 91; refine (HS2.out _ (Below.refl _ _).drew).mono ?_; rintro e w3 ⟨rfl, ⟨hb3, hbl3⟩, _⟩))
    have hbw3 : Below W.heap.size w w3 := HB2.out.2.trans ((Below.refl _ w2).drew.trans hbl3)
    have c9 := (HEL.out w3 (HB.out.trans hbw3)).attr
    obtain ⟨l3, hl3⟩ : ∃ l3, l ++ [60] ++ tag.data.toList = l3 := ⟨_, rfl⟩
    have hl3l : l3.length ≤ l.length + 1001 := by
      have := HTL.out
      rw [← hl3, List.length_append, List.length_append]
      simp only [List.length_cons, List.length_nil]
      omega
    rw [hl3] at hb3
    have HL3 := Lib.hid hl3
    have HB3 := Lib.hid (And.intro hb3 hbw3)
    clear hl3 hb3 hbl3 hbw3 HB2 HS2 c7
    go_wp2
    go_loopw [253] (fun iv wr => ∃ k : Nat, k ≤ at'.length ∧ iv = .int .i64 (k : Int) ∧ Hid (IsB W.heap.size b (l3 ++ attsB (at'.take k)) wr) ∧ Hid (Below W.heap.size w wr)) (fun iv _ => at'.length - (intOf iv).toNat)
    case atStart => exact ⟨0, by omega, by go_num, Lib.hid (by simpa [attsB] using HB3.out.1), Lib.hid HB3.out.2⟩
    case round =>
      obtain ⟨k, hk, rfl, HBK, HWK⟩ := hrel
      clear c9
      by_cases hlt : k < at'.length
      · have hkI : (k : Int) < (at'.length : Int) := by omega
        obtain ⟨rfl, d0, d1, d2⟩ := HATT.out k hlt wr (HB.out.trans HWK.out)
        have hmem : at'.getD k default ∈ at' := by rw [List.getD_eq_getElem?_getD, List.getElem?_eq_getElem hlt]; exact List.getElem_mem hlt
        obtain ⟨m1, m2⟩ := HSZ.out _ hmem
        have hstep := attsB_step hlt
        have hak := HALL.out k
        simp only [attB] at hstep
        obtain ⟨key, hkey⟩ : ∃ y, (at'.getD k default).1 = y := ⟨_, rfl⟩
        obtain ⟨val, hval⟩ : ∃ y, (at'.getD k default).2 = y := ⟨_, rfl⟩
        rw [hkey] at d1 m1 hstep
        rw [hval] at d2 m2 hstep
        obtain ⟨lk0, hlk0⟩ : ∃ lk0, l3 ++ attsB (at'.take k) = lk0 := ⟨_, rfl⟩
        have hlkl : lk0.length ≤ 50001000000 := by rw [← hlk0, List.length_append]; omega
        rw [hlk0] at HBK
        have hnext : l3 ++ attsB (at'.take (k + 1)) = lk0 ++ [32] ++ key.data.toList ++ [61, 34] ++ escL val.data.toList ++ [34] := by rw [hstep, ← hlk0]; simp only [List.append_assoc]
        have HNX := Lib.hid hnext
        clear hmem hstep hkey hval hlk0 hnext hak
        have kl : key.data.toList.length = key.size := by rw [Array.length_toList]; rfl
        have vl := escL_length val.data.toList
        have vl2 : val.data.toList.length = val.size := by rw [Array.length_toList]; rfl
        have HKL := Lib.hid (And.intro kl (And.intro vl vl2))
        clear kl vl vl2
        obtain ⟨nw, hnw⟩ : ∃ nw, wr.alloc (.cells #[.string ByteArray.empty, .string key, .string val] 109) = nw := ⟨_, rfl⟩
        have hqh : nw.heap[wr.heap.size]? = some (.cells #[.string ByteArray.empty, .string key, .string val] 109 (0, 0)) := by rw [← hnw]; exact heap_alloc_new _ _
        have hnb : Below wr.heap.size wr nw := by rw [← hnw]; exact (Below.refl _ _).alloc (Nat.le_refl _) _
        have hqb : wr.heap.size ≠ b := by have := isB_lt HBK.out; omega
        have hBn := HBK.out.below hnb
        have hWn : Below W.heap.size w nw := HWK.out.trans (hnb.mono (Nat.le_trans hW0 HWK.out.size))
        obtain ⟨q, hq⟩ : ∃ q, wr.heap.size = q := ⟨_, rfl⟩
        have hP1 := putB W.heap.size b lk0 32 32 rfl nw hBn (by omega) (Nat.le_trans hW0 hWn.size)
        have HP1 := Lib.hid hP1
        have HQ := Lib.hid (And.intro hqh (And.intro hqb hWn))
        clear hqh hnb hBn hWn hP1 HBK hqb
        rw [hq] at HQ
        go_wp2_with fail
        refine HP1.out.mono ?_
        rintro e w4 ⟨rfl, ⟨hb4, hbl4⟩, ho4⟩
        have hqh4 := ho4 _ _ _ _ HQ.out.2.1 (by decide) HQ.out.1
        have f0 : w4.cell? ⟨q, 0, none⟩ = some (.string ByteArray.empty) := by rw [Lib.cell_of_heap hqh4]; rfl
        have f1 : w4.cell? ⟨q, 1, none⟩ = some (.string key) := by rw [Lib.cell_of_heap hqh4]; rfl
        have hP2 := putS W.heap.size b (lk0 ++ [32]) key w4 hb4 (by rw [List.length_append]; show lk0.length + 1 ≤ _; omega) (by omega) (Nat.le_trans hW0 (HQ.out.2.2.trans hbl4).size)
        have HP2 := Lib.hid hP2
        have HQ4 := Lib.hid (And.intro hqh4 (HQ.out.2.2.trans hbl4))
        clear hqh4 hP2 hb4 hbl4 ho4 HP1
        go_wp2_with fail
        refine HP2.out.mono ?_
        rintro e w5 ⟨rfl, ⟨hb5, hbl5⟩, ho5⟩
        have hqh5 := ho5 _ _ _ _ HQ.out.2.1 (by decide) HQ4.out.1
        have hP3 := putS W.heap.size b (lk0 ++ [32] ++ key.data.toList) ⟨#[61, 34]⟩ w5 hb5 (by rw [List.length_append, List.length_append, HKL.out.1]; show lk0.length + 1 + key.size ≤ _; omega) (by decide) (Nat.le_trans hW0 (HQ4.out.2.trans hbl5).size)
        have HP3 := Lib.hid hP3
        have HQ5 := Lib.hid (And.intro hqh5 (HQ4.out.2.trans hbl5))
        clear hqh5 hP3 hb5 hbl5 ho5 HP2 HQ4 f0 f1
        go_wp2_with fail
        refine HP3.out.mono ?_
        rintro e w6 ⟨rfl, ⟨hb6, hbl6⟩, ho6⟩
        have hqh6 := ho6 _ _ _ _ HQ.out.2.1 (by decide) HQ5.out.1
        have f2 : w6.cell? ⟨q, 2, none⟩ = some (.string val) := by rw [Lib.cell_of_heap hqh6]; rfl
        have hP4 := escape_any W.heap.size b (lk0 ++ [32] ++ key.data.toList ++ [61, 34]) val w6 hb6 (by omega) (by rw [List.length_append, List.length_append, List.length_append, HKL.out.1]; show lk0.length + 1 + key.size + 2 ≤ _; omega) (Nat.le_trans hW0 (HQ5.out.2.trans hbl6).size)
        have HP4 := Lib.hid hP4
        have HQ6 := Lib.hid (HQ5.out.2.trans hbl6)
        clear hqh6 hP4 hb6 hbl6 ho6 HP3 HQ5 HQ
        go_wp2_with fail
        refine HP4.out.mono ?_
        rintro e w7 ⟨rfl, hb7, hbl7⟩
        have hP5 := putB W.heap.size b (lk0 ++ [32] ++ key.data.toList ++ [61, 34] ++ escL val.data.toList) 34 34 rfl w7 hb7 (by have := HKL.out.2; rw [List.length_append, List.length_append, List.length_append, List.length_append, HKL.out.1]; show lk0.length + 1 + key.size + 2 + _ ≤ _; omega) (Nat.le_trans hW0 (HQ6.out.trans hbl7).size)
        have HP5 := Lib.hid hP5
        have HQ7 := Lib.hid (HQ6.out.trans hbl7)
        clear hP5 hb7 hbl7 HP4 HQ6 f2
        go_wp2_with fail
        refine HP5.out.mono ?_
        rintro e w8 ⟨rfl, ⟨hb8, hbl8⟩, _⟩
        have HP8 := Lib.hid hb8
        have HQ8 := Lib.hid (HQ7.out.trans hbl8)
        clear hb8 hbl8 HP5 HQ7
        go_wp2
        refine ⟨?rel, ?measure⟩
        case rel => exact ⟨k + 1, by omega, by go_num, Lib.hid (by rw [HNX.out]; exact HP8.out), HQ8⟩
        case measure => simp [intOf]; omega
      · obtain rfl : k = at'.length := by omega
        clear hlt
        have hWk := HB.out.trans HWK.out
        obtain ⟨v1, v2⟩ := HVOID.out wr hWk
        obtain ⟨v3, v4⟩ := HVOID.out wr.drew (hWk.trans (Below.refl _ _).drew)
        have c7 := (HEL.out wr hWk).data
        obtain ⟨l4, hl4⟩ : ∃ l4, l3 ++ attsB at' = l4 := ⟨_, rfl⟩
        have hl4l : l4.length ≤ l.length + 490000 := by
          have := HALL.out at'.length
          rw [List.take_length] at this
          rw [← hl4, List.length_append]
          omega
        have hB4 := HBK.out
        rw [List.take_length, hl4] at hB4
        have HL4 := Lib.hid hl4
        have hP6 := putB W.heap.size b l4 62 62 rfl wr.drew (hB4.below (Below.refl _ _).drew) (by omega) (Nat.le_trans hW0 HWK.out.size)
        have HP6 := Lib.hid hP6
        clear hl4 hB4 hP6 hWk HBK
        go_wp2_with fail
        go_still (by kernel_rfl)
        go_wp2_with fail
        refine HP6.out.mono ?_
        rintro e w9 ⟨rfl, ⟨hb9, hbl9⟩, _⟩
        obtain ⟨l5, hl5⟩ : ∃ l5, l4 ++ [62] = l5 := ⟨_, rfl⟩
        have hl5l : l5.length ≤ l.length + 490001 := by rw [← hl5, List.length_append]; show l4.length + 1 ≤ _; omega
        rw [hl5] at hb9
        have HL5 := Lib.hid hl5
        have HB9 := Lib.hid (And.intro hb9 (HWK.out.trans ((Below.refl _ wr).drew.trans hbl9)))
        clear hl5 hb9 hbl9 HP6 HWK v1 v2 v3 v4 c7
        have hc1 := (HEL.out w9 (HB.out.trans HB9.out.2)).fst
        by_cases hkids : x + 1 < x + sz ts x
        · rw [kidTo_lt hkids, Option.map_some, lk_some] at hc1
          obtain ⟨_, k5, k7⟩ := HKID.out (x + 1) (Nat.le_refl _) hkids (par_first hx (by omega)) w9 (HB.out.trans HB9.out.2)
          by_cases h41 : (ts.getD (x + 1) default).kind = 4
          · rw [h41, show tyOf 4 = 1 from rfl] at k5
            rw [show dataOf (ts.getD (x + 1) default) = (ts.getD (x + 1) default).text by unfold dataOf; rw [if_neg (by omega), if_neg (by omega)]] at k7
            have htx := HTEXT.out (x + 1) (by omega) hkids
            obtain ⟨tx, htx'⟩ : ∃ tx, (ts.getD (x + 1) default).text = tx := ⟨_, rfl⟩
            rw [htx'] at k7 htx
            have HPX := Lib.hid (hasPrefix_any tx w9 (by omega))
            clear h41 htx htx'
            go_wp2_with fail
            refine HPX.out.mono ?_
            rintro e w10 ⟨pb, _, rfl, hbl10⟩
            have HB10 := Lib.hid (And.intro (HB9.out.1.below hbl10) (HB9.out.2.trans (hbl10.mono (Nat.le_trans hW0 HB9.out.2.size))))
            have c7 := (HEL.out w10 (HB.out.trans HB10.out.2)).data
            clear hbl10 HPX k5 k7 hc1 HB9
            cases pb
            · go_wp2_with fail
              clear c7
              refine (HLIT.out _ (HB.out.trans HB10.out.2)).mono ?_
              rintro e w11 ⟨rfl, rfl⟩
              have c1 := (HEL.out _ (HB.out.trans HB10.out.2)).fst
              go_wp2
              go_loopg [53] (x + sz ts x - (x + 1)) (fun gk c wr => ∃ (j f : Nat) (done : List Nat), gk = x + sz ts x - j ∧ x + 1 ≤ j ∧ j ≤ x + sz ts x ∧ c = lk ((kidTo (sz ts) x j).map nb) ∧ Hid (j < x + sz ts x → par (sz ts) j = some x) ∧ x + sz ts x - j ≤ f ∧ Hid (done ++ kidsFrom (sz ts) (x + sz ts x) f j = kids (sz ts) x) ∧ Hid ((done.flatMap (rend ts)).length ≤ (j - (x + 1)) * 600000) ∧ Hid (IsB W.heap.size b (l5 ++ done.flatMap (rend ts)) wr) ∧ Hid (Below W.heap.size w wr))
              case atStart => exact ⟨x + 1, sz ts x, [], rfl, by omega, by have := HPOS.out; omega, rfl, Lib.hid (fun h => par_first hx (by omega)), by omega, Lib.hid rfl, Lib.hid (by simp), Lib.hid (by simpa using HB10.out.1), Lib.hid HB10.out.2⟩
              case round =>
                obtain ⟨j, f, done, rfl, hj1, hj2, rfl, HPAR, hf, HDONE, HDL, HBJ, HWJ⟩ := hrel
                clear c1
                by_cases hlt : j < x + sz ts x
                · have hjl : j < len := by omega
                  have hlam := HNEST.out.lam x j hx (by omega) hlt
                  have hjp := HNEST.out.pos j hjl
                  have hpj := HPAR.out hlt
                  obtain ⟨g, rfl, hst⟩ := kidsFrom_step (z := sz ts) hlt hf
                  have hdone := HDONE.out
                  rw [hst] at hdone
                  have hdone' : (done ++ [j]) ++ kidsFrom (sz ts) (x + sz ts x) g (j + sz ts j) = kids (sz ts) x := by rw [List.append_assoc]; exact hdone
                  have hdl := HDL.out
                  have hkl := HKL.out j (by omega) hlt
                  have hcall := HIH.out j (l5 ++ done.flatMap (rend ts)) wr hjl (by omega) (by omega) (HB.out.trans HWJ.out) HBJ.out (by rw [List.length_append]; omega)
                  have hjoin : l5 ++ done.flatMap (rend ts) ++ rend ts j = l5 ++ (done ++ [j]).flatMap (rend ts) := by simp [List.flatMap_append]
                  rw [hjoin] at hcall
                  have hdl2 : ((done ++ [j]).flatMap (rend ts)).length ≤ (j + sz ts j - (x + 1)) * 600000 := by
                    rw [List.flatMap_append, List.length_append]
                    simp only [List.flatMap_cons, List.flatMap_nil, List.append_nil]
                    omega
                  rw [kidTo_lt hlt, Option.map_some, lk_some]
                  have HC := Lib.hid hcall
                  have HP := Lib.hid hpj
                  have HD2 := Lib.hid (And.intro hdone' hdl2)
                  clear hcall hpj hdone hdone' hdl hkl hjoin hdl2 hst HPAR HDONE HDL HBJ
                  go_wp2_with fail
                  refine HC.out.mono ?_
                  rintro e w12 ⟨rfl, hb12, hbl12⟩
                  have HB12 := Lib.hid (And.intro hb12 (HWJ.out.trans hbl12))
                  have c4 := (HKID.out j hj1 hlt HP.out w12 (HB.out.trans HB12.out.2)).1
                  clear hb12 hbl12 HC HWJ
                  go_wp2
                  go_roundg (x + sz ts x - (j + sz ts j))
                  case measure => omega
                  case rel => exact ⟨j + sz ts j, g, done ++ [j], rfl, by omega, by omega, rfl, Lib.hid (fun h => par_next HNEST.out HP.out hjl h), by omega, Lib.hid HD2.out.1, Lib.hid HD2.out.2, Lib.hid HB12.out.1, Lib.hid HB12.out.2⟩
                · obtain rfl : j = x + sz ts x := by omega
                  have hdone := HDONE.out
                  rw [kidsFrom_end (Nat.le_refl _), List.append_nil] at hdone
                  have hdl := HDL.out
                  rw [show x + sz ts x - (x + 1) = sz ts x - 1 by omega] at hdl
                  have hfl : lfin = l5 ++ done.flatMap (rend ts) ++ [60, 47] ++ tag.data.toList ++ [62] := by
                    rw [← HFIN.out, ← HL5.out, ← HL4.out, ← HL3.out, hdone]
                    simp only [inner, List.append_assoc]
                  rw [kidTo_end hlt, Option.map_none, lk_none]
                  obtain ⟨l6, hl6⟩ : ∃ l6, l5 ++ done.flatMap (rend ts) = l6 := ⟨_, rfl⟩
                  have hl6l : l6.length ≤ 50000600000 := by rw [← hl6, List.length_append]; omega
                  have hB6 := HBJ.out
                  rw [hl6] at hB6 hfl
                  have HFL := Lib.hid hfl
                  have hP7 := putS W.heap.size b l6 ⟨#[60, 47]⟩ wr hB6 (by omega) (by decide) (Nat.le_trans hW0 HWJ.out.size)
                  have HP7 := Lib.hid hP7
                  clear hdone hdl hfl hl6 hB6 hP7 hlt HPAR HDONE HDL HBJ
                  go_wp2_with fail
                  refine HP7.out.mono ?_
                  rintro e w13 ⟨rfl, ⟨hb13, hbl13⟩, _⟩
                  have HB13 := Lib.hid (And.intro hb13 (HWJ.out.trans hbl13))
                  have c7 := (HEL.out w13 (HB.out.trans HB13.out.2)).data
                  have HS13 := Lib.hid fun (w' : World) (hd : Below w13.heap.size w13 w') => putS W.heap.size b (l6 ++ [60, 47]) tag w' (HB13.out.1.below hd) (by rw [List.length_append]; show l6.length + 2 ≤ _; omega) (by omega) (Nat.le_trans (Nat.le_trans hW0 HB13.out.2.size) hd.size)
                  clear hb13 hbl13 HP7 HWJ
                  go_wp2_with fail
                  have hbd13 : Below W.heap.size W w13.drew := (HB.out.trans HB13.out.2).trans (Below.refl _ _).drew
                  have c7d : w13.drew.cell? ⟨nb x, 7, none⟩ = some (.string tag) := c7
                  go_region_held3 (fun w' => w'.cell? ⟨nb x, 7, none⟩ = some (.string tag)) (first | exact (HEL.out _ (hbd13.trans hbl14)).data | exact c7d) (first | (go_at_call 91; refine (HS13.out _ (Below.refl _ _).drew).mono ?_; rintro e w14 ⟨rfl, ⟨hb14, hbl14⟩, _⟩))
                  have hbw14 : Below W.heap.size w w14 := HB13.out.2.trans ((Below.refl _ w13).drew.trans hbl14)
                  have hP8 := putB W.heap.size b (l6 ++ [60, 47] ++ tag.data.toList) 62 62 rfl w14 hb14 (by rw [List.length_append, List.length_append, HTL.out]; show l6.length + 2 + tag.size ≤ _; omega) (Nat.le_trans hW0 hbw14.size)
                  have HP8 := Lib.hid hP8
                  have HW14 := Lib.hid hbw14
                  clear hP8 hb14 hbl14 hbw14 hbd13 c7d c7
                  go_wp2_with fail
                  refine HP8.out.mono ?_
                  rintro e w15 ⟨rfl, ⟨hb15, hbl15⟩, _⟩
                  have HB15 := Lib.hid (And.intro hb15 (HW14.out.trans hbl15))
                  clear hb15 hbl15 HP8
                  go_wp2
                  go_ret
                  exact ⟨rfl, by rw [HFL.out]; exact HB15.out.1, HB15.out.2⟩
            · go_wp2_with fail
              clear c7
              refine (HLIT.out _ (HB.out.trans HB10.out.2)).mono ?_
              rintro e w11 ⟨rfl, rfl⟩
              have c1 := (HEL.out _ (HB.out.trans HB10.out.2)).fst
              go_wp2
              go_loopg [53] (x + sz ts x - (x + 1)) (fun gk c wr => ∃ (j f : Nat) (done : List Nat), gk = x + sz ts x - j ∧ x + 1 ≤ j ∧ j ≤ x + sz ts x ∧ c = lk ((kidTo (sz ts) x j).map nb) ∧ Hid (j < x + sz ts x → par (sz ts) j = some x) ∧ x + sz ts x - j ≤ f ∧ Hid (done ++ kidsFrom (sz ts) (x + sz ts x) f j = kids (sz ts) x) ∧ Hid ((done.flatMap (rend ts)).length ≤ (j - (x + 1)) * 600000) ∧ Hid (IsB W.heap.size b (l5 ++ done.flatMap (rend ts)) wr) ∧ Hid (Below W.heap.size w wr))
              case atStart => exact ⟨x + 1, sz ts x, [], rfl, by omega, by have := HPOS.out; omega, rfl, Lib.hid (fun h => par_first hx (by omega)), by omega, Lib.hid rfl, Lib.hid (by simp), Lib.hid (by simpa using HB10.out.1), Lib.hid HB10.out.2⟩
              case round =>
                obtain ⟨j, f, done, rfl, hj1, hj2, rfl, HPAR, hf, HDONE, HDL, HBJ, HWJ⟩ := hrel
                clear c1
                by_cases hlt : j < x + sz ts x
                · have hjl : j < len := by omega
                  have hlam := HNEST.out.lam x j hx (by omega) hlt
                  have hjp := HNEST.out.pos j hjl
                  have hpj := HPAR.out hlt
                  obtain ⟨g, rfl, hst⟩ := kidsFrom_step (z := sz ts) hlt hf
                  have hdone := HDONE.out
                  rw [hst] at hdone
                  have hdone' : (done ++ [j]) ++ kidsFrom (sz ts) (x + sz ts x) g (j + sz ts j) = kids (sz ts) x := by rw [List.append_assoc]; exact hdone
                  have hdl := HDL.out
                  have hkl := HKL.out j (by omega) hlt
                  have hcall := HIH.out j (l5 ++ done.flatMap (rend ts)) wr hjl (by omega) (by omega) (HB.out.trans HWJ.out) HBJ.out (by rw [List.length_append]; omega)
                  have hjoin : l5 ++ done.flatMap (rend ts) ++ rend ts j = l5 ++ (done ++ [j]).flatMap (rend ts) := by simp [List.flatMap_append]
                  rw [hjoin] at hcall
                  have hdl2 : ((done ++ [j]).flatMap (rend ts)).length ≤ (j + sz ts j - (x + 1)) * 600000 := by
                    rw [List.flatMap_append, List.length_append]
                    simp only [List.flatMap_cons, List.flatMap_nil, List.append_nil]
                    omega
                  rw [kidTo_lt hlt, Option.map_some, lk_some]
                  have HC := Lib.hid hcall
                  have HP := Lib.hid hpj
                  have HD2 := Lib.hid (And.intro hdone' hdl2)
                  clear hcall hpj hdone hdone' hdl hkl hjoin hdl2 hst HPAR HDONE HDL HBJ
                  go_wp2_with fail
                  refine HC.out.mono ?_
                  rintro e w12 ⟨rfl, hb12, hbl12⟩
                  have HB12 := Lib.hid (And.intro hb12 (HWJ.out.trans hbl12))
                  have c4 := (HKID.out j hj1 hlt HP.out w12 (HB.out.trans HB12.out.2)).1
                  clear hb12 hbl12 HC HWJ
                  go_wp2
                  go_roundg (x + sz ts x - (j + sz ts j))
                  case measure => omega
                  case rel => exact ⟨j + sz ts j, g, done ++ [j], rfl, by omega, by omega, rfl, Lib.hid (fun h => par_next HNEST.out HP.out hjl h), by omega, Lib.hid HD2.out.1, Lib.hid HD2.out.2, Lib.hid HB12.out.1, Lib.hid HB12.out.2⟩
                · obtain rfl : j = x + sz ts x := by omega
                  have hdone := HDONE.out
                  rw [kidsFrom_end (Nat.le_refl _), List.append_nil] at hdone
                  have hdl := HDL.out
                  rw [show x + sz ts x - (x + 1) = sz ts x - 1 by omega] at hdl
                  have hfl : lfin = l5 ++ done.flatMap (rend ts) ++ [60, 47] ++ tag.data.toList ++ [62] := by
                    rw [← HFIN.out, ← HL5.out, ← HL4.out, ← HL3.out, hdone]
                    simp only [inner, List.append_assoc]
                  rw [kidTo_end hlt, Option.map_none, lk_none]
                  obtain ⟨l6, hl6⟩ : ∃ l6, l5 ++ done.flatMap (rend ts) = l6 := ⟨_, rfl⟩
                  have hl6l : l6.length ≤ 50000600000 := by rw [← hl6, List.length_append]; omega
                  have hB6 := HBJ.out
                  rw [hl6] at hB6 hfl
                  have HFL := Lib.hid hfl
                  have hP7 := putS W.heap.size b l6 ⟨#[60, 47]⟩ wr hB6 (by omega) (by decide) (Nat.le_trans hW0 HWJ.out.size)
                  have HP7 := Lib.hid hP7
                  clear hdone hdl hfl hl6 hB6 hP7 hlt HPAR HDONE HDL HBJ
                  go_wp2_with fail
                  refine HP7.out.mono ?_
                  rintro e w13 ⟨rfl, ⟨hb13, hbl13⟩, _⟩
                  have HB13 := Lib.hid (And.intro hb13 (HWJ.out.trans hbl13))
                  have c7 := (HEL.out w13 (HB.out.trans HB13.out.2)).data
                  have HS13 := Lib.hid fun (w' : World) (hd : Below w13.heap.size w13 w') => putS W.heap.size b (l6 ++ [60, 47]) tag w' (HB13.out.1.below hd) (by rw [List.length_append]; show l6.length + 2 ≤ _; omega) (by omega) (Nat.le_trans (Nat.le_trans hW0 HB13.out.2.size) hd.size)
                  clear hb13 hbl13 HP7 HWJ
                  go_wp2_with fail
                  have hbd13 : Below W.heap.size W w13.drew := (HB.out.trans HB13.out.2).trans (Below.refl _ _).drew
                  have c7d : w13.drew.cell? ⟨nb x, 7, none⟩ = some (.string tag) := c7
                  go_region_held3 (fun w' => w'.cell? ⟨nb x, 7, none⟩ = some (.string tag)) (first | exact (HEL.out _ (hbd13.trans hbl14)).data | exact c7d) (first | (go_at_call 91; refine (HS13.out _ (Below.refl _ _).drew).mono ?_; rintro e w14 ⟨rfl, ⟨hb14, hbl14⟩, _⟩))
                  have hbw14 : Below W.heap.size w w14 := HB13.out.2.trans ((Below.refl _ w13).drew.trans hbl14)
                  have hP8 := putB W.heap.size b (l6 ++ [60, 47] ++ tag.data.toList) 62 62 rfl w14 hb14 (by rw [List.length_append, List.length_append, HTL.out]; show l6.length + 2 + tag.size ≤ _; omega) (Nat.le_trans hW0 hbw14.size)
                  have HP8 := Lib.hid hP8
                  have HW14 := Lib.hid hbw14
                  clear hP8 hb14 hbl14 hbw14 hbd13 c7d c7
                  go_wp2_with fail
                  refine HP8.out.mono ?_
                  rintro e w15 ⟨rfl, ⟨hb15, hbl15⟩, _⟩
                  have HB15 := Lib.hid (And.intro hb15 (HW14.out.trans hbl15))
                  clear hb15 hbl15 HP8
                  go_wp2
                  go_ret
                  exact ⟨rfl, by rw [HFL.out]; exact HB15.out.1, HB15.out.2⟩
          · have hty : tyOf (ts.getD (x + 1) default).kind ≠ 1 := by
              rcases HKINDS.out (x + 1) (by omega) (by omega) with ⟨h, _⟩ | h | ⟨h, _⟩
              · rw [h]; decide
              · exact absurd h h41
              · rw [h]; decide
            obtain ⟨ty, hty'⟩ : ∃ ty, tyOf (ts.getD (x + 1) default).kind = ty := ⟨_, rfl⟩
            rw [hty'] at k5 hty
            have htyb : (ty == 1) = false := by simpa using hty
            have HB10 := HB9
            clear hty' h41 k7
            go_wp2_with fail
            clear hc1 k5 hty htyb
            refine (HLIT.out _ (HB.out.trans HB10.out.2)).mono ?_
            rintro e w11 ⟨rfl, rfl⟩
            have c1 := (HEL.out _ (HB.out.trans HB10.out.2)).fst
            go_wp2
            go_loopg [53] (x + sz ts x - (x + 1)) (fun gk c wr => ∃ (j f : Nat) (done : List Nat), gk = x + sz ts x - j ∧ x + 1 ≤ j ∧ j ≤ x + sz ts x ∧ c = lk ((kidTo (sz ts) x j).map nb) ∧ Hid (j < x + sz ts x → par (sz ts) j = some x) ∧ x + sz ts x - j ≤ f ∧ Hid (done ++ kidsFrom (sz ts) (x + sz ts x) f j = kids (sz ts) x) ∧ Hid ((done.flatMap (rend ts)).length ≤ (j - (x + 1)) * 600000) ∧ Hid (IsB W.heap.size b (l5 ++ done.flatMap (rend ts)) wr) ∧ Hid (Below W.heap.size w wr))
            case atStart => exact ⟨x + 1, sz ts x, [], rfl, by omega, by have := HPOS.out; omega, rfl, Lib.hid (fun h => par_first hx (by omega)), by omega, Lib.hid rfl, Lib.hid (by simp), Lib.hid (by simpa using HB10.out.1), Lib.hid HB10.out.2⟩
            case round =>
              obtain ⟨j, f, done, rfl, hj1, hj2, rfl, HPAR, hf, HDONE, HDL, HBJ, HWJ⟩ := hrel
              clear c1
              by_cases hlt : j < x + sz ts x
              · have hjl : j < len := by omega
                have hlam := HNEST.out.lam x j hx (by omega) hlt
                have hjp := HNEST.out.pos j hjl
                have hpj := HPAR.out hlt
                obtain ⟨g, rfl, hst⟩ := kidsFrom_step (z := sz ts) hlt hf
                have hdone := HDONE.out
                rw [hst] at hdone
                have hdone' : (done ++ [j]) ++ kidsFrom (sz ts) (x + sz ts x) g (j + sz ts j) = kids (sz ts) x := by rw [List.append_assoc]; exact hdone
                have hdl := HDL.out
                have hkl := HKL.out j (by omega) hlt
                have hcall := HIH.out j (l5 ++ done.flatMap (rend ts)) wr hjl (by omega) (by omega) (HB.out.trans HWJ.out) HBJ.out (by rw [List.length_append]; omega)
                have hjoin : l5 ++ done.flatMap (rend ts) ++ rend ts j = l5 ++ (done ++ [j]).flatMap (rend ts) := by simp [List.flatMap_append]
                rw [hjoin] at hcall
                have hdl2 : ((done ++ [j]).flatMap (rend ts)).length ≤ (j + sz ts j - (x + 1)) * 600000 := by
                  rw [List.flatMap_append, List.length_append]
                  simp only [List.flatMap_cons, List.flatMap_nil, List.append_nil]
                  omega
                rw [kidTo_lt hlt, Option.map_some, lk_some]
                have HC := Lib.hid hcall
                have HP := Lib.hid hpj
                have HD2 := Lib.hid (And.intro hdone' hdl2)
                clear hcall hpj hdone hdone' hdl hkl hjoin hdl2 hst HPAR HDONE HDL HBJ
                go_wp2_with fail
                refine HC.out.mono ?_
                rintro e w12 ⟨rfl, hb12, hbl12⟩
                have HB12 := Lib.hid (And.intro hb12 (HWJ.out.trans hbl12))
                have c4 := (HKID.out j hj1 hlt HP.out w12 (HB.out.trans HB12.out.2)).1
                clear hb12 hbl12 HC HWJ
                go_wp2
                go_roundg (x + sz ts x - (j + sz ts j))
                case measure => omega
                case rel => exact ⟨j + sz ts j, g, done ++ [j], rfl, by omega, by omega, rfl, Lib.hid (fun h => par_next HNEST.out HP.out hjl h), by omega, Lib.hid HD2.out.1, Lib.hid HD2.out.2, Lib.hid HB12.out.1, Lib.hid HB12.out.2⟩
              · obtain rfl : j = x + sz ts x := by omega
                have hdone := HDONE.out
                rw [kidsFrom_end (Nat.le_refl _), List.append_nil] at hdone
                have hdl := HDL.out
                rw [show x + sz ts x - (x + 1) = sz ts x - 1 by omega] at hdl
                have hfl : lfin = l5 ++ done.flatMap (rend ts) ++ [60, 47] ++ tag.data.toList ++ [62] := by
                  rw [← HFIN.out, ← HL5.out, ← HL4.out, ← HL3.out, hdone]
                  simp only [inner, List.append_assoc]
                rw [kidTo_end hlt, Option.map_none, lk_none]
                obtain ⟨l6, hl6⟩ : ∃ l6, l5 ++ done.flatMap (rend ts) = l6 := ⟨_, rfl⟩
                have hl6l : l6.length ≤ 50000600000 := by rw [← hl6, List.length_append]; omega
                have hB6 := HBJ.out
                rw [hl6] at hB6 hfl
                have HFL := Lib.hid hfl
                have hP7 := putS W.heap.size b l6 ⟨#[60, 47]⟩ wr hB6 (by omega) (by decide) (Nat.le_trans hW0 HWJ.out.size)
                have HP7 := Lib.hid hP7
                clear hdone hdl hfl hl6 hB6 hP7 hlt HPAR HDONE HDL HBJ
                go_wp2_with fail
                refine HP7.out.mono ?_
                rintro e w13 ⟨rfl, ⟨hb13, hbl13⟩, _⟩
                have HB13 := Lib.hid (And.intro hb13 (HWJ.out.trans hbl13))
                have c7 := (HEL.out w13 (HB.out.trans HB13.out.2)).data
                have HS13 := Lib.hid fun (w' : World) (hd : Below w13.heap.size w13 w') => putS W.heap.size b (l6 ++ [60, 47]) tag w' (HB13.out.1.below hd) (by rw [List.length_append]; show l6.length + 2 ≤ _; omega) (by omega) (Nat.le_trans (Nat.le_trans hW0 HB13.out.2.size) hd.size)
                clear hb13 hbl13 HP7 HWJ
                go_wp2_with fail
                have hbd13 : Below W.heap.size W w13.drew := (HB.out.trans HB13.out.2).trans (Below.refl _ _).drew
                have c7d : w13.drew.cell? ⟨nb x, 7, none⟩ = some (.string tag) := c7
                go_region_held3 (fun w' => w'.cell? ⟨nb x, 7, none⟩ = some (.string tag)) (first | exact (HEL.out _ (hbd13.trans hbl14)).data | exact c7d) (first | (go_at_call 91; refine (HS13.out _ (Below.refl _ _).drew).mono ?_; rintro e w14 ⟨rfl, ⟨hb14, hbl14⟩, _⟩))
                have hbw14 : Below W.heap.size w w14 := HB13.out.2.trans ((Below.refl _ w13).drew.trans hbl14)
                have hP8 := putB W.heap.size b (l6 ++ [60, 47] ++ tag.data.toList) 62 62 rfl w14 hb14 (by rw [List.length_append, List.length_append, HTL.out]; show l6.length + 2 + tag.size ≤ _; omega) (Nat.le_trans hW0 hbw14.size)
                have HP8 := Lib.hid hP8
                have HW14 := Lib.hid hbw14
                clear hP8 hb14 hbl14 hbw14 hbd13 c7d c7
                go_wp2_with fail
                refine HP8.out.mono ?_
                rintro e w15 ⟨rfl, ⟨hb15, hbl15⟩, _⟩
                have HB15 := Lib.hid (And.intro hb15 (HW14.out.trans hbl15))
                clear hb15 hbl15 HP8
                go_wp2
                go_ret
                exact ⟨rfl, by rw [HFL.out]; exact HB15.out.1, HB15.out.2⟩
        · rw [kidTo_end hkids, Option.map_none, lk_none] at hc1
          have HB10 := HB9
          go_wp2_with fail
          clear hc1
          refine (HLIT.out _ (HB.out.trans HB10.out.2)).mono ?_
          rintro e w11 ⟨rfl, rfl⟩
          have c1 := (HEL.out _ (HB.out.trans HB10.out.2)).fst
          go_wp2
          go_loopg [53] (x + sz ts x - (x + 1)) (fun gk c wr => ∃ (j f : Nat) (done : List Nat), gk = x + sz ts x - j ∧ x + 1 ≤ j ∧ j ≤ x + sz ts x ∧ c = lk ((kidTo (sz ts) x j).map nb) ∧ Hid (j < x + sz ts x → par (sz ts) j = some x) ∧ x + sz ts x - j ≤ f ∧ Hid (done ++ kidsFrom (sz ts) (x + sz ts x) f j = kids (sz ts) x) ∧ Hid ((done.flatMap (rend ts)).length ≤ (j - (x + 1)) * 600000) ∧ Hid (IsB W.heap.size b (l5 ++ done.flatMap (rend ts)) wr) ∧ Hid (Below W.heap.size w wr))
          case atStart => exact ⟨x + 1, sz ts x, [], rfl, by omega, by have := HPOS.out; omega, rfl, Lib.hid (fun h => par_first hx (by omega)), by omega, Lib.hid rfl, Lib.hid (by simp), Lib.hid (by simpa using HB10.out.1), Lib.hid HB10.out.2⟩
          case round =>
            obtain ⟨j, f, done, rfl, hj1, hj2, rfl, HPAR, hf, HDONE, HDL, HBJ, HWJ⟩ := hrel
            clear c1
            by_cases hlt : j < x + sz ts x
            · exfalso; omega
            · obtain rfl : j = x + sz ts x := by omega
              have hdone := HDONE.out
              rw [kidsFrom_end (Nat.le_refl _), List.append_nil] at hdone
              have hdl := HDL.out
              rw [show x + sz ts x - (x + 1) = sz ts x - 1 by omega] at hdl
              have hfl : lfin = l5 ++ done.flatMap (rend ts) ++ [60, 47] ++ tag.data.toList ++ [62] := by
                rw [← HFIN.out, ← HL5.out, ← HL4.out, ← HL3.out, hdone]
                simp only [inner, List.append_assoc]
              rw [kidTo_end hlt, Option.map_none, lk_none]
              obtain ⟨l6, hl6⟩ : ∃ l6, l5 ++ done.flatMap (rend ts) = l6 := ⟨_, rfl⟩
              have hl6l : l6.length ≤ 50000600000 := by rw [← hl6, List.length_append]; omega
              have hB6 := HBJ.out
              rw [hl6] at hB6 hfl
              have HFL := Lib.hid hfl
              have hP7 := putS W.heap.size b l6 ⟨#[60, 47]⟩ wr hB6 (by omega) (by decide) (Nat.le_trans hW0 HWJ.out.size)
              have HP7 := Lib.hid hP7
              clear hdone hdl hfl hl6 hB6 hP7 hlt HPAR HDONE HDL HBJ
              go_wp2_with fail
              refine HP7.out.mono ?_
              rintro e w13 ⟨rfl, ⟨hb13, hbl13⟩, _⟩
              have HB13 := Lib.hid (And.intro hb13 (HWJ.out.trans hbl13))
              have c7 := (HEL.out w13 (HB.out.trans HB13.out.2)).data
              have HS13 := Lib.hid fun (w' : World) (hd : Below w13.heap.size w13 w') => putS W.heap.size b (l6 ++ [60, 47]) tag w' (HB13.out.1.below hd) (by rw [List.length_append]; show l6.length + 2 ≤ _; omega) (by omega) (Nat.le_trans (Nat.le_trans hW0 HB13.out.2.size) hd.size)
              clear hb13 hbl13 HP7 HWJ
              go_wp2_with fail
              have hbd13 : Below W.heap.size W w13.drew := (HB.out.trans HB13.out.2).trans (Below.refl _ _).drew
              have c7d : w13.drew.cell? ⟨nb x, 7, none⟩ = some (.string tag) := c7
              go_region_held3 (fun w' => w'.cell? ⟨nb x, 7, none⟩ = some (.string tag)) (first | exact (HEL.out _ (hbd13.trans hbl14)).data | exact c7d) (first | (go_at_call 91; refine (HS13.out _ (Below.refl _ _).drew).mono ?_; rintro e w14 ⟨rfl, ⟨hb14, hbl14⟩, _⟩))
              have hbw14 : Below W.heap.size w w14 := HB13.out.2.trans ((Below.refl _ w13).drew.trans hbl14)
              have hP8 := putB W.heap.size b (l6 ++ [60, 47] ++ tag.data.toList) 62 62 rfl w14 hb14 (by rw [List.length_append, List.length_append, HTL.out]; show l6.length + 2 + tag.size ≤ _; omega) (Nat.le_trans hW0 hbw14.size)
              have HP8 := Lib.hid hP8
              have HW14 := Lib.hid hbw14
              clear hP8 hb14 hbl14 hbw14 hbd13 c7d c7
              go_wp2_with fail
              refine HP8.out.mono ?_
              rintro e w15 ⟨rfl, ⟨hb15, hbl15⟩, _⟩
              have HB15 := Lib.hid (And.intro hb15 (HW14.out.trans hbl15))
              clear hb15 hbl15 HP8
              go_wp2
              go_ret
              exact ⟨rfl, by rw [HFL.out]; exact HB15.out.1, HB15.out.2⟩

end Go.Proofs.YtphppdbhofeagaaDoor
