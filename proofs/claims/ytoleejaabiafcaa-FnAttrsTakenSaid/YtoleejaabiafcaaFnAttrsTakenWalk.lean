/- The walk of FnAttrsTaken. -/
import Derived.Test.YtoleejaabiafcaaAttrsClass
import Derived.Test.YtoleejaabiafcaaClassed7
import Derived.Test.YtoleejaabiafcaaNames7
import Derived.Test.YtoleejaabiafcaaAppendNone
import Derived.Test.YtoleejaabiafcaaFits
import Derived.Deep.RegionHeld3
namespace Go.Proofs.Ytoleejaabiafcaa.lawFnAttrsTaken
open Go.RowKit
set_option linter.unusedVariables false
set_option linter.unusedSimpArgs false

theorem inW_mem {ws : List ByteArray} {x : ByteArray} : ∀ {k : Nat}, inW ws x k = false → ∀ j, j < k → (ws.getD j ByteArray.empty).toList ≠ x.toList
  | 0, _, j, hj => by omega
  | k + 1, h, j, hj => by
    simp only [inW, Bool.or_eq_false_iff] at h
    by_cases e : j = k
    · subst e; simpa using h.2
    · exact inW_mem h.1 j (by omega)

/-- Attributes as attrs7 wants them. -/
theorem good_start {l : KVs} (h : Attrs7Say l true) : GoodC l (wl (ClsVal l).data.toList) 12 200 := by
  obtain ⟨h1, h2, h3⟩ := h rfl
  have hcls : clsK.toList = [99, 108, 97, 115, 115] := by rw [ByteArray.toList_eq]; rfl
  have hs : SimpleSays (ClsVal l) true := by
    unfold ClsVal
    cases hq : lookKV l clsK with
    | none =>
      have hz : (wordsF ByteArray.empty).length = 0 := by
        have := congrArg List.length (wordsF_wl ByteArray.empty)
        rw [List.length_map] at this
        rw [this]
        rfl
      exact fun _ => ⟨fun j hj => absurd hj (Nat.not_lt_zero j), fun i hi => absurd (show i < (wordsF ByteArray.empty).length from hi) (by omega)⟩
    | some y =>
      obtain ⟨x, hx, he, hv⟩ := look_eq hq
      have := (h2 x hx).2.2 (by rw [he, hcls])
      rw [hv] at this
      exact this
  obtain ⟨s1, s2⟩ := hs rfl
  refine ⟨h3, rfl, ?_, fun b hb => ?_, h1, fun x hx => ⟨(h2 x hx).1, (h2 x hx).2.1⟩⟩
  · rw [← wordsF_wl]
    unfold List.Nodup
    rw [List.pairwise_iff_getElem]
    intro i j hi hj hij
    rw [List.length_map] at hi hj
    rw [List.getElem_map, List.getElem_map]
    have := inW_mem (s2 j hj) i hij
    rw [List.getD_eq_getElem?_getD, List.getD_eq_getElem?_getD, List.getElem?_eq_getElem hi, List.getElem?_eq_getElem hj, ByteArray.toList_eq, ByteArray.toList_eq] at this
    exact this
  · rw [Array.mem_toList_iff] at hb
    obtain ⟨j, hj, e⟩ := Array.getElem_of_mem hb
    have := s1 j hj
    rw [← e]
    exact ⟨this.2.2, this.2.1, this.1⟩

theorem strs_cells {w : World} {a : Option Addr} {n : Nat} {ss : List ByteArray} (h : Strs w a n ss) : StrCells w a n ss := by
  obtain ⟨h1, h2, h3⟩ := h
  refine ⟨h2, fun h0 => ?_⟩
  obtain ⟨b, off, rfl, hc⟩ := h3 h0
  refine ⟨b, off, rfl, fun i hi => ?_⟩
  have := hc i hi
  rw [List.length_map] at h1
  rw [List.getD_eq_getElem?_getD, List.getElem?_map, List.getElem?_eq_getElem (by omega)] at this
  rw [this, List.getD_eq_getElem?_getD, List.getElem?_eq_getElem (by omega)]
  rfl

theorem own_row {w : World} {B : Nat} {a : Option Addr} {n c : Nat} {l : List ByteArray} (h : w.ownsRow B 9 1 (.slice a n c) n (l.map .string)) (hn : n = l.length) : StrCells w a n l := by
  subst hn
  obtain ⟨a', c', he, _, hs⟩ := OwnStrs.open h
  simp at he
  obtain ⟨rfl, rfl⟩ := he
  exact hs

theorem str_one {l : List ByteArray} : ∀ u ∈ l.map Value.string, u.oneCell' = true := by
  intro u hu
  obtain ⟨n, _, rfl⟩ := List.mem_map.1 hu
  rfl

theorem cells_row {w : World} {a : Option Addr} {l : List ByteArray} (h : StrCells w a l.length l) : Row w a l.length (l.map .string) := by
  refine ⟨by simp, h.1, fun h0 => ?_⟩
  obtain ⟨b, off, rfl, hc⟩ := h.2 h0
  refine ⟨b, off, rfl, fun i hi => ?_⟩
  rw [hc i hi, List.getD_eq_getElem?_getD, List.getD_eq_getElem?_getD, List.getElem?_map, List.getElem?_eq_getElem hi]
  rfl

/-- The words that are wanted. -/
def wantL (ws xs : List ByteArray) : List ByteArray := ws.filter fun x => decide (x.data.toList ∉ xs.map (·.data.toList))

theorem want_map (ws xs : List ByteArray) : (wantL ws xs).map (·.data.toList) = lessW (ws.map (·.data.toList)) (xs.map (·.data.toList)) := by
  unfold wantL lessW
  rw [List.filter_map]
  rfl

theorem want_next {ws xs : List ByteArray} {k : Nat} (h : k < ws.length) {x : ByteArray} (hx : ws.getD k ByteArray.empty = x) : wantL (ws.take (k + 1)) xs = wantL (ws.take k) xs ++ (if x.data.toList ∈ xs.map (·.data.toList) then [] else [x]) := by
  have e : ws.take (k + 1) = ws.take k ++ [x] := by
    rw [List.take_add_one, List.getElem?_eq_getElem h]
    rw [List.getD_eq_getElem?_getD, List.getElem?_eq_getElem h] at hx
    simp at hx
    rw [hx]
    rfl
  unfold wantL
  rw [e, List.filter_append]
  congr 1
  split
  · rename_i h1
    rw [List.filter_cons_of_neg (by rw [decide_eq_true_eq]; exact fun h => h h1)]
    rfl
  · rename_i h1
    rw [List.filter_cons_of_pos (by rw [decide_eq_true_eq]; exact h1)]
    rfl

set_option maxRecDepth 100000 in
set_option maxHeartbeats 8000000 in
theorem walk {W : World} (a : Option Addr) (len cap : Nat) (l : KVs) (h : AttrsAt W a len l ∧ len ≤ cap ∧ cap ≤ maxLen) (a1 : Option Addr) (n1 c1 : Nat) (xs : List ByteArray) (h1 : Strs W a1 n1 xs ∧ (∀ s ∈ xs, s.size ≤ maxLen) ∧ n1 ≤ c1 ∧ c1 ≤ maxLen) :
    Calls Try.prog 10 #[.slice a len cap, .slice a1 n1 c1] W (YesB W) := by
  have hm := h.1.2.1
  have hll := h.1.1
  have HN := Lib.hid h.1
  have hlx := h1.1.len.1
  subst hlx
  have HXS := Lib.hid h1.1
  have HXC := Lib.hid (And.intro (strs_cells h1.1) (And.intro h1.2.1 (And.intro h1.2.2.1 h1.2.2.2)))
  unfold maxLen at hm
  clear h h1
  go_enter Try.func10, Try.ntmps10
  go_wp2_with fail
  refine (fits3_any a len cap l W HN.out).mono ?_
  rintro e w1 ⟨b1, _, rfl, hb1⟩
  have HB1 := Lib.hid hb1
  clear hb1
  cases b1
  · go_wp2
    go_ret
    exact ⟨rfl, HB1.out⟩
  go_wp2_with fail
  refine (fits8_few a1 xs.length c1 xs w1 (HXS.out.below HB1.out)).mono ?_
  rintro e w2 ⟨b2, hfew, rfl, rfl⟩
  cases b2
  · go_wp2
    go_ret
    exact ⟨rfl, HB1.out⟩
  have hx31 := hfew rfl
  clear hfew
  go_wp2_with fail
  refine (attrs7_any a len cap l w1 (HN.out.below HB1.out)).mono ?_
  rintro e w3 ⟨b3, h7, rfl, hb3⟩
  have HB3 := Lib.hid (HB1.out.trans (hb3.mono HB1.out.size))
  clear hb3 HB1
  cases b3
  · go_wp2
    go_ret
    exact ⟨rfl, HB3.out⟩
  have HG := Lib.hid (good_start h7)
  clear h7
  go_wp2_with fail
  refine (classes7_any a1 xs c1 w3 (HXC.out.1.below HB3.out) HXC.out.2.2.1 hx31 (fun x hx => by have := HXC.out.2.1 x hx; unfold maxLen at this; omega)).mono ?_
  rintro e w4 ⟨b4, h7, rfl, hb4⟩
  have HB4 := Lib.hid (HB3.out.trans (hb4.mono HB3.out.size))
  clear hb4 HB3
  cases b4
  · go_wp2
    go_ret
    exact ⟨rfl, HB4.out⟩
  have HC7 := Lib.hid (h7 rfl)
  clear h7
  have hnames : NamesAt W a1 xs c1 := ⟨HXC.out.1, HXC.out.2.2.1, HC7.out.1, HC7.out.2.1, HC7.out.2.2.1, HC7.out.2.2.2⟩
  have HNM := Lib.hid hnames
  have hv := val7_any a len cap l clsK w4 (HN.out.below HB4.out)
  unfold LookPost at hv
  have hvz : (ClsVal l).size ≤ 200 := by
    unfold ClsVal
    cases hq : lookKV l clsK with
    | none => exact Nat.zero_le _
    | some y =>
      obtain ⟨x, hx, _, h3⟩ := look_eq hq
      have := (HG.out.size x hx).2
      rw [h3] at this
      show y.size ≤ 200
      omega
  obtain ⟨o, ho⟩ : ∃ o, lookKV l clsK = o := ⟨_, rfl⟩
  have hval : ClsVal l = o.getD ByteArray.empty := by unfold ClsVal; rw [ho]
  rw [ho] at hv
  obtain ⟨val, hvv⟩ : ∃ val, o.getD ByteArray.empty = val := ⟨_, rfl⟩
  rw [hvv] at hv hval
  rw [hval] at hvz HG
  unfold clsK at hv
  have HV := Lib.hid hv
  clear hnames hv ho hval hvv HXC
  go_wp2_with fail
  refine HV.out.mono ?_
  rintro e w5 ⟨rfl, hb5⟩
  have HB5 := Lib.hid (HB4.out.trans (hb5.out.mono HB4.out.size))
  have HWS := Lib.hid (words_any val w5 (by omega))
  clear hb5 HV HB4
  go_wp2_with fail
  refine HWS.out.mono ?_
  rintro e w6 ⟨v6, rfl, ho6, hb6⟩
  have HB6 := Lib.hid (HB5.out.trans (hb6.out.mono HB5.out.size))
  have hwl := wordsF_len val
  have hwd := wordsF_wl val
  obtain ⟨ws, hws⟩ : ∃ ws, wordsF val = ws := ⟨_, rfl⟩
  rw [hws] at ho6 hwl hwd
  rw [← hwd] at HG
  obtain ⟨a6, c6, rfl, hc6, hcell6⟩ := ho6.out.open
  have HC6 := Lib.hid hcell6
  have hl6 : ws.length ≤ 201 := by omega
  clear hws hwd hwl ho6 hb6 hcell6 HWS HB5 hvz
  have hjw := joined_words (L := xs.map (·.data.toList)) (fun y hy => by
    obtain ⟨x, hx, rfl⟩ := List.mem_map.1 hy
    exact HC7.out.1 x hx)
  have HJW := Lib.hid hjw
  have hx8 : xs.length ≤ 8 := HC7.out.2.2.2
  clear hjw
  obtain ⟨i0, hi, hz0, hz1, hz2⟩ := info_parts str_info'
  go_wp2
  go_loopw [8, 9] (fun x i wr => ∃ (k : Nat), i = .int .i64 (k : Int) ∧ k ≤ ws.length ∧ Hid (OwnStrs wr w6.heap.size x (wantL (ws.take k) xs)) ∧ Hid (Below w6.heap.size w6 wr)) (fun _ i _ => ws.length - (intOf i).toNat)
  case atStart => exact ⟨0, by go_num, by omega, Lib.hid (World.ownsRow_nil _ _ _ _), Lib.hid (Below.refl _ _)⟩
  case round =>
    obtain ⟨k, rfl, hk, hown, hbel⟩ := hrel
    by_cases hlt : k < ws.length
    · obtain ⟨b, off, rfl, hcc⟩ := (HC6.out.below hbel.out).2 (by omega)
      have ck := hcc k hlt
      have hnx := fun x hx => want_next (xs := xs) hlt (x := x) hx
      obtain ⟨x, hx⟩ : ∃ x, ws.getD k ByteArray.empty = x := ⟨_, rfl⟩
      rw [hx] at ck
      have HNX := Lib.hid (hnx x hx)
      have hkI : (k : Int) < (ws.length : Int) := by omega
      clear hcc hx hnx
      have hbd : Below wr.heap.size wr wr.drew := (Below.refl _ _).drew
      have ckd : wr.drew.cell? ⟨b, off + k, none⟩ = some (.string x) := by simpa using ck
      have hj : Calls Try.prog 35 #[.slice a1 xs.length c1] wr.drew (JoinedPost xs xs.length wr.drew) := joined7_any a1 xs xs.length c1 wr.drew (((HNM.out.cells.below HB6.out).below hbel.out).below hbd) (by omega) (Nat.le_refl _) (fun j hj => by
        rw [List.getD_eq_getElem?_getD, List.getElem?_eq_getElem hj, size_list]
        exact (HC7.out.1 _ (List.getElem_mem hj)).len)
      have hwd : ∀ (r : ByteArray), r.size ≤ 41 * xs.length → Calls Try.prog 34 #[.string r, .string x] wr.drew (Tells (x.data.toList ∈ wl r.data.toList) wr.drew) := fun r hr => word_any r x wr.drew (by omega)
      have HJ := Lib.hid hj
      have HWD := Lib.hid hwd
      clear hj hwd ck
      go_wp2
      go_region_held3 (fun w' => Below wr.heap.size wr w' ∧ w'.cell? ⟨b, off + k, none⟩ = some (.string x)) (first | exact ⟨hbd.trans (hb9.out.mono hbd.size), cell_below hb9.out ckd⟩ | exact ⟨hbd, ckd⟩) (first | (go_at_call 35; refine HJ.out.mono ?_; rintro e w8 ⟨r, rfl, hr, hrz, rfl⟩) | (go_at_call 34; refine (HWD.out r hrz).mono ?_; rintro e w9 ⟨bb, rfl, hbb, hb9⟩))
      have HB9 := Lib.hid (hbel.out.trans ((hbd.trans (hb9.out.mono hbd.size)).mono hbel.out.size))
      have hown9 : OwnStrs w9 w6.heap.size u8 (wantL (ws.take k) xs) := ownsRow_kept hown.out (fun j hj => (hbd.trans (hb9.out.mono hbd.size)).block j (World.ownsRow.lt hown.out j hj).2)
      have hown9' : w9.ownsRow w6.heap.size 9 1 u8 (wantL (ws.take k) xs).length ((wantL (ws.take k) xs).map .string) := hown9
      have ck9 := cell_below hb9.out ckd
      rw [hr.out, List.take_length, HJW.out] at hbb
      have HBB := Lib.hid hbb
      have hwn : (wantL (ws.take k) xs).length ≤ 201 := by
        have := (List.filter_sublist (l := ws.take k) (p := fun x => decide (x.data.toList ∉ xs.map (·.data.toList)))).length_le
        rw [List.length_take] at this
        unfold wantL
        omega
      clear hbd ckd hb9 hbb hr hbel HJ HWD hown
      cases bb
      · have hno : x.data.toList ∉ xs.map (·.data.toList) := fun hm => by have := HBB.out.out.2 hm; cases this
        have hnx := HNX.out
        rw [if_neg hno] at hnx
        have HNX2 := Lib.hid hnx
        clear hno hnx HBB HNX hown9
        go_wp2_with (at_builtin; refine wpList_append_own _ rfl _ _ 25 rfl w6.heap.size 9 i0 (.string ByteArray.empty) 1 16 Try.underlying25 hi hz0 hz1 hz2 rfl (by decide) _ _ _ rfl (hown9'.alloc _) ⟨w9.heap.size, 0, none⟩ 1 1 [.string x] rfl rfl ?c1A ?c2A ?c3A ?c4A ?c5A ?_)
        case c1A =>
          intro j u hj
          match j, hj with
          | 0, hj => simp at hj; subst hj; simp [Addr.add]
        case c2A => first | rfl | (intro u hu; simp at hu; subst hu; rfl)
        case c3A => unfold maxLen; omega
        case c4A => omega
        case c5A => have := HB9.out.size; simp; omega
        intro v' w10 hown10 hgrow _
        have hb10 : Below w6.heap.size w6 w10 := (HB9.out.alloc HB9.out.size _).grown hgrow (by have := HB9.out.size; simp; omega) (fun q hq => (World.ownsRow.lt hown9' q hq).1)
        have hsn : OwnStrs w10 w6.heap.size v' (wantL (ws.take (k + 1)) xs) := by rw [HNX2.out]; unfold OwnStrs; simpa using hown10
        have H10 := Lib.hid hsn
        have HB10 := Lib.hid hb10
        clear hown10 hgrow hb10 hsn hown9' HNX2
        go_wp2
        refine ⟨?rel, ?measure⟩
        case rel => exact ⟨k + 1, by go_num, by omega, H10, HB10⟩
        case measure => simp [intOf]; omega
      · have hyes : x.data.toList ∈ xs.map (·.data.toList) := HBB.out.out.1 rfl
        have hnx := HNX.out
        rw [if_pos hyes, List.append_nil] at hnx
        have H10 : Hid (OwnStrs w9 w6.heap.size u8 (wantL (ws.take (k + 1)) xs)) := Lib.hid (by rw [hnx]; exact hown9)
        clear hyes hnx HBB HNX hown9 hown9' ck9
        go_wp2
        refine ⟨?rel, ?measure⟩
        case rel => exact ⟨k + 1, by go_num, by omega, H10, HB9⟩
        case measure => simp [intOf]; omega
    · obtain rfl : k = ws.length := by omega
      have hown9 := hown.out
      rw [List.take_length] at hown9
      have hwm := want_map ws xs
      have hwn : (wantL ws xs).length ≤ 201 := by
        have := (List.filter_sublist (l := ws) (p := fun x => decide (x.data.toList ∉ xs.map (·.data.toList)))).length_le
        unfold wantL
        omega
      obtain ⟨wt, hwt⟩ : ∃ wt, wantL ws xs = wt := ⟨_, rfl⟩
      rw [hwt] at hown9 hwm hwn
      obtain ⟨wa, wc, rfl, hwc, hwcell⟩ := OwnStrs.open hown9
      obtain ⟨N, hN⟩ : ∃ N, xs.map (·.data.toList) = N := ⟨_, rfl⟩
      obtain ⟨V, hV⟩ : ∃ V, ws.map (·.data.toList) = V := ⟨_, rfl⟩
      rw [hN, hV] at hwm
      have hNl : N.length = xs.length := by rw [← hN, List.length_map]
      have hwl : wt.length = (lessW V N).length := by rw [← hwm, List.length_map]
      have hwin : ∀ x ∈ wt, x.data.toList ∈ lessW V N := fun x hx => by rw [← hwm]; exact List.mem_map.2 ⟨x, hx, rfl⟩
      have hG := HG.out
      rw [hV] at hG
      have hNd : N.Nodup := by rw [← hN]; exact HC7.out.2.1
      have hml := more_length hG.nodup hNd
      have hall : ∀ x ∈ wt ++ xs, x.data.toList ∈ moreW V N := fun x hx => by
        rw [mem_more]
        rcases List.mem_append.1 hx with hx | hx
        · have := hwin x hx
          unfold lessW at this
          exact .inl (List.mem_filter.1 this).1
        · exact .inr (by rw [← hN]; exact List.mem_map.2 ⟨x, hx, rfl⟩)
      have hlen2 : (wt ++ xs).length = (moreW V N).length := by rw [hml, List.length_append, List.length_append, hwl, hNl]
      have HWT := Lib.hid (And.intro hwl (And.intro hwin (And.intro hall hlen2)))
      have HBW := Lib.hid (HB6.out.trans (hbel.out.mono HB6.out.size))
      have HCW := Lib.hid hwcell
      have HT : Hid (∀ w, Below W.heap.size W w → Calls Try.prog 36 #[.slice a len cap, .slice a1 xs.length c1] w (ClsGives l (lessW V N) 13 600 w)) := Lib.hid fun w hb => by rw [← hN]; exact attrsTaken_any a len cap l V 12 200 a1 xs c1 w (HN.out.below hb) hG (by omega) (by omega) (HNM.out.below hb)
      have HA : Hid (∀ w, Below W.heap.size W w → Calls Try.prog 37 #[.slice a len cap, .slice a1 xs.length c1] w (ClsGives l (moreW V N) 13 600 w)) := Lib.hid fun w hb => by rw [← hN]; exact attrsAdded_any a len cap l V 12 200 a1 xs c1 w (HN.out.below hb) hG (by omega) (by omega) (HNM.out.below hb)
      have HT2 : Hid (∀ w a2 c2 l2, Below W.heap.size W w → AttrsAt w a2 l2.length l2 → GoodC l2 (moreW V N) 13 600 → Calls Try.prog 36 #[.slice a2 l2.length c2, .slice a1 xs.length c1] w (ClsGives l2 (lessW V N) 14 1000 w)) := Lib.hid fun w a2 c2 l2 hb hat hg => by
        rw [← less_more, ← hN]
        rw [← hN] at hg
        exact attrsTaken_any a2 l2.length c2 l2 _ 13 600 a1 xs c1 w hat hg (by omega) (by omega) (HNM.out.below hb)
      clear hown9 hown hbel hwt hwm hwcell hN hV hNl hwl hwin hG hNd hml hall hlen2 HG HC7 HJW HB6 HC6 HXS hlt
      go_wp2_with fail
      refine (HT.out _ HBW.out).mono ?_
      rintro e w10 ⟨a10, c10, l10, rfl, hat10, hg10, hn10, hb10⟩
      have HCW10 := Lib.hid (HCW.out.below hb10.out)
      have HB10 := Lib.hid (HBW.out.trans (hb10.out.mono HBW.out.size))
      clear hb10 HBW HT HCW
      go_wp2_with fail
      refine (HA.out w10 HB10.out).mono ?_
      rintro e w11 ⟨a11, c11, l11, rfl, hat11, hg11, hn11, hb11⟩
      have HAT10 := Lib.hid (hat10.out.below hb11.out)
      have HCW11 := Lib.hid (HCW10.out.below hb11.out)
      have HB11 := Lib.hid (HB10.out.trans (hb11.out.mono HB10.out.size))
      clear hb11 HB10 HA HCW10 hat10
      go_wp2_with fail
      refine (classed7_any a10 l10.length c10 l10 (lessW V N) 13 600 wa wt wc w11 HAT10.out hg10.out (by omega) HCW11.out HWT.out.1 HWT.out.2.1).mono ?_
      rintro e w12 ⟨rfl, hb12⟩
      have HAT12 := Lib.hid (And.intro (HAT10.out.below hb12) (And.intro (hat11.out.below hb12) (HCW11.out.below hb12)))
      have HB12 := Lib.hid (HB11.out.trans (hb12.mono HB11.out.size))
      clear hb12 HB11 HAT10 hat11 HCW11
      go_wp2_with fail
      refine (othersC_any a a10 len cap l10.length c10 l l10 w12 (HN.out.below HB12.out) HAT12.out.1 hn10.out).mono ?_
      rintro e w13 ⟨rfl, hb13⟩
      have HAT13 := Lib.hid (And.intro (HAT12.out.2.1.below hb13) (HAT12.out.2.2.below hb13))
      have HB13 := Lib.hid (HB12.out.trans (hb13.mono HB12.out.size))
      clear hb13 HB12 HAT12 hg10 hn10
      go_wp2_with fail
      refine (HT2.out w13 a11 c11 l11 HB13.out HAT13.out.1 hg11.out).mono ?_
      rintro e w14 ⟨a14, c14, l14, rfl, hat14, hg14, _, hb14⟩
      have HAT14 := Lib.hid (And.intro (HAT13.out.1.below hb14.out) (HAT13.out.2.below hb14.out))
      have HB14 := Lib.hid (HB13.out.trans (hb14.out.mono HB13.out.size))
      clear hb14 HB13 HAT13 HT2
      go_wp2_with fail
      refine (classed7_any a14 l14.length c14 l14 (lessW V N) 14 1000 wa wt wc w14 hat14.out hg14.out (by omega) HAT14.out.2 HWT.out.1 HWT.out.2.1).mono ?_
      rintro e w15 ⟨rfl, hb15⟩
      have HAT15 := Lib.hid (And.intro (HAT14.out.1.below hb15) (HAT14.out.2.below hb15))
      have HB15 := Lib.hid (HB14.out.trans (hb15.mono HB14.out.size))
      clear hb15 HB14 HAT14 hat14 hg14
      have hrQ : Row (w15.alloc (.cells #[] 9)) wa wt.length (wt.map .string) := (cells_row HAT15.out.2).below ((Below.refl _ _).alloc (Nat.le_refl _) _)
      have hoE := owns_empty w15 w15.heap.size (Nat.le_refl _) 9
      have HQ := Lib.hid (And.intro hrQ hoE)
      clear hrQ hoE
      go_wp2_with (at_builtin; refine wpList_append_reads_g rfl _ _ 25 rfl w15.heap.size 9 i0 (.string ByteArray.empty) 16 Try.underlying25 hi hz0 hz1 hz2 rfl _ _ _ [] rfl HQ.out.2 wa wt.length wc (wt.map .string) rfl HQ.out.1 str_one (by unfold maxLen; omega) (by omega) (by simp) ?_)
      intro b16 c16 w16 hown16 hgrow16
      try simp only [Nat.zero_add, List.nil_append] at hown16
      have hb16 : Below w15.heap.size w15 w16 := ((Below.refl _ _).alloc (Nat.le_refl _) (.cells #[] 9)).grown hgrow16 (by simp) (fun q hq => by simp [Value.ownBlock] at hq; omega)
      have hrX : Row w16 a1 xs.length (xs.map .string) := cells_row ((HNM.out.cells.below HB15.out).below hb16)
      have HQ16 := Lib.hid (And.intro hown16 hrX)
      have HB16 := Lib.hid hb16
      have hs16 := hb16.size
      have hl16 := fun q hq => (World.ownsRow.lt hown16 q hq).1
      have HL16 := Lib.hid hl16
      clear hown16 hgrow16 hb16 hrX hl16 HQ
      go_wp2_with (at_builtin; refine wpList_append_reads_g rfl _ _ 25 rfl w15.heap.size 9 i0 (.string ByteArray.empty) 16 Try.underlying25 hi hz0 hz1 hz2 rfl _ _ _ (wt.map .string) rfl (by simpa using HQ16.out.1) a1 xs.length c1 (xs.map .string) rfl HQ16.out.2 str_one (by unfold maxLen; omega) (by omega) (by omega) ?_)
      intro b17 c17 w17 hown17 hgrow17
      have hb17 : Below w15.heap.size w15 w17 := HB16.out.grown hgrow17 HB16.out.size (fun q hq => HL16.out q hq)
      rw [← List.map_append] at hown17
      have hl17 : wt.length + xs.length = (wt ++ xs).length := by rw [List.length_append]
      rw [hl17] at hown17
      have hs17 : StrCells w17 b17 (wt ++ xs).length (wt ++ xs) := own_row hown17 rfl
      have HFIN := Lib.hid (classed7_any a11 l11.length c11 l11 (moreW V N) 13 600 b17 (wt ++ xs) c17 w17 (HAT15.out.1.below hb17) hg11.out (by omega) hs17 HWT.out.2.2.2 HWT.out.2.2.1)
      have HB17 := Lib.hid (HB15.out.trans (hb17.mono HB15.out.size))
      rw [hl17]
      obtain ⟨nn, hnn⟩ : ∃ nn, (wt ++ xs).length = nn := ⟨_, rfl⟩
      rw [hnn] at HFIN ⊢
      clear hown17 hgrow17 hb17 hs17 hl17 hnn HB16 HL16 HQ16 HAT15 HB15 HWT
      go_wp2_with fail
      refine HFIN.out.mono ?_
      rintro e w18 ⟨rfl, hb18⟩
      have HB18 := Lib.hid (HB17.out.trans (hb18.mono HB17.out.size))
      clear hb18 HB17 HFIN
      go_wp2
      go_ret
      exact ⟨rfl, HB18.out⟩

end Go.Proofs.Ytoleejaabiafcaa.lawFnAttrsTaken
