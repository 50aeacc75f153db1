/- The walk of FnClasses. -/
import Derived.Test.YtkdomegcacgpnaaGreatClsSays
import Derived.Test.YtkdomegcacgpnaaGreatFitAll
namespace Go.Proofs.YtkdomegcacgpnaaGreat.lawFnClasses
open Go.RowKit
set_option linter.unusedVariables false
set_option linter.unusedSimpArgs false

theorem picks_reads {len : Nat} {zs : List Int} {l : List Nat} (h : Picks len zs l) {w : World} {a : Option Addr} {n cap : Nat} (hw : Ints w a n zs) (h1 : n ≤ cap) (h2 : cap ≤ maxLen) : ReadsAs w (.slice a n cap) (l.map intV) := by
  obtain ⟨hl, hm, b, off, ha, hc⟩ := hw.open
  have hln : l.length = n := by rw [← hl, h.eq, List.length_map]
  refine ⟨a, cap, by simp [hln], by simp [hln]; exact h1, h2, ?_⟩
  refine ⟨by simp, by simp [hln]; omega, fun h0 => ?_⟩
  have h0' : 0 < n := by simpa [hln] using h0
  refine ⟨b, off, ha h0', fun i hi => ?_⟩
  have hi' : i < l.length := by simpa using hi
  rw [hc i (by omega), h.eq]
  simp [List.getD, hi', intV]

theorem once_nd {l : List Nat} (h : l.Nodup) : Once l := fun i j hi hj he => by
  rw [List.getD_eq_getElem?_getD, List.getD_eq_getElem?_getD, List.getElem?_eq_getElem hi, List.getElem?_eq_getElem hj] at he
  rcases Nat.lt_trichotomy i j with h1 | h1 | h1
  · exact absurd he ((List.pairwise_iff_getElem.1 h) i j hi hj h1)
  · exact h1
  · exact absurd he.symm ((List.pairwise_iff_getElem.1 h) j i hj hi h1)

theorem steps_one {w : World} {b : Nat} {o : Int} {ov : Value} {la : Option Addr} {ln lc : Nat} {t : TypeId} (h : World.objAt w b #[.int .i64 o, ov, .slice none 0 0, .string ⟨#[]⟩, .string ⟨#[]⟩, .slice la ln lc] t) : StepsC w (some ⟨b, 0, none⟩) [o] ov la ln lc := by
  refine ⟨fun _ => ⟨b, 0, rfl, fun i hi => ?_⟩⟩
  obtain rfl : i = 0 := by simp at hi; omega
  exact ⟨h.cell (i := 0) rfl, h.cell (i := 1) rfl, h.cell (i := 2) rfl, h.cell (i := 3) rfl, h.cell (i := 4) rfl, h.cell (i := 5) rfl⟩

theorem steps_two {w : World} {b : Nat} {o o2 : Int} {ov : Value} {la : Option Addr} {ln lc : Nat} {t : TypeId} (h : World.objAt w b #[.int .i64 o, ov, .slice none 0 0, .string ⟨#[]⟩, .string ⟨#[]⟩, .slice la ln lc, .int .i64 o2, ov, .slice none 0 0, .string ⟨#[]⟩, .string ⟨#[]⟩, .slice la ln lc] t) : StepsC w (some ⟨b, 0, none⟩) [o, o2] ov la ln lc := by
  refine ⟨fun _ => ⟨b, 0, rfl, fun i hi => ?_⟩⟩
  have h2 : i = 0 ∨ i = 1 := by simp at hi; omega
  rcases h2 with rfl | rfl
  · exact ⟨h.cell (i := 0) rfl, h.cell (i := 1) rfl, h.cell (i := 2) rfl, h.cell (i := 3) rfl, h.cell (i := 4) rfl, h.cell (i := 5) rfl⟩
  · exact ⟨h.cell (i := 6) rfl, h.cell (i := 7) rfl, h.cell (i := 8) rfl, h.cell (i := 9) rfl, h.cell (i := 10) rfl, h.cell (i := 11) rfl⟩

/-- A document behind steps of classes, as a list of nodes. -/
theorem out_cls {W w : World} {a : Option Addr} {len : Nat} {ts : List NodeD} (hR : RightT ts len) (hN : Nodes W a len ts) {l : List Nat} {f : Wds → Wds} {m s : Nat} {lab' : Nat → NodeD} (hlab : LabN f m s (fun i => ts.getD i default) lab' l) (hs : s ≤ 8000000000000) {C : List (Nat × Nat)} (hC : Fs (wd0 (sz ts) len).kids [0] C) {B : Nat} {tv : Value} (h : OutAt w B tv lab' C) :
    ∃ oa oc ts', tv = .slice oa len oc ∧ Nodes w oa len ts' ∧ ∀ i, i < len → (ts'.getD i default).kind = (lab' i).kind ∧ (ts'.getD i default).tag = (lab' i).tag ∧ (ts'.getD i default).text = (lab' i).text ∧ (ts'.getD i default).attrs = (lab' i).attrs ∧ (ts'.getD i default).size = (sz ts i : Int) := by
  obtain ⟨hCn, hCg⟩ := wd0_order hR.nest hR.pos hR.root hC
  have hlen := hR.le
  have hfit : ∀ i, i < len → FitM (lab' i) := fun i hi => by
    have h0 := fit_of hR hN i hi
    by_cases e : i ∈ l
    · obtain ⟨A, r1, r2, _⟩ := (hlab i).2 e
      rw [r1]
      exact ⟨h0.wk, h0.wt, fun x hx => by have := r2.size x hx; unfold maxLen; omega⟩
    · rw [(hlab i).1 e]; exact h0.fitM
  have hlt : ∀ y ∈ C, y.1 < len := fun y hy => by
    obtain ⟨i, hi, rfl⟩ := List.getElem_of_mem hy
    have := hCg i (by omega)
    rw [List.getD_eq_getElem?_getD, List.getElem?_eq_getElem hi] at this
    have h2 : C[i] = (i, sz ts i) := this
    rw [h2]
    simp only
    omega
  obtain ⟨oa, oc, ts', rfl, hn', hlike⟩ := h.nodesM (fun y hy => hfit y.1 (hlt y hy)) (fun y hy => by have := hC.sizes y hy; omega) (by omega)
  rw [hCn] at hn' ⊢
  exact ⟨oa, oc, ts', rfl, hn', fun i hi => by
    have := hlike i (by rw [hCn]; exact hi)
    rw [hCg i hi] at this
    exact this⟩

set_option maxRecDepth 100000 in
set_option maxHeartbeats 8000000 in
theorem walk {W : World} (a : Option Addr) (len cap : Nat) (ts : List NodeD) (h : Nodes W a len ts ∧ len ≤ cap ∧ cap ≤ maxLen) (a1 : Option Addr) (n1 c1 : Nat) (zs : List Int) (h1 : Ints W a1 n1 zs ∧ n1 ≤ c1 ∧ c1 ≤ maxLen) (a2 : Option Addr) (c2 : Nat) (xs : List ByteArray) (h2 : Strs W a2 xs.length xs ∧ (∀ s ∈ xs, s.size ≤ maxLen) ∧ xs.length ≤ c2 ∧ c2 ≤ maxLen) (hbk : xs.length ≤ 1048576 ∧ ∀ x ∈ xs, x.size ≤ 1048576) :
    Calls Tryz.prog 3 #[.slice a len cap, .slice a1 n1 c1, .slice a2 xs.length c2] W (YesB W) := by
  obtain ⟨hN, hN2⟩ := h
  obtain ⟨h1, hc1⟩ := h1
  have hm1 := h1.open.2.1
  have hlt := hN.len.1
  have hlm := hN.len.2
  have HN := Lib.hid hN
  have H1 := Lib.hid (And.intro h1 hc1)
  have H2 := Lib.hid h2
  have HBK := Lib.hid hbk
  have HXS := Lib.hid (strs_cells h2.1)
  have hxn := hbk.1
  clear hN hN2 h1 hc1 h2 hbk
  go_enter Tryz.func3, Tryz.ntmps3
  go_wp2_with fail
  refine (fits1_any a len cap ts W HN.out).mono ?_
  rintro e w1 ⟨b1, _, rfl, hb1⟩
  have HB1 := Lib.hid hb1
  clear hb1
  cases b1
  · go_wp2
    go_ret
    exact ⟨rfl, HB1.out⟩
  by_cases q1 : (2147483647 : Int) < (n1 : Int)
  · have g1 : decide ((2147483647 : Int) < (n1 : Int)) = true := by simp [q1]
    clear q1
    go_wp2
    go_ret
    exact ⟨rfl, HB1.out⟩
  have g1 : decide ((2147483647 : Int) < (n1 : Int)) = false := by simp [q1]
  clear q1
  have HF8 := Lib.hid (fits8_few a2 xs.length c2 xs w1 (H2.out.1.below HB1.out))
  go_wp2_with fail
  refine HF8.out.mono ?_
  rintro e w2 ⟨b2, _, rfl, rfl⟩
  clear HF8
  cases b2
  · go_wp2
    go_ret
    exact ⟨rfl, HB1.out⟩
  have hb20 : Below w1.heap.size w1 (w1.alloc (.cells #[.int .i64 14, .slice a1 n1 c1, .slice none 0 0, .string ⟨#[]⟩, .string ⟨#[]⟩, .slice a2 xs.length c2] 28)) := (Below.refl _ _).alloc (Nat.le_refl _) _
  have hob2 : World.objAt (w1.alloc (.cells #[.int .i64 14, .slice a1 n1 c1, .slice none 0 0, .string ⟨#[]⟩, .string ⟨#[]⟩, .slice a2 xs.length c2] 28)) w1.heap.size #[.int .i64 14, .slice a1 n1 c1, .slice none 0 0, .string ⟨#[]⟩, .string ⟨#[]⟩, .slice a2 xs.length c2] 28 := objAt_alloc_new w1 _ _
  obtain ⟨w2, hw2⟩ : ∃ x, w1.alloc (.cells #[.int .i64 14, .slice a1 n1 c1, .slice none 0 0, .string ⟨#[]⟩, .string ⟨#[]⟩, .slice a2 xs.length c2] 28) = x := ⟨_, rfl⟩
  rw [hw2] at hb20 hob2
  have HB2 := Lib.hid (HB1.out.trans (hb20.mono HB1.out.size))
  have HOB2 := Lib.hid hob2
  have HSU := Lib.hid (sureC_any w2 a len cap ts (HN.out.below HB2.out) a1 n1 c1 zs (H1.out.1.below HB2.out) xs a2 c2 (HXS.out.below HB2.out) HBK.out.1 HBK.out.2)
  have s0 := hob2.cell (i := 0) (v := .int .i64 14) rfl
  have s1 := hob2.cell (i := 1) (v := .slice a1 n1 c1) rfl
  have s2 := hob2.cell (i := 2) (v := .slice none 0 0) rfl
  have s3 := hob2.cell (i := 3) (v := .string ⟨#[]⟩) rfl
  have s4 := hob2.cell (i := 4) (v := .string ⟨#[]⟩) rfl
  have s5 := hob2.cell (i := 5) (v := .slice a2 xs.length c2) rfl
  clear hb20 hob2
  go_wp2_with fail
  refine HSU.out.mono ?_
  rintro e w3 ⟨b3, rfl, hsay, hb3⟩
  have HB3 := Lib.hid (HB2.out.trans (hb3.out.mono HB2.out.size))
  cases b3
  · clear hsay
    go_wp2
    go_ret
    exact ⟨rfl, HB3.out⟩
  obtain ⟨l, hS⟩ := hsay rfl
  have HS := Lib.hid hS
  have HR := Lib.hid hS.right
  have hlen := hS.right.le
  have hpos := hS.right.pos
  have hl200 : l.length ≤ 200 := Nat.le_trans hS.picks.le hlen
  obtain ⟨C, hC, _, _, _⟩ := (wd0_ok hS.right.nest).sized (x := 0) hpos
  have HCC := Lib.hid hC
  have HNA := Lib.hid (names_at HXS.out H2.out.2.2.1 hS.names hS.pos HBK.out.1 HBK.out.2)
  have HGD := Lib.hid (sure_good hS HN.out)
  have t0 := cell_below hb3.out s0
  have t1 := cell_below hb3.out s1
  have t2 := cell_below hb3.out s2
  have t3 := cell_below hb3.out s3
  have t4 := cell_below hb3.out s4
  have t5 := cell_below hb3.out s5
  have HOB3 := Lib.hid (HOB2.out.below hb3.out HOB2.out.lt)
  clear hsay hS hC s0 s1 s2 s3 s4 s5 HSU hb3
  have hb10 : Below w3.heap.size w3 (w3.alloc (.cells #[.int .i64 14, .slice a1 n1 c1, .slice none 0 0, .string ⟨#[]⟩, .string ⟨#[]⟩, .slice a2 xs.length c2] 28)) := (Below.refl _ _).alloc (Nat.le_refl _) _
  have hob1 : World.objAt (w3.alloc (.cells #[.int .i64 14, .slice a1 n1 c1, .slice none 0 0, .string ⟨#[]⟩, .string ⟨#[]⟩, .slice a2 xs.length c2] 28)) w3.heap.size #[.int .i64 14, .slice a1 n1 c1, .slice none 0 0, .string ⟨#[]⟩, .string ⟨#[]⟩, .slice a2 xs.length c2] 28 := objAt_alloc_new w3 _ _
  obtain ⟨x1, hx1⟩ : ∃ x, w3.alloc (.cells #[.int .i64 14, .slice a1 n1 c1, .slice none 0 0, .string ⟨#[]⟩, .string ⟨#[]⟩, .slice a2 xs.length c2] 28) = x := ⟨_, rfl⟩
  rw [hx1] at hb10 hob1
  have HX1 := Lib.hid (HB3.out.trans (hb10.mono HB3.out.size))
  have hchg1 := changedC_any x1 a len cap ts HR.out (HN.out.below HX1.out) (some ⟨w3.heap.size, 0, none⟩) 1 [14] (.slice a1 n1 c1) l (picks_reads HS.out.picks (H1.out.1.below HX1.out) H1.out.2.1 H1.out.2.2) HS.out.picks.lt (once_nd HS.out.picks.nd) hl200 HS.out.el a2 xs c2 (HNA.out.below HX1.out) (steps_one hob1) (by decide) (by decide) 20 4000 (by decide) (by decide) HGD.out C HCC.out
  have HCHG1 := Lib.hid hchg1
  have HY1 := Lib.hid hb10
  clear hchg1 hb10 hob1
  go_wp2_with fail
  refine HCHG1.out.mono ?_
  rintro e w4 ⟨tv1, pv1, lab1, rfl, hot1, hlab1, hb4⟩
  have HB4 := Lib.hid (HX1.out.trans (hb4.out.mono HX1.out.size))
  have h34 : Below w3.heap.size w3 w4 := HY1.out.trans (hb4.out.mono HY1.out.size)
  obtain ⟨oa1, oc1, ts1, rfl, hn1, hk1⟩ := out_cls HR.out HN.out hlab1.out (by decide) HCC.out hot1.out
  have HO1 := Lib.hid (And.intro hn1 (And.intro hk1 hlab1.out))
  have HOB4 := Lib.hid (HOB3.out.below h34 HOB3.out.lt)
  have u0 := cell_below h34 t0
  have u1 := cell_below h34 t1
  have u2 := cell_below h34 t2
  have u3 := cell_below h34 t3
  have u4 := cell_below h34 t4
  have u5 := cell_below h34 t5
  clear hn1 hk1 hlab1 hot1 hb4 h34 HCHG1 t0 t1 t2 t3 t4 t5
  have hb20 : Below w4.heap.size w4 (w4.alloc (.cells #[.int .i64 14, .slice a1 n1 c1, .slice none 0 0, .string ⟨#[]⟩, .string ⟨#[]⟩, .slice a2 xs.length c2, .int .i64 15, .slice a1 n1 c1, .slice none 0 0, .string ⟨#[]⟩, .string ⟨#[]⟩, .slice a2 xs.length c2] 28)) := (Below.refl _ _).alloc (Nat.le_refl _) _
  have hob2 : World.objAt (w4.alloc (.cells #[.int .i64 14, .slice a1 n1 c1, .slice none 0 0, .string ⟨#[]⟩, .string ⟨#[]⟩, .slice a2 xs.length c2, .int .i64 15, .slice a1 n1 c1, .slice none 0 0, .string ⟨#[]⟩, .string ⟨#[]⟩, .slice a2 xs.length c2] 28)) w4.heap.size #[.int .i64 14, .slice a1 n1 c1, .slice none 0 0, .string ⟨#[]⟩, .string ⟨#[]⟩, .slice a2 xs.length c2, .int .i64 15, .slice a1 n1 c1, .slice none 0 0, .string ⟨#[]⟩, .string ⟨#[]⟩, .slice a2 xs.length c2] 28 := objAt_alloc_new w4 _ _
  obtain ⟨x2, hx2⟩ : ∃ x, w4.alloc (.cells #[.int .i64 14, .slice a1 n1 c1, .slice none 0 0, .string ⟨#[]⟩, .string ⟨#[]⟩, .slice a2 xs.length c2, .int .i64 15, .slice a1 n1 c1, .slice none 0 0, .string ⟨#[]⟩, .string ⟨#[]⟩, .slice a2 xs.length c2] 28) = x := ⟨_, rfl⟩
  rw [hx2] at hb20 hob2
  have HX2 := Lib.hid (HB4.out.trans (hb20.mono HB4.out.size))
  have hchg2 := changedC_any x2 a len cap ts HR.out (HN.out.below HX2.out) (some ⟨w4.heap.size, 0, none⟩) 2 [14, 15] (.slice a1 n1 c1) l (picks_reads HS.out.picks (H1.out.1.below HX2.out) H1.out.2.1 H1.out.2.2) HS.out.picks.lt (once_nd HS.out.picks.nd) hl200 HS.out.el a2 xs c2 (HNA.out.below HX2.out) (steps_two hob2) (by decide) (by decide) 20 4000 (by decide) (by decide) HGD.out C HCC.out
  have HCHG2 := Lib.hid hchg2
  have HY2 := Lib.hid hb20
  clear hchg2 hb20 hob2
  go_wp2_with fail
  refine HCHG2.out.mono ?_
  rintro e w5 ⟨tv2, pv2, lab2, rfl, hot2, hlab2, hb5⟩
  have HB5 := Lib.hid (HX2.out.trans (hb5.out.mono HX2.out.size))
  have h45 : Below w4.heap.size w4 w5 := HY2.out.trans (hb5.out.mono HY2.out.size)
  obtain ⟨oa2, oc2, ts2, rfl, hn2, hk2⟩ := out_cls HR.out HN.out hlab2.out (by decide) HCC.out hot2.out
  have HO2 := Lib.hid (And.intro hn2 (And.intro hk2 hlab2.out))
  have HO15 := Lib.hid (HO1.out.1.below h45)
  clear hn2 hk2 hlab2 hot2 hb5 h45 HCHG2 u0 u1 u2 u3 u4 u5
  have hb60 : Below w5.heap.size w5 (w5.alloc (.cells #[.int .i64 16, .slice a1 n1 c1, .slice none 0 0, .string ⟨#[]⟩, .string ⟨#[]⟩, .slice a2 xs.length c2] 28)) := (Below.refl _ _).alloc (Nat.le_refl _) _
  have hob6 : World.objAt (w5.alloc (.cells #[.int .i64 16, .slice a1 n1 c1, .slice none 0 0, .string ⟨#[]⟩, .string ⟨#[]⟩, .slice a2 xs.length c2] 28)) w5.heap.size #[.int .i64 16, .slice a1 n1 c1, .slice none 0 0, .string ⟨#[]⟩, .string ⟨#[]⟩, .slice a2 xs.length c2] 28 := objAt_alloc_new w5 _ _
  obtain ⟨w6, hw6⟩ : ∃ x, w5.alloc (.cells #[.int .i64 16, .slice a1 n1 c1, .slice none 0 0, .string ⟨#[]⟩, .string ⟨#[]⟩, .slice a2 xs.length c2] 28) = x := ⟨_, rfl⟩
  rw [hw6] at hb60 hob6
  have HB6 := Lib.hid (HB5.out.trans (hb60.mono HB5.out.size))
  have HY6 := Lib.hid hb60
  have v0 := hob6.cell (i := 0) (v := .int .i64 16) rfl
  have v1 := hob6.cell (i := 1) (v := .slice a1 n1 c1) rfl
  have v2 := hob6.cell (i := 2) (v := .slice none 0 0) rfl
  have v3 := hob6.cell (i := 3) (v := .string ⟨#[]⟩) rfl
  have v4 := hob6.cell (i := 4) (v := .string ⟨#[]⟩) rfl
  have v5 := hob6.cell (i := 5) (v := .slice a2 xs.length c2) rfl
  clear hb60 hob6
  have hb30 : Below w6.heap.size w6 (w6.alloc (.cells #[.int .i64 16, .slice a1 n1 c1, .slice none 0 0, .string ⟨#[]⟩, .string ⟨#[]⟩, .slice a2 xs.length c2, .int .i64 16, .slice a1 n1 c1, .slice none 0 0, .string ⟨#[]⟩, .string ⟨#[]⟩, .slice a2 xs.length c2] 28)) := (Below.refl _ _).alloc (Nat.le_refl _) _
  have hob3 : World.objAt (w6.alloc (.cells #[.int .i64 16, .slice a1 n1 c1, .slice none 0 0, .string ⟨#[]⟩, .string ⟨#[]⟩, .slice a2 xs.length c2, .int .i64 16, .slice a1 n1 c1, .slice none 0 0, .string ⟨#[]⟩, .string ⟨#[]⟩, .slice a2 xs.length c2] 28)) w6.heap.size #[.int .i64 16, .slice a1 n1 c1, .slice none 0 0, .string ⟨#[]⟩, .string ⟨#[]⟩, .slice a2 xs.length c2, .int .i64 16, .slice a1 n1 c1, .slice none 0 0, .string ⟨#[]⟩, .string ⟨#[]⟩, .slice a2 xs.length c2] 28 := objAt_alloc_new w6 _ _
  obtain ⟨x3, hx3⟩ : ∃ x, w6.alloc (.cells #[.int .i64 16, .slice a1 n1 c1, .slice none 0 0, .string ⟨#[]⟩, .string ⟨#[]⟩, .slice a2 xs.length c2, .int .i64 16, .slice a1 n1 c1, .slice none 0 0, .string ⟨#[]⟩, .string ⟨#[]⟩, .slice a2 xs.length c2] 28) = x := ⟨_, rfl⟩
  rw [hx3] at hb30 hob3
  have HX3 := Lib.hid (HB6.out.trans (hb30.mono HB6.out.size))
  have hchg3 := changedC_any x3 a len cap ts HR.out (HN.out.below HX3.out) (some ⟨w6.heap.size, 0, none⟩) 2 [16, 16] (.slice a1 n1 c1) l (picks_reads HS.out.picks (H1.out.1.below HX3.out) H1.out.2.1 H1.out.2.2) HS.out.picks.lt (once_nd HS.out.picks.nd) hl200 HS.out.el a2 xs c2 (HNA.out.below HX3.out) (steps_two hob3) (by decide) (by decide) 20 4000 (by decide) (by decide) HGD.out C HCC.out
  have HCHG3 := Lib.hid hchg3
  have HY3 := Lib.hid hb30
  clear hchg3 hb30 hob3
  go_wp2_with fail
  refine HCHG3.out.mono ?_
  rintro e w7 ⟨tv3, pv3, lab3, rfl, hot3, hlab3, hb7⟩
  have HB7 := Lib.hid (HX3.out.trans (hb7.out.mono HX3.out.size))
  have h67 : Below w6.heap.size w6 w7 := HY3.out.trans (hb7.out.mono HY3.out.size)
  have h57 : Below w5.heap.size w5 w7 := HY6.out.trans (h67.mono HY6.out.size)
  obtain ⟨oa3, oc3, ts3, rfl, hn3, hk3⟩ := out_cls HR.out HN.out hlab3.out (by decide) HCC.out hot3.out
  have HO3 := Lib.hid (And.intro hn3 (And.intro hk3 hlab3.out))
  have HO17 := Lib.hid (HO15.out.below h57)
  have HO27 := Lib.hid (HO2.out.1.below h57)
  have gln : ((len : Int) != (len : Int)) = false := by simp
  have hal := alikeC_any oa3 a len oc3 cap ts3 ts w7 hn3 (HN.out.below HB7.out) (fun j hj => by
    obtain ⟨k1, k2, k3, k4, k5⟩ := hk3 j hj
    have hf := fit_of HR.out HN.out j hj
    have hz : ∀ x ∈ (ts.getD j default).attrs, x.2.size ≤ 8000000000000 := fun x hx => by have := hf.vals x hx; omega
    have hsz := (HR.out.sizes j hj).2.1
    by_cases e : j ∈ l
    · obtain ⟨A, r1, r2, r3⟩ := (HO3.out.2.2 j).2 e
      rw [r1] at k1 k2 k3 k4
      obtain ⟨y1, y2⟩ := half_back hf.dist hz (by decide) r2 r3 (fun u => opsF_tog)
      exact ⟨k1, k2, k3, k5.trans hsz.symm, by rw [k4]; exact y1, by rw [k4]; exact y2⟩
    · rw [(HO3.out.2.2 j).1 e] at k1 k2 k3 k4
      exact ⟨k1, k2, k3, k5.trans hsz.symm, by rw [k4]; exact half_same hf.dist hz, by rw [k4]; exact half_same hf.dist hz⟩)
  have HAL := Lib.hid hal
  clear hal hn3 hk3 hlab3 hot3 hb7 h67 h57 HCHG3 v0 v1 v2 v3 v4 v5 HO15
  go_wp2_with fail
  refine HAL.out.mono ?_
  rintro e w8 ⟨rfl, hb8⟩
  have HB8 := Lib.hid (HB7.out.trans (hb8.mono HB7.out.size))
  have HO18 := Lib.hid (HO17.out.below hb8)
  have HO28 := Lib.hid (HO27.out.below hb8)
  clear hb8 HAL HO17 HO27
  go_wp2
  go_loopw [18] (fun iv wr => ∃ i : Nat, iv = .int .i64 (i : Int) ∧ i ≤ n1 ∧ Hid (Below w8.heap.size w8 wr)) (fun iv _ => n1 - (intOf iv).toNat)
  case atStart => exact ⟨0, by go_num, by omega, Lib.hid (Below.refl _ _)⟩
  case round =>
    obtain ⟨i, rfl, hi, HBr⟩ := hrel
    have HBW := Lib.hid (HB8.out.trans (HBr.out.mono HB8.out.size))
    by_cases hlt2 : i < n1
    · have hil : i < l.length := by
        have e1 := H1.out.1.open.1
        have e2 := congrArg List.length HS.out.picks.eq
        rw [List.length_map] at e2
        omega
      have hxm := getD_mem' (d := 0) hil
      have hxl := HS.out.picks.lt _ hxm
      obtain ⟨_, _, b1, o1, ha1, hcc1⟩ := (H1.out.1.below HBW.out).open
      obtain rfl := ha1 (by omega)
      have ca := hcc1 i hlt2
      have e1 : zs.getD i 0 = ((l.getD i 0 : Nat) : Int) := by rw [HS.out.picks.eq]; simp [List.getD, hil]
      rw [e1] at ca
      obtain ⟨x, hx⟩ : ∃ x, l.getD i 0 = x := ⟨_, rfl⟩
      rw [hx] at ca hxl hxm
      have hxI : (x : Int) < (len : Int) := by omega
      have hiI : (i : Int) < (n1 : Int) := by omega
      obtain ⟨ob1, oo1, rfl, hoc1⟩ := (HO18.out.below HBr.out).at (by omega)
      have nc1 := hoc1 x hxl
      obtain ⟨A1, ra1, rb1, _⟩ := (HO1.out.2.2 x).2 hxm
      have hat1 := (HO1.out.2.1 x hxl).2.2.2.1
      rw [ra1] at hat1
      have hat1 : (ts1.getD x default).attrs = A1 := hat1
      obtain ⟨m1, hm1⟩ : ∃ m, ts1.getD x default = m := ⟨_, rfl⟩
      rw [hm1] at nc1 hat1
      obtain ⟨mk1, mt1, mx1, aa1, al1, ac1, kv1, ms1⟩ := m1
      have hat1 : kv1 = A1 := hat1
      subst hat1
      have p10 := nc1.kind
      have p11 := nc1.tag
      have p12 := nc1.text
      have p13 := nc1.attrs
      have p14 := nc1.size
      have pr1 := nc1.at_
      simp only at p10 p11 p12 p13 p14 pr1
      have hcv1 : wl ((lookKV kv1 ⟨#[99, 108, 97, 115, 115]⟩).getD ByteArray.empty).data.toList = _ := rb1.words
      have hcz1 : ((lookKV kv1 ⟨#[99, 108, 97, 115, 115]⟩).getD ByteArray.empty).size ≤ 8000000000000 := clsVal_le (fun y hy => Nat.le_trans (rb1.size y hy).2 (by decide))
      obtain ⟨val1, hval1⟩ : ∃ v, (lookKV kv1 ⟨#[99, 108, 97, 115, 115]⟩).getD ByteArray.empty = v := ⟨_, rfl⟩
      rw [hval1] at hcv1 hcz1
      have HVAL1 := Lib.hid hval1
      have HCV1 := Lib.hid (And.intro hcv1 hcz1)
      have HLK1 := Lib.hid (fun (w' : World) (hb : Below wr.heap.size wr w') => attrIs_any mk1 ms1 mt1 mx1 aa1 al1 ac1 kv1 ⟨#[99, 108, 97, 115, 115]⟩ w' (pr1.below hb))
      clear nc1 hoc1 ra1 rb1 hm1 pr1 hcv1 hcz1 hval1
      obtain ⟨ob2, oo2, rfl, hoc2⟩ := (HO28.out.below HBr.out).at (by omega)
      have nc2 := hoc2 x hxl
      obtain ⟨A2, ra2, rb2, _⟩ := (HO2.out.2.2 x).2 hxm
      have hat2 := (HO2.out.2.1 x hxl).2.2.2.1
      rw [ra2] at hat2
      have hat2 : (ts2.getD x default).attrs = A2 := hat2
      obtain ⟨m2, hm2⟩ : ∃ m, ts2.getD x default = m := ⟨_, rfl⟩
      rw [hm2] at nc2 hat2
      obtain ⟨mk2, mt2, mx2, aa2, al2, ac2, kv2, ms2⟩ := m2
      have hat2 : kv2 = A2 := hat2
      subst hat2
      have p20 := nc2.kind
      have p21 := nc2.tag
      have p22 := nc2.text
      have p23 := nc2.attrs
      have p24 := nc2.size
      have pr2 := nc2.at_
      simp only at p20 p21 p22 p23 p24 pr2
      have hcv2 : wl ((lookKV kv2 ⟨#[99, 108, 97, 115, 115]⟩).getD ByteArray.empty).data.toList = _ := rb2.words
      have hcz2 : ((lookKV kv2 ⟨#[99, 108, 97, 115, 115]⟩).getD ByteArray.empty).size ≤ 8000000000000 := clsVal_le (fun y hy => Nat.le_trans (rb2.size y hy).2 (by decide))
      obtain ⟨val2, hval2⟩ : ∃ v, (lookKV kv2 ⟨#[99, 108, 97, 115, 115]⟩).getD ByteArray.empty = v := ⟨_, rfl⟩
      rw [hval2] at hcv2 hcz2
      have HVAL2 := Lib.hid hval2
      have HCV2 := Lib.hid (And.intro hcv2 hcz2)
      have HLK2 := Lib.hid (fun (w' : World) (hb : Below wr.heap.size wr w') => attrIs_any mk2 ms2 mt2 mx2 aa2 al2 ac2 kv2 ⟨#[99, 108, 97, 115, 115]⟩ w' (pr2.below hb))
      clear nc2 hoc2 ra2 rb2 hm2 pr2 hcv2 hcz2 hval2
      clear hcc1 ha1 e1 hx hxm hxl hil
      go_wp2_with fail
      refine (HLK1.out _ (Below.refl _ _)).mono ?_
      rintro e w9 ⟨rfl, hb9⟩
      rw [HVAL1.out]
      have ca := cell_below hb9.out ca
      have p20 := cell_below hb9.out p20
      have p21 := cell_below hb9.out p21
      have p22 := cell_below hb9.out p22
      have p23 := cell_below hb9.out p23
      have p24 := cell_below hb9.out p24
      have HC2 := Lib.hid (HLK2.out w9 hb9.out)
      have HB9 := Lib.hid (HBr.out.trans (hb9.out.mono HBr.out.size))
      clear hb9 HLK1 HLK2 p10 p11 p12 p13 p14
      go_wp2_with fail
      refine HC2.out.mono ?_
      rintro e w10 ⟨rfl, hb10⟩
      rw [HVAL2.out]
      have HB10 := Lib.hid (HB9.out.trans (hb10.out.mono HB9.out.size))
      clear hb10 HC2 ca p20 p21 p22 p23 p24
      go_wp2
      go_loopw [23] (fun kv wq => ∃ k : Nat, kv = .int .i64 (k : Int) ∧ k ≤ xs.length ∧ Hid (Below w8.heap.size w8 wq)) (fun kv _ => xs.length - (intOf kv).toNat)
      case atStart => exact ⟨0, by go_num, by omega, HB10⟩
      case round =>
        obtain ⟨k, rfl, hk, HBq⟩ := hrel
        by_cases hkl : k < xs.length
        · obtain ⟨b3, off3, rfl, hc3⟩ := HXS.out.2 (by omega)
          have ck := cell_below (HB8.out.trans (HBq.out.mono HB8.out.size)) (hc3 k hkl)
          have hym : (xs.getD k ByteArray.empty).data.toList ∈ xs.map (·.data.toList) := by
            rw [List.getD_eq_getElem?_getD, List.getElem?_eq_getElem hkl]
            exact List.mem_map_of_mem (List.getElem_mem _)
          obtain ⟨y, hy⟩ : ∃ y, xs.getD k ByteArray.empty = y := ⟨_, rfl⟩
          rw [hy] at ck hym
          have hkI : (k : Int) < (xs.length : Int) := by omega
          have HYM := Lib.hid hym
          have HW1 := Lib.hid (fun (w : World) => word_any val1 y w HCV1.out.2)
          have HW2 := Lib.hid (fun (w : World) => word_any val2 y w HCV2.out.2)
          clear hc3 hy hym
          go_wp2_with fail
          refine (HW1.out _).mono ?_
          rintro e w11 ⟨bb, rfl, hbb, hb11⟩
          obtain rfl : bb = true := hbb.out.2 (by rw [HCV1.out.1]; exact opsF_add HYM.out)
          have ck := cell_below hb11.out ck
          have HB11 := Lib.hid (HBq.out.trans (hb11.out.mono HBq.out.size))
          clear hbb hb11 HW1
          go_wp2_with fail
          refine (HW2.out _).mono ?_
          rintro e w12 ⟨bb, rfl, hbb, hb12⟩
          obtain rfl : bb = false := by
            cases bb
            · rfl
            · have := hbb.out.1 rfl
              rw [HCV2.out.1] at this
              exact absurd this (opsF_gone HYM.out)
          have HB12 := Lib.hid (HB11.out.trans (hb12.out.mono HB11.out.size))
          clear hbb hb12 HW2 ck
          go_wp2
          refine ⟨?rel, ?measure⟩
          case rel => exact ⟨k + 1, by go_num, by omega, HB12⟩
          case measure => simp [intOf]; omega
        · obtain rfl : k = xs.length := by omega
          go_wp2
          refine ⟨?rel, ?measure⟩
          case rel => exact ⟨i + 1, by go_num, by omega, HBq⟩
          case measure => simp [intOf]; omega
    · obtain rfl : i = n1 := by omega
      go_wp2
      go_ret
      exact ⟨rfl, HBW.out⟩

end Go.Proofs.YtkdomegcacgpnaaGreat.lawFnClasses
