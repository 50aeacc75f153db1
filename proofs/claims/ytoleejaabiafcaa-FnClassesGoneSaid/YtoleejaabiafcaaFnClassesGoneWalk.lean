/- The walk of FnClassesGone. -/
import Derived.Test.YtoleejaabiafcaaGoneAll
import Derived.Test.YtoleejaabiafcaaClassless
import Derived.Test.YtoleejaabiafcaaAlikeSub
import Derived.Test.YtoleejaabiafcaaElsAll
import Derived.Test.YtoleejaabiafcaaOutMore
import Derived.Test.YtoleejaabiafcaaFlatMore
import Derived.Test.YtoleejaabiafcaaOutAll
import Derived.Test.YtoleejaabiafcaaFits
namespace Go.Proofs.Ytoleejaabiafcaa.lawFnClassesGone
open Go.RowKit
set_option linter.unusedVariables false
set_option linter.unusedSimpArgs false

/-- A tree's own order. -/
theorem wd0_order {z : Nat → Nat} {n : Nat} (hz : Nest z n) (h0 : 0 < n) (hr : z 0 = n) {C : List (Nat × Nat)} (hC : Fs (wd0 z n).kids [0] C) : C.length = n ∧ ∀ i, i < n → C.getD i default = (i, z i) := by
  have h1 := hC.fl.det (wd0_root hz h0 hr)
  have hl : C.length = n := by
    have := congrArg List.length h1
    simpa using this
  refine ⟨hl, fun i hi => ?_⟩
  have hiC : i < C.length := by omega
  have b1 : (C.getD i default).1 = i := by
    have h2 : (C.map (·.1)).getD i 0 = i := by
      rw [h1, List.getD_eq_getElem?_getD, List.getElem?_range' hi]
      simp
    simpa [List.getD_eq_getElem?_getD, List.getElem?_eq_getElem hiC] using h2
  obtain ⟨A, c1, c2, _, _⟩ := hC.underAt i hiC
  rw [b1] at c1
  have e2 := (wd0_flat hz (z i) i hi (Nat.le_refl _)).fs_len c1
  have : A.length + 1 = z i := by
    have := congrArg List.length e2
    simp at this
    omega
  exact Prod.ext b1 (c2.trans this)

theorem words_none : wordsF ByteArray.empty = [] := by
  first | rfl | decide | simp [wordsF, wst]

theorem fit_rem {m : NodeD} (h : FitN m) {A : KVs} (hr : RemC m.attrs A) : FitN { m with attrs := A } := by
  have hs := remC_say h.dist hr
  have hm : ∀ x ∈ A, x ∈ m.attrs := fun x hx => ((hs.mem x).1 hx).1
  exact { h with
    wa := fun x hx => h.wa x (hm x hx)
    dist := hs.dist
    vals := fun x hx => h.vals x (hm x hx)
    few := Nat.le_trans hs.len h.few }

set_option maxRecDepth 100000 in
set_option maxHeartbeats 4000000 in
theorem walk {W : World} (a : Option Addr) (len cap : Nat) (ts : List NodeD) (h : Nodes W a len ts ∧ len ≤ cap ∧ cap ≤ maxLen) (a1 : Option Addr) (n1 c1 : Nat) (zs : List Int) (h1 : Ints W a1 n1 zs ∧ n1 ≤ c1 ∧ c1 ≤ maxLen) :
    Calls Try.prog 11 #[.slice a len cap, .slice a1 n1 c1] W (YesB W) := by
  obtain ⟨hN, hN2⟩ := h
  obtain ⟨h1, hc1⟩ := h1
  have hm1 := h1.open.2.1
  have hlt := hN.len.1
  have hlm := hN.len.2
  have HN := Lib.hid hN
  have H1 := Lib.hid (And.intro h1 hc1)
  clear hN hN2 h1 hc1
  go_enter Try.func11, Try.ntmps11
  go_wp2_with fail
  refine (fits1_any a len cap ts W HN.out).mono ?_
  rintro e w1 ⟨b1, _, rfl, hb1⟩
  have HB1 := Lib.hid hb1
  clear hb1
  cases b1
  · go_wp2
    go_ret
    exact ⟨rfl, HB1.out⟩
  by_cases q1 : (2147483647 : Int) < (n1 : Int)
  · have g1 : decide ((2147483647 : Int) < (n1 : Int)) = true := by simp [q1]
    clear q1
    go_wp2
    go_ret
    exact ⟨rfl, HB1.out⟩
  have g1 : decide ((2147483647 : Int) < (n1 : Int)) = false := by simp [q1]
  clear q1
  go_wp2_with fail
  refine (right_any a len cap ts w1 (HN.out.below HB1.out)).mono ?_
  rintro e w2 ⟨b2, hb2, rfl, hbel2⟩
  have HB2 := Lib.hid (HB1.out.trans (hbel2.mono HB1.out.size))
  clear hbel2 HB1
  cases b2
  · go_wp2
    go_ret
    exact ⟨rfl, HB2.out⟩
  have HR := Lib.hid (hb2 rfl)
  clear hb2
  go_wp2_with fail
  refine (order_any a len cap a1 n1 c1 zs w2 (H1.out.1.below HB2.out)).mono ?_
  rintro e w3 ⟨b3, hb3, rfl, hbel3⟩
  have HB3 := Lib.hid (HB2.out.trans (hbel3.mono HB2.out.size))
  clear hbel3 HB2
  cases b3
  · go_wp2
    go_ret
    exact ⟨rfl, HB3.out⟩
  obtain ⟨l, hp1⟩ := (hb3 rfl).places H1.out.1.open.1
  have HP := Lib.hid hp1
  have hel := elementsOk_any a len cap ts (.slice a1 n1 c1) l w3 (HN.out.below HB3.out) (hp1.reads (H1.out.1.below HB3.out) H1.out.2.1 H1.out.2.2) hp1.lt
  have HEL := Lib.hid hel
  clear hb3 hp1 hel
  go_wp2_with fail
  refine HEL.out.mono ?_
  rintro e w4 ⟨b4, hb4, rfl, hbel4⟩
  have HB4 := Lib.hid (HB3.out.trans (hbel4.mono HB3.out.size))
  clear hbel4 HB3 HEL
  cases b4
  · go_wp2
    go_ret
    exact ⟨rfl, HB4.out⟩
  have hel3 := hb4 rfl
  have hlen := HR.out.le
  have hpos := HR.out.pos
  obtain ⟨C, hC, hnd, hClt, hCl⟩ := (wd0_ok HR.out.nest).sized (x := 0) hpos
  obtain ⟨hCn, hCg⟩ := wd0_order HR.out.nest hpos HR.out.root hC
  have hcg := classesGone_any w4 a len cap ts HR.out (HN.out.below HB4.out) (.slice a1 n1 c1) l (HP.out.reads (H1.out.1.below HB4.out) H1.out.2.1 H1.out.2.2) HP.out.lt HP.out.once (Nat.le_trans HP.out.le hlen) (fun i hi => hel3 i hi) C hC
  have hnl : n1 = l.length := by
    have e1 := H1.out.1.open.1
    have e2 := congrArg List.length HP.out.eq
    rw [List.length_map] at e2
    omega
  have HCG := Lib.hid hcg
  have HNL := Lib.hid hnl
  have HCC := Lib.hid (And.intro hCn (And.intro hCg (And.intro hClt hC)))
  have hn1b : n1 ≤ 200 := by have := HP.out.le; omega
  clear hb4 hel3 hC hnd hClt hCl hCn hCg hcg hnl
  go_wp2_with fail
  refine HCG.out.mono ?_
  rintro e w5 ⟨tv, lab2, rfl, hot, hlab, hb5⟩
  have HB5 := Lib.hid (HB4.out.trans (hb5.out.mono HB4.out.size))
  have hfit : ∀ i, i < len → FitN (lab2 i) := fun i hi => by
    have h0 := fit_of HR.out HN.out i hi
    by_cases e : i ∈ l
    · obtain ⟨A, r1, r2⟩ := (hlab.out i).2 e
      rw [r2]
      exact fit_rem h0 r1
    · rw [(hlab.out i).1 e]; exact h0
  obtain ⟨oa, oc, ts', rfl, hn', hlike⟩ := hot.out.nodes (fun y hy => hfit y.1 (HCC.out.2.2.1 y hy)) (fun y hy => by have := HCC.out.2.2.2.sizes y hy; have := HCC.out.1; omega) (by have := HCC.out.1; omega)
  have hlk : ∀ i, i < len → (ts'.getD i default).kind = (lab2 i).kind ∧ (ts'.getD i default).tag = (lab2 i).tag ∧ (ts'.getD i default).text = (lab2 i).text ∧ (ts'.getD i default).attrs = (lab2 i).attrs ∧ (ts'.getD i default).size = (sz ts i : Int) := fun i hi => by
    have := hlike i (by rw [HCC.out.1]; exact hi)
    rw [HCC.out.2.1 i hi] at this
    exact this
  rw [HCC.out.1] at hn' ⊢
  have gln : ((len : Int) != (len : Int)) = false := by simp
  have HO := Lib.hid (And.intro hn' (And.intro hlk (And.intro hlab.out hfit)))
  clear hn' hlike hlk hfit hot hlab hb5 HCG
  go_wp2
  go_loopw [7] (fun iv wr => ∃ i : Nat, iv = .int .i64 (i : Int) ∧ i ≤ n1 ∧ Hid (Below w5.heap.size w5 wr)) (fun iv _ => n1 - (intOf iv).toNat)
  case atStart => exact ⟨0, by go_num, by omega, Lib.hid (Below.refl _ _)⟩
  case round =>
    obtain ⟨i, rfl, hi, HBr⟩ := hrel
    have HBW := Lib.hid (HB5.out.trans (HBr.out.mono HB5.out.size))
    by_cases hlt2 : i < n1
    · have hil : i < l.length := by have := HNL.out; omega
      have hxm := getD_mem' (d := 0) hil
      have hxl := HP.out.lt _ hxm
      obtain ⟨_, _, b1, o1, ha1, hcc1⟩ := (H1.out.1.below HBW.out).open
      obtain rfl := ha1 (by omega)
      have ca := hcc1 i hlt2
      have e1 : zs.getD i 0 = ((l.getD i 0 : Nat) : Int) := by rw [HP.out.eq]; simp [List.getD, hil]
      rw [e1] at ca
      obtain ⟨x, hx⟩ : ∃ x, l.getD i 0 = x := ⟨_, rfl⟩
      rw [hx] at ca hxl hxm
      obtain ⟨ob, oo, rfl, hoc⟩ := (HO.out.1.below HBr.out).at (by omega)
      have nc := hoc x hxl
      have hnoc : lookKV (ts'.getD x default).attrs ⟨#[99, 108, 97, 115, 115]⟩ = none := by
        obtain ⟨A, r1, r2⟩ := (HO.out.2.2.1 x).2 hxm
        have h9 := (HO.out.2.1 x hxl).2.2.2.1
        rw [h9, r2]
        have hs := remC_say (fit_of HR.out HN.out x hxl).dist r1
        exact look_noC (fun y hy => ((hs.mem y).1 hy).2)
      obtain ⟨m, hmm⟩ : ∃ m, ts'.getD x default = m := ⟨_, rfl⟩
      rw [hmm] at nc hnoc
      obtain ⟨mk, mt, mx, aa, al, ac, kv, ms⟩ := m
      have p0 := nc.kind
      have p1 := nc.tag
      have p2 := nc.text
      have p3 := nc.attrs
      have p4 := nc.size
      have r1 := nc.at_
      simp only at p0 p1 p2 p3 p4 r1 hnoc
      have hxI : (x : Int) < (len : Int) := by omega
      have hiI : (i : Int) < (n1 : Int) := by omega
      have HLK := Lib.hid (look_any mk ms mt mx aa al ac kv ⟨#[99, 108, 97, 115, 115]⟩ wr r1)
      have HNOC := Lib.hid hnoc
      clear nc hoc hcc1 ha1 e1 hx hmm hxm hxl r1 hnoc hil
      go_wp2_with fail
      refine HLK.out.mono ?_
      rintro e w6 ⟨rfl, hb6⟩
      rw [HNOC.out, Option.getD_none, Option.isSome_none]
      have HB6 := Lib.hid (HBr.out.trans (hb6.out.mono HBr.out.size))
      have HWD := Lib.hid (words_any ByteArray.empty w6 (by decide))
      clear hb6 HLK ca p0 p1 p2 p3 p4
      go_wp2_with fail
      refine HWD.out.mono ?_
      rintro e w7 ⟨v7, rfl, ho7, hb7⟩
      obtain ⟨a7, c7, rfl, _, _⟩ := ho7.out.open
      have HB7 := Lib.hid (HB6.out.trans (hb7.out.mono HB6.out.size))
      rw [words_none]
      clear ho7 hb7 HWD
      go_wp2
      go_roundw
      case rel => exact ⟨i + 1, by go_num, by omega, HB7⟩
      case measure => simp [intOf]; omega
    · obtain rfl : i = n1 := by omega
      have hc1' := classless_any wr oa len oc ts' (HO.out.1.below HBr.out) hpos (by omega) (fun i hi => by rw [(HO.out.2.1 i hi).2.2.2.1]; exact (HO.out.2.2.2 i hi).few) a1 i c1 zs (H1.out.1.below HBW.out) l HP.out.eq HP.out.lt
      have HC1 := Lib.hid hc1'
      clear hc1' hlt2
      go_wp2_with fail
      refine HC1.out.mono ?_
      rintro e w6 ⟨g1', gc1, t1, rfl, hn1, hs1, hb6⟩
      have HB6 := Lib.hid (HBW.out.trans (hb6.out.mono HBW.out.size))
      have hc2' := classless_any w6 a len cap ts (HN.out.below HB6.out) hpos (by omega) (fun i hi => (fit_of HR.out HN.out i hi).few) a1 i c1 zs (H1.out.1.below HB6.out) l HP.out.eq HP.out.lt
      have HC2 := Lib.hid hc2'
      have HS1 := Lib.hid (And.intro hn1.out hs1.out)
      clear hc2' hn1 hs1 hb6 HC1
      go_wp2_with fail
      refine HC2.out.mono ?_
      rintro e w7 ⟨g2', gc2, t2, rfl, hn2, hs2, hb7⟩
      have HB7 := Lib.hid (HB6.out.trans (hb7.out.mono HB6.out.size))
      have hal := alikeSub_any (some ⟨g1', 0, none⟩) (some ⟨g2', 0, none⟩) len gc1 gc2 t1 t2 w7 (HS1.out.1.below hb7.out) hn2.out (fun j hj => by
        obtain ⟨k1, k2, k3, k4, k5⟩ := HS1.out.2 j hj
        obtain ⟨j1, j2, j3, j4, j5⟩ := hs2.out j hj
        obtain ⟨m1, m2, m3, m4, m5⟩ := HO.out.2.1 j hj
        have hsz := (HR.out.sizes j hj).2.1
        have hd := (fit_of HR.out HN.out j hj)
        by_cases e : j ∈ l
        · obtain ⟨A, r1, r2⟩ := (HO.out.2.2.1 j).2 e
          rw [r2] at m1 m2 m3 m4
          simp only at m1 m2 m3 m4
          rw [if_pos e, m4] at k5
          rw [if_pos e] at j5
          refine ⟨(k1.trans m1).trans j1.symm, (k2.trans m2).trans j2.symm, (k3.trans m3).trans j3.symm, (k4.trans m5).trans (hsz.symm.trans j4.symm), .inr ?_⟩
          rw [k5, j5]
          exact rem_alike hd.dist r1
        · rw [(HO.out.2.2.1 j).1 e] at m1 m2 m3 m4
          rw [if_neg e, m4] at k5
          rw [if_neg e] at j5
          refine ⟨(k1.trans m1).trans j1.symm, (k2.trans m2).trans j2.symm, (k3.trans m3).trans j3.symm, (k4.trans m5).trans (hsz.symm.trans j4.symm), .inl ?_⟩
          rw [k5, j5]
          exact ⟨rfl, hd.dist, hd.vals, hd.few⟩)
      have HAL := Lib.hid hal
      clear hal hn2 hs2 hb7 HC2
      go_wp2_with fail
      refine HAL.out.mono ?_
      rintro e w8 ⟨rfl, hb8⟩
      have HB8 := Lib.hid (HB7.out.trans (hb8.mono HB7.out.size))
      clear hb8 HAL
      go_wp2
      go_ret
      exact ⟨rfl, HB8.out⟩

end Go.Proofs.Ytoleejaabiafcaa.lawFnClassesGone
