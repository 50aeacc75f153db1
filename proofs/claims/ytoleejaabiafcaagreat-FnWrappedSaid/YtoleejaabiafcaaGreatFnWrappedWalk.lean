/- The walk of FnWrapped. (Built with the bounds of the trees widened: premerge.py's mode 'w'.) -/
import Derived.Test.YtoleejaabiafcaaGreatWrapSays
import Derived.Test.YtoleejaabiafcaaGreatWrapDom
import Derived.Test.YtoleejaabiafcaaGreatUnwDom
import Derived.Test.YtoleejaabiafcaaGreatWrapBackAll
import Derived.Test.YtoleejaabiafcaaGreatThen7
import Derived.Test.YtoleejaabiafcaaGreatOutMore
import Derived.Test.YtoleejaabiafcaaGreatSameAll
import Derived.Test.YtoleejaabiafcaaGreatSure
import Derived.Test.YtoleejaabiafcaaGreatFitAll
namespace Go.Proofs.YtoleejaabiafcaaGreat.lawFnWrapped
open Go.RowKit
set_option linter.unusedVariables false
set_option linter.unusedSimpArgs false

theorem ownInts_reads {w : World} {B : Nat} {v : Value} {l : List Nat} (h : OwnInts w B v l) : ReadsAs w v (l.map intV) := by
  obtain ⟨a, cap, h1, h2, h3, h4⟩ := h.ints
  exact ⟨a, cap, by rw [List.length_map]; exact h1, by rw [List.length_map]; exact h2, h3, by rw [List.length_map]; exact h4⟩

theorem own_at {w : World} {B : Nat} {a : Option Addr} {n cap : Nat} {l : List Nat} (h : OwnInts w B (.slice a n cap) l) : n = l.length ∧ ∀ i, i < l.length → ∃ b off, a = some ⟨b, off, none⟩ ∧ w.cell? ⟨b, off + i, none⟩ = some (.int .i64 ((l.getD i 0 : Nat) : Int)) := by
  obtain ⟨a', cap', h1, h2, h3, h4⟩ := h.ints
  simp at h1
  obtain ⟨rfl, rfl, rfl⟩ := h1
  refine ⟨rfl, fun i hi => ?_⟩
  obtain ⟨b, off, e, hc⟩ := h4.2.2 (by omega)
  refine ⟨b, off, e, ?_⟩
  rw [hc i hi]
  simp [List.getD, hi]

/-- What is known of the document in which the nodes are wrapped. -/
structure Mid (len : Nat) (ts : List NodeD) (lab2 : Nat → NodeD) (xs : List Nat) (C2 : List (Nat × Nat)) (pos : Nat → Nat) (m : Nat) : Prop where
  clen : C2.length = m
  num : m = len + xs.length
  pos : ∀ y, y < len → pos y < m ∧ (C2.getD (pos y) default).1 = y ∧ posFrom (C2.map (·.1)) 0 y = (pos y : Int)
  lab : ∀ y, y < len → lab2 y = ts.getD y default
  nd : (C2.map (·.1)).Nodup

set_option maxRecDepth 100000 in
set_option maxHeartbeats 4000000 in
theorem walk {W : World} (a : Option Addr) (len cap : Nat) (ts : List NodeD) (h : Nodes W a len ts ∧ len ≤ cap ∧ cap ≤ maxLen) (a1 : Option Addr) (n1 c1 : Nat) (zs : List Int) (h1 : Ints W a1 n1 zs ∧ n1 ≤ c1 ∧ c1 ≤ maxLen) (q : Int) {P : Prop} (_ : P) :
    Calls Tryz.prog 4 #[.slice a len cap, .slice a1 n1 c1, .int .i64 q] W (YesB W) := by
  obtain ⟨hN, hN2⟩ := h
  obtain ⟨h1, hc1⟩ := h1
  have hm1 := h1.open.2.1
  have hlt := hN.len.1
  have hlm := hN.len.2
  have HN := Lib.hid (And.intro hN hN2)
  have H1 := Lib.hid (And.intro h1 hc1)
  clear hN hN2 h1 hc1
  go_enter Tryz.func4, Tryz.ntmps4
  go_wp2_with fail
  refine (fits1_any a len cap ts W HN.out.1).mono ?_
  rintro e w1 ⟨b1, _, rfl, hb1⟩
  have HB1 := Lib.hid hb1
  clear hb1
  cases b1
  · go_wp2
    go_ret
    exact ⟨rfl, HB1.out⟩
  by_cases q1 : (2147483647 : Int) < (n1 : Int)
  · have g1 : decide ((2147483647 : Int) < (n1 : Int)) = true := by simp [q1]
    clear q1
    go_wp2
    go_ret
    exact ⟨rfl, HB1.out⟩
  have g1 : decide ((2147483647 : Int) < (n1 : Int)) = false := by simp [q1]
  clear q1
  by_cases q2 : q < 0
  · have g2 : decide (q < 0) = true := by simp [q2]
    clear q2
    go_wp2
    go_ret
    exact ⟨rfl, HB1.out⟩
  have g2 : decide (q < 0) = false := by simp [q2]
  obtain ⟨wd, rfl⟩ := Int.eq_ofNat_of_zero_le (Int.not_lt.1 q2)
  clear q2
  by_cases q3 : (len : Int) ≤ (wd : Int)
  · have g3 : decide ((len : Int) ≤ (wd : Int)) = true := by simp; omega
    have g3n : decide (len ≤ wd) = true := by simp; omega
    clear q3
    go_wp2
    go_ret
    exact ⟨rfl, HB1.out⟩
  have g3 : decide ((len : Int) ≤ (wd : Int)) = false := by simp; omega
  have g3n : decide (len ≤ wd) = false := by simp; omega
  have hwI : (wd : Int) < (len : Int) := by omega
  have hwl : wd < len := by omega
  clear q3
  obtain ⟨b, off, rfl, hcc⟩ := HN.out.1.at (by omega)
  have cs := cell_below HB1.out (hcc wd hwl).size
  have ct := cell_below HB1.out (hcc wd hwl).tag
  obtain ⟨zw, hzw⟩ : ∃ zw, (ts.getD wd default).size = zw := ⟨_, rfl⟩
  obtain ⟨tg, htg⟩ : ∃ tg, (ts.getD wd default).tag = tg := ⟨_, rfl⟩
  rw [hzw] at cs
  rw [htg] at ct
  by_cases q4 : zw = 1
  rotate_left 1
  · have g4 : (zw != 1) = true := by simpa using q4
    clear q4 hcc
    go_wp2
    go_ret
    exact ⟨rfl, HB1.out⟩
  have g4 : (zw != 1) = false := by simpa using q4
  cases q5 : (tg.toList == [98, 111, 100, 121])
  rotate_left 1
  · clear q4 hcc
    go_wp2
    go_ret
    exact ⟨rfl, HB1.out⟩
  have HWD := Lib.hid (And.intro (hzw.trans q4) (show ((ts.getD wd default).tag.toList == [98, 111, 100, 121]) = false by rw [htg]; exact q5))
  clear q4 hcc hzw htg
  obtain ⟨wq, hwq⟩ : ∃ wq, w1.alloc (.cells #[.int .i64 (wd : Int)] 3) = wq := ⟨_, rfl⟩
  have hbq : Below W.heap.size W wq := by rw [← hwq]; exact HB1.out.alloc HB1.out.size _
  have hcq : wq.cell? ⟨w1.heap.size, 0, none⟩ = some (.int .i64 (wd : Int)) := by rw [← hwq]; exact cell_alloc_new' _ _ _ rfl rfl
  have hiq : Ints wq (some ⟨w1.heap.size, 0, none⟩) 1 [(wd : Int)] := ⟨rfl, by decide, fun _ => ⟨w1.heap.size, 0, rfl, fun i hi => by
    obtain rfl : i = 0 := by omega
    exact hcq⟩⟩
  have HBQ := Lib.hid hbq
  have HIQ := Lib.hid hiq
  clear hbq hiq hcq
  subst hwq
  go_wp2_with fail
  refine (step7_any 9 a1 n1 c1 (some ⟨w1.heap.size, 0, none⟩) 1 1 _).mono ?_
  rintro e w2 ⟨rfl, hb2⟩
  have hb02 := HBQ.out.trans (hb2.out.mono HBQ.out.size)
  have HIQ3 := Lib.hid (HIQ.out.below hb2.out)
  have hsure := sure7_any w2 (some ⟨b, off, none⟩) len cap ts (HN.out.1.below hb02) 9 a1 n1 c1 (some ⟨w1.heap.size, 0, none⟩) 1 1 (WrapPhi len ts zs [(wd : Int)]) (wrapPhi_ok len ts zs [(wd : Int)]) (wrapSays (H1.out.1.below hb02) HIQ3.out (HN.out.1.below hb02))
  have HS := Lib.hid hsure
  have HB2 := Lib.hid hb02
  clear hsure hb02 hb2 HB1 HBQ HIQ
  go_wp2_with fail
  refine HS.out.mono ?_
  rintro e w4 ⟨b4, rfl, hsay, hb4⟩
  have HB4 := Lib.hid (HB2.out.trans (hb4.out.mono HB2.out.size))
  cases b4
  · clear hsay hb4 cs ct
    go_wp2
    go_ret
    exact ⟨rfl, HB4.out⟩
  obtain ⟨n2, pl, lab2, G2, hR, hphi⟩ := hsay rfl
  obtain ⟨h6, hold, hnew, xs, wd', L, hp1, hp2, hx0, hL, hside, hknd, hM⟩ := hphi
  have hlen := hR.le
  have hpos := hR.pos
  have hF0 := wd0_ok hR.nest
  obtain rfl : wd = wd' := by
    have h9 := hp2.eq
    simp at h9
    omega
  -- the wrapper has no kids
  have hz1 : sz ts wd = 1 := by
    have h9 := (hR.sizes wd hwl).2.1
    rw [HWD.out.1] at h9
    omega
  have hk0 : (wd0 (sz ts) len).kids wd = [] := by
    simp only [wd0, if_pos hwl, kids, hz1]
    exact kidsFrom_end (Nat.le_refl _)
  obtain rfl : L = [wd] := hL.det (Fl.one (by rw [hk0]; exact .nil))
  have hback := hM.back hside (wrMid0 hF0 (fun i => ts.getD i default) [wd] xs) hk0
  obtain ⟨hG2, hnn, hlabs, hallf⟩ := hM.ok hside (wrMid0 hF0 (fun i => ts.getD i default) [wd] xs)
  have hfit2 := hallf FitN (fit_of hR HN.out.1)
  obtain ⟨C2, hC2, hnd2, hClt2, hCl2⟩ := hG2.sized (x := 0) (by omega)
  have hxin : ∀ x ∈ xs, x < len ∧ x ≠ 0 := fun x hx => ⟨hp1.lt x hx, by have := hp1.pos x hx; omega⟩
  have hzl : n1 = xs.length := by
    have e1 := H1.out.1.open.1
    have e2 := congrArg List.length hp1.eq
    rw [List.length_map] at e2
    omega
  have hwof := wrapOf_any w4 (some ⟨b, off, none⟩) len cap ts hR (HN.out.1.below HB4.out) (.slice a1 n1 c1) xs (hp1.reads (H1.out.1.below HB4.out) H1.out.2.1 H1.out.2.2) (List.length_pos_iff.2 hx0) (Nat.le_trans hp1.le hlen) hwl hside hL hM h6 C2 hC2 hnd2 hClt2 (by omega)
  have HRM := Lib.hid hwof
  have HR := Lib.hid hR
  have HPK := Lib.hid (And.intro hp1 (And.intro hback (And.intro hG2 (And.intro hfit2 (And.intro h6 (And.intro hxin (And.intro hlabs hknd)))))))
  have HCC := Lib.hid (And.intro hC2 (And.intro hnd2 (And.intro hClt2 hCl2)))
  have HX0 := Lib.hid hx0
  have HZL := Lib.hid hzl
  clear hwof hp1 hp2 hside hM hfit2 h6 hold hnew hx0 hL hF0 hnn hlabs hallf hC2 hnd2 hClt2 hCl2 hG2 hR hb4 hsay hknd HS hback hxin hz1 hk0 hzl cs ct HIQ3 HB2
  go_wp2_with fail
  refine HRM.out.mono ?_
  rintro e w5 ⟨tv, pv, rfl, hot, hz, hb5⟩
  have HB5 := Lib.hid (HB4.out.trans (hb5.out.mono HB4.out.size))
  obtain ⟨oa, oc, ts', rfl, hn', hlike⟩ := hot.out.nodes (fun y hy => HPK.out.2.2.2.1 y.1 (HCC.out.2.2.1 y hy)) (fun y hy => by have := HCC.out.1.sizes y hy; have := HCC.out.2.2.2; have := HPK.out.2.2.2.2.1; omega) (by have := HCC.out.2.2.2; have := HPK.out.2.2.2.2.1; omega)
  obtain ⟨pa, pc, rfl, hp⟩ := hz.out.ints
  have hcap := hot.out.cap
  have hplc : (placesW len C2).length = len := by simp [placesW]
  rw [hplc] at hp ⊢
  have hsz2 : ∀ i, i < C2.length → sz ts' i = (C2.getD i default).2 := fun i hi => by
    unfold sz
    rw [(hlike i hi).2.2.2.2]
    simp
  -- where the nodes stand
  obtain ⟨pos, hpos2⟩ : ∃ pos : Nat → Nat, ∀ y, (posFrom (C2.map (·.1)) 0 y).toNat = pos y := ⟨fun y => (posFrom (C2.map (·.1)) 0 y).toNat, fun _ => rfl⟩
  have hall2 : ∀ y, y < len → y ∈ C2.map (·.1) := fun y hy => by
    have h9 := (HPK.out.2.1.fl 0 _ hpos HCC.out.1.fl).det (wd0_root HR.out.nest HR.out.pos HR.out.root)
    have : y ∈ (C2.map (·.1)).filter (fun v => decide (v < len)) := by rw [h9]; simp [List.mem_range'_1, hy]
    exact (List.mem_filter.1 this).1
  have hposf : ∀ y, y < len → pos y < C2.length ∧ (C2.getD (pos y) default).1 = y ∧ posFrom (C2.map (·.1)) 0 y = (pos y : Int) := fun y hy => by
    obtain ⟨p, p1, p2, p3⟩ := pos_of HCC.out.2.1 (hall2 y hy)
    have e : pos y = p := by rw [← hpos2 y, p3]; simp
    rw [e]
    exact ⟨p1, p2, p3⟩
  obtain ⟨ys, hysd⟩ : ∃ ys, (List.range xs.length).map (fun j => pos (xs.getD j 0)) = ys := ⟨_, rfl⟩
  have hyl : ys.length = xs.length := by rw [← hysd]; simp
  have hyg : ∀ i, i < xs.length → ys.getD i 0 = pos (xs.getD i 0) := fun i hi => by rw [← hysd]; simp [List.getD, hi]
  obtain ⟨hCn, hnest⟩ : C2.length = n2 ∧ Nest (sz ts') C2.length := by
    refine ⟨?_, HCC.out.1.nest.congr (fun i hi => (hsz2 i hi).symm)⟩
    have h9 := wrapRound HR.out.nest HR.out.pos HR.out.root HPK.out.2.1 HPK.out.2.2.1 HPK.out.2.2.2.2.2.1 HCC.out.1 HCC.out.2.1 hsz2 (HCC.out.1.nest.congr (fun i hi => (hsz2 i hi).symm)) hyl (fun i hi => by
      rw [hyg i hi]
      have := hposf _ (HPK.out.2.2.2.2.2.1 _ (getD_mem' (d := 0) hi)).1
      exact ⟨this.1, this.2.1⟩)
    rw [h9.1, HPK.out.2.1.num]
  obtain ⟨hnum, G3, hrd⟩ := wrapRound HR.out.nest HR.out.pos HR.out.root HPK.out.2.1 HPK.out.2.2.1 HPK.out.2.2.2.2.2.1 HCC.out.1 HCC.out.2.1 hsz2 hnest hyl (fun i hi => by
      rw [hyg i hi]
      have := hposf _ (HPK.out.2.2.2.2.2.1 _ (getD_mem' (d := 0) hi)).1
      exact ⟨this.1, this.2.1⟩)
  obtain ⟨hS2, hR2⟩ := wrapMid HR.out HPK.out.2.1 hwl HPK.out.2.2.2.2.2.2.2 HPK.out.2.2.2.2.2.2.1 HCC.out.1 HCC.out.2.1 HCC.out.2.2.1 hCn HPK.out.2.2.2.2.1 hlike
  have hG3 : WOk C2.length G3 := hrd.unws.ok (wd0_ok hR2.nest)
  obtain ⟨C3, hC3, hnd3, hClt3, hCl3⟩ := hG3.sized (x := 0) hR2.pos
  obtain ⟨hl3, hout⟩ := hrd.out C3 hC3
  have hgood : ∀ y ∈ ys, UnwGood (fun i => ts'.getD i default) (wd0 (sz ts') C2.length) y := fun y hy => by
    obtain ⟨p, g, u1, u2, u3, u4, u5⟩ := hrd.good y hy
    obtain ⟨k1, k2, _⟩ := hlike p u3
    have h9 := HPK.out.2.1.lab ((C2.getD p default).1 - len) (by have := HPK.out.2.1.num; omega)
    rw [show len + ((C2.getD p default).1 - len) = (C2.getD p default).1 by omega] at h9
    rw [h9] at k1 k2
    exact ⟨p, g, u1, u2, k1.trans HPK.out.2.2.2.2.2.2.2, by show ((ts'.getD p default).tag.toList == _) = false; rw [k2]; exact HWD.out.2⟩
  have hyin : ∀ y ∈ ys, y < C2.length := fun y hy => by
    obtain ⟨i, hi, he⟩ := List.getElem_of_mem hy
    have hi2 : i < xs.length := by omega
    have h9 := hyg i hi2
    rw [List.getD_eq_getElem?_getD, List.getElem?_eq_getElem hi] at h9
    simp only [Option.getD_some] at h9
    rw [← he, h9]
    exact (hposf _ (HPK.out.2.2.2.2.2.1 _ (getD_mem' (d := 0) hi2)).1).1
  have hyo : Once ys := fun i j hi hj he => by
    rw [hyg i (by omega), hyg j (by omega)] at he
    have a1 := (hposf _ (HPK.out.2.2.2.2.2.1 _ (getD_mem' (d := 0) (by omega : i < xs.length))).1).2.1
    have a2 := (hposf _ (HPK.out.2.2.2.2.2.1 _ (getD_mem' (d := 0) (by omega : j < xs.length))).1).2.1
    rw [he] at a1
    exact once_nodup HPK.out.1.nd i j (by omega) (by omega) (a1.symm.trans a2)
  obtain ⟨m, hm⟩ : ∃ m, C2.length = m := ⟨_, rfl⟩
  have hmid : Mid len ts lab2 xs C2 pos m := ⟨hm, by omega, fun y hy => by have := hposf y hy; rw [hm] at this; exact this, fun y hy => HPK.out.2.2.2.2.2.2.1 y hy, HCC.out.2.1⟩
  have hle600 : m ≤ 600 := by have := HPK.out.2.2.2.2.1; omega
  have hxsl : xs.length ≤ len := HPK.out.1.le
  have htold := told7_any (some ⟨b, off, none⟩) len cap oa C2.length oc ts' pa pc w5 hn' hS2 (by omega)
  rw [hm] at htold hn' hcap hR2 hyin hgood hG3 hClt3 hrd ⊢
  have hmn : m = len + xs.length := hmid.num
  have gmn : ((m : Int) != (len : Int) + (n1 : Int)) = false := by have := HZL.out; simp; omega
  have hn1b : n1 ≤ 600 := by have := HZL.out; omega
  have HTOLD := Lib.hid htold
  have HOUT := Lib.hid (And.intro hn' (And.intro hlike (And.intro hp hcap)))
  have HMID := Lib.hid (And.intro hmid (And.intro hR2 (And.intro hrd (And.intro hgood (And.intro hyin hyo)))))
  have HC3 := Lib.hid (And.intro hC3 (And.intro hnd3 (And.intro hClt3 (And.intro hl3 hout))))
  have HYS := Lib.hid (And.intro hysd (And.intro hyl hyg))
  clear htold hn' hlike hp hot hz hb5 HRM hplc hcap hmid hR2 hrd hgood hyin hyo hC3 hnd3 hClt3 hl3 hout hysd hyl hyg hG3 hCl3 hS2 hnum hCn hnest hposf hall2 hpos2 hsz2 hm
  have HMN := Lib.hid hmn
  have HXL := Lib.hid (And.intro hxsl hle600)
  clear hmn hxsl hle600
  go_wp2_with fail
  refine HTOLD.out.mono ?_
  rintro e w6 ⟨rfl, hb6⟩
  have HB6 := Lib.hid (And.intro hb6 (HB5.out.trans (hb6.mono HB5.out.size)))
  clear hb6 HTOLD
  obtain ⟨i0, hi, hz0, hz1, hz2⟩ := info_parts Tryz.infoInt
  go_wp2
  go_loopw [10, 11] (fun v iv wr => ∃ i : Nat, iv = .int .i64 (i : Int) ∧ i ≤ n1 ∧ Hid (OwnInts wr w6.heap.size v ((List.range i).map fun j => pos (xs.getD j 0))) ∧ Hid (Below w6.heap.size w6 wr)) (fun _ iv _ => n1 - (intOf iv).toNat)
  case atStart => exact ⟨0, by go_num, by omega, Lib.hid (World.ownsRow_nil _ _ _ _), Lib.hid (Below.refl _ _)⟩
  case round =>
    obtain ⟨i, rfl, hi2, HO, HBr⟩ := hrel
    by_cases hltn : i < n1
    · have hix : i < xs.length := by have := HZL.out; omega
      have hxm := getD_mem' (d := 0) hix
      have hxl := (HPK.out.2.2.2.2.2.1 _ hxm).1
      have hbw : Below W.heap.size W wr := HB6.out.2.trans (HBr.out.mono HB6.out.2.size)
      have hb5w : Below w5.heap.size w5 wr := HB6.out.1.trans (HBr.out.mono HB6.out.1.size)
      obtain ⟨_, _, b1, o1, ha1, hcc1⟩ := (H1.out.1.below hbw).open
      obtain rfl := ha1 (by omega)
      obtain ⟨_, _, b2, o2, ha2, hcc2⟩ := (HOUT.out.2.2.1.below hb5w).open
      obtain rfl := ha2 (by omega)
      have ca := hcc1 i hltn
      have e1 : zs.getD i 0 = ((xs.getD i 0 : Nat) : Int) := by rw [HPK.out.1.eq]; simp [List.getD, hix]
      rw [e1] at ca
      have cb := hcc2 _ hxl
      rw [places_get hxl, (HMID.out.1.pos _ hxl).2.2] at cb
      obtain ⟨x, hx⟩ : ∃ x, xs.getD i 0 = x := ⟨_, rfl⟩
      rw [hx] at ca cb hxl
      obtain ⟨y, hy⟩ : ∃ y, pos x = y := ⟨_, rfl⟩
      rw [hy] at cb
      have hxI : (x : Int) < (len : Int) := by omega
      have hiI : (i : Int) < (n1 : Int) := by omega
      have hownl : ((List.range i).map fun j => pos (xs.getD j 0)).length = i := by simp
      have hown : wr.ownsRow w6.heap.size 3 1 u10 ((List.range i).map fun j => pos (xs.getD j 0)).length (((List.range i).map fun j => pos (xs.getD j 0)).map fun (n : Nat) => Value.int .i64 (n : Int)) := HO.out
      have HXY := Lib.hid (And.intro hx hy)
      clear hcc1 hcc2 ha1 ha2 e1 hxm hx hy
      go_wp2_with (at_builtin; refine wpList_append_own _ rfl _ _ 25 rfl w6.heap.size 3 i0 (.int .i64 0) 1 8 Tryz.underlying25 hi hz0 hz1 hz2 rfl (by decide) _ _ _ rfl (hown.alloc _) ⟨wr.heap.size, 0, none⟩ 1 1 [.int .i64 (y : Int)] rfl rfl ?c1 ?c2 ?c3 ?c4 ?c5 ?_)
      case c1 =>
        intro j u hj
        match j, hj with
        | 0, hj => simp at hj; subst hj; simp [Addr.add]
      case c2 => first | rfl | (intro u hu; simp at hu; subst hu; rfl)
      case c3 => unfold maxLen; rw [hownl]; omega
      case c4 => omega
      case c5 => have := HBr.out.size; simp; omega
      intro v' w7 hown2 hgrow _
      have hsn := ownInts_snoc (done := (List.range i).map fun j => pos (xs.getD j 0)) (k := y) (by first | exact hown2 | (rw [hownl]; exact hown2) | simpa [Function.comp_def] using hown2)
      have e2 : (List.range i).map (fun j => pos (xs.getD j 0)) ++ [y] = (List.range (i + 1)).map fun j => pos (xs.getD j 0) := by
        rw [List.range_succ, List.map_append, List.map_singleton, HXY.out.1, HXY.out.2]
      rw [e2] at hsn
      have H1' := Lib.hid hsn
      have H2' := Lib.hid ((HBr.out.alloc HBr.out.size _).grown hgrow (by have := HBr.out.size; simp; omega) (fun q hq => (World.ownsRow.lt hown q hq).1))
      clear hown2 hgrow hsn hown ca cb e2 hbw hb5w
      go_wp2
      go_roundw
      case rel => exact ⟨i + 1, by go_num, by omega, H1', H2'⟩
      case measure => simp [intOf]; omega
    · obtain rfl : i = n1 := by omega
      have hys : OwnInts wr w6.heap.size u10 ys := by rw [← HYS.out.1, ← HZL.out]; exact HO.out
      have hbw : Below W.heap.size W wr := HB6.out.2.trans (HBr.out.mono HB6.out.2.size)
      have hb5w : Below w5.heap.size w5 wr := HB6.out.1.trans (HBr.out.mono HB6.out.1.size)
      have huo := unwrapOf_any wr oa m oc ts' HMID.out.2.1 (HOUT.out.1.below hb5w) u10 ys (ownInts_reads hys) HMID.out.2.2.2.2.1 HMID.out.2.2.2.2.2 (by rw [HYS.out.2.1]; exact List.length_pos_iff.2 HX0.out) (by rw [HYS.out.2.1]; have := HXL.out; have := HR.out.le; omega) HMID.out.2.2.2.1 HMID.out.2.2.1.unws C3 HC3.out.1
      have HUO := Lib.hid huo
      have HBW := Lib.hid (And.intro hbw hb5w)
      clear huo hys hbw hb5w hltn
      go_wp2_with fail
      refine HUO.out.mono ?_
      rintro e w8 ⟨tv2, pv2, rfl, hot2, hzz2, hb8⟩
      have HB8 := Lib.hid (And.intro (HBW.out.1.trans (hb8.out.mono HBW.out.1.size)) (HBW.out.2.trans (hb8.out.mono HBW.out.2.size)))
      obtain ⟨oa2, oc2, ts3, rfl, hn3, hlike3⟩ := hot2.out.nodes (fun y hy => fit_of HMID.out.2.1 (HOUT.out.1.below HBW.out.2) y.1 (HC3.out.2.2.1 y hy)) (fun y hy => by have := HC3.out.1.sizes y hy; have := HC3.out.2.2.2.1; have := HR.out.le; omega) (by have := HC3.out.2.2.2.1; have := HR.out.le; omega)
      obtain ⟨pa2, pc2, rfl, hp2⟩ := hzz2.out.ints
      have hplc : (placesW m C3).length = m := by simp [placesW]
      rw [hplc] at hp2 ⊢
      rw [HC3.out.2.2.2.1] at hn3 hlike3 ⊢
      have hpx : ∀ y, y < len → (C3.getD y default).1 = pos y := fun y hy => by
        obtain ⟨k1, k2, _⟩ := HC3.out.2.2.2.2 y hy
        have a1 := posFrom_at HMID.out.1.nd (q := (C3.getD y default).1) k1
        rw [k2, (HMID.out.1.pos y hy).2.2] at a1
        omega
      have hth := then7_any pa pc len (placesW len C2) pa2 pc2 m (placesW m C3) w8 (HOUT.out.2.2.1.below HB8.out.2) hp2 (by have := HR.out.le; omega) pos (fun i hi => by
        obtain ⟨h3, h4, h5⟩ := HMID.out.1.pos i hi
        have h6 := posFrom_at HC3.out.2.1 (q := i) (by rw [HC3.out.2.2.2.1]; exact hi)
        rw [hpx i hi] at h6
        exact ⟨by rw [places_get hi]; exact h5, h3, by rw [places_get h3]; exact h6⟩)
      have hst := fun (w9 : World) (hb9 : Below w8.heap.size w8 w9) => sameTree_any oa2 (some ⟨b, off, none⟩) len oc2 cap ts3 ts w9 (hn3.below hb9) (HN.out.1.below (HB8.out.1.trans (hb9.mono HB8.out.1.size))) (fun i hi => by
        obtain ⟨k1, k2, k3, k4, k5⟩ := hlike3 i hi
        obtain ⟨j1, j2, j3⟩ := HC3.out.2.2.2.2 i hi
        obtain ⟨l1, l2, l3, l4, _⟩ := HOUT.out.2.1 (C3.getD i default).1 j1
        rw [j2, HMID.out.1.lab i hi] at l1 l2 l3 l4
        rw [j3] at k5
        exact ⟨k1.trans l1, k2.trans l2, k3.trans l3, k4.trans l4, k5.trans (HR.out.sizes i hi).2.1.symm⟩)
      have HTH := Lib.hid hth
      have HST := Lib.hid hst
      clear hth hst hpx hn3 hlike3 hp2 hot2 hzz2 hb8 hplc HUO
      go_wp2_with fail
      refine HTH.out.mono ?_
      rintro e w9 ⟨lv, rfl, hlo, hb9⟩
      obtain ⟨la, lc, rfl⟩ := ownsRow_slice hlo
      obtain ⟨hll, hlc⟩ := own_at hlo
      rw [List.length_range] at hll hlc ⊢
      have HB9 := Lib.hid (HB8.out.1.trans (hb9.mono HB8.out.1.size))
      have HST2 := Lib.hid (fun (wx : World) (hx : Below w9.heap.size w9 wx) => HST.out wx (hb9.trans (hx.mono hb9.size)))
      have HLC := Lib.hid hlc
      clear hlc hll hlo hb9 HTH HST
      go_wp2
      go_loopw [16] (fun iv wr => ∃ i : Nat, iv = .int .i64 (i : Int) ∧ i ≤ len ∧ Hid (w9 = wr)) (fun iv _ => len - (intOf iv).toNat)
      case atStart => exact ⟨0, by go_num, by omega, Lib.hid (by trivial)⟩
      case round =>
        obtain ⟨j, rfl, hj, HE⟩ := hrel
        have he := HE.out
        subst he
        by_cases hjl : j < len
        · obtain ⟨lb, lo, rfl, hcj⟩ := HLC.out j hjl
          have e1 : (List.range len).getD j 0 = j := by simp [List.getD, hjl]
          rw [e1] at hcj
          have gj : ((j : Int) != (j : Int)) = false := by simp
          have hjI : (j : Int) < (len : Int) := by omega
          clear e1
          go_wp2
          go_roundw
          case rel => exact ⟨j + 1, by go_num, by omega, Lib.hid (by trivial)⟩
          case measure => simp [intOf]; omega
        · obtain rfl : j = len := by omega
          go_wp2_with fail
          refine (HST2.out _ (Below.refl _ _)).mono ?_
          rintro e w10 ⟨rfl, hb10⟩
          have HB10 := Lib.hid (HB9.out.trans (hb10.mono HB9.out.size))
          clear hb10
          go_wp2
          go_ret
          exact ⟨rfl, HB10.out⟩

end Go.Proofs.YtoleejaabiafcaaGreat.lawFnWrapped
