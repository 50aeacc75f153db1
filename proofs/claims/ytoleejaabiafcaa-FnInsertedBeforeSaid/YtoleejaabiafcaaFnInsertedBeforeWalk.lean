/- The walk of FnInsertedBefore. -/
import Derived.Test.YtoleejaabiafcaaLawIns
import Derived.Test.YtoleejaabiafcaaInsertOf
import Derived.Test.YtoleejaabiafcaaFits
import Derived.Test.YtoleejaabiafcaaInRow
import Derived.Test.YtoleejaabiafcaaBeside7
namespace Go.Proofs.Ytoleejaabiafcaa.lawFnInsertedBefore
open Go.RowKit
set_option linter.unusedVariables false
set_option linter.unusedSimpArgs false

set_option maxRecDepth 100000 in
set_option maxHeartbeats 8000000 in
theorem walk {W : World} (a : Option Addr) (len cap : Nat) (ts : List NodeD) (h : Nodes W a len ts ∧ len ≤ cap ∧ cap ≤ maxLen) (z : Int) {P : Prop} (_ : P) (a2 : Option Addr) (n2 c2 : Nat) (zs2 : List Int) (h2 : Ints W a2 n2 zs2 ∧ n2 ≤ c2 ∧ c2 ≤ maxLen) :
    Calls Try.prog 8 #[.slice a len cap, .int .i64 z, .slice a2 n2 c2] W (YesB W) := by
  obtain ⟨hN, hN2⟩ := h
  obtain ⟨h2, hc2⟩ := h2
  have hm2 := h2.open.2.1
  have hlm := hN.len.2
  have HN := Lib.hid hN
  have H2 := Lib.hid (And.intro h2 hc2)
  clear hN hN2 h2 hc2
  go_enter Try.func8, Try.ntmps8
  go_wp2_with fail
  refine (fits1_any a len cap ts W HN.out).mono ?_
  rintro e w1 ⟨b1, _, rfl, hb1⟩
  have HB1 := Lib.hid hb1
  clear hb1
  cases b1
  · go_wp2
    go_ret
    exact ⟨rfl, HB1.out⟩
  by_cases q1 : (2147483647 : Int) < (n2 : Int)
  · have g1 : decide ((2147483647 : Int) < (n2 : Int)) = true := by simp [q1]
    clear q1
    go_wp2
    go_ret
    exact ⟨rfl, HB1.out⟩
  have g1 : decide ((2147483647 : Int) < (n2 : Int)) = false := by simp [q1]
  clear q1
  have hbs1 := HB1.out.size
  have HBA := Lib.hid (HB1.out.alloc hbs1 (.cells #[.int .i64 z] 3))
  have HI1 := Lib.hid (ints_one w1 z)
  go_wp2_with fail
  refine (step7_any 4 (some ⟨w1.heap.size, 0, none⟩) 1 1 a2 n2 c2 _).mono ?_
  rintro e w2 ⟨rfl, hb2⟩
  have HB2 := Lib.hid (HBA.out.trans (hb2.out.mono HBA.out.size))
  have hsure := sure7_any w2 a len cap ts (HN.out.below HB2.out) 4 (some ⟨w1.heap.size, 0, none⟩) 1 1 a2 n2 c2 (InsPhi 4 len ts [z] zs2) (insPhi_ok _ _ _ _ _) (insSays_before (HI1.out.below hb2.out) (H2.out.1.below HB2.out))
  have HS := Lib.hid hsure
  clear hsure hb2 HB1 HBA
  go_wp2_with fail
  refine HS.out.mono ?_
  rintro e w4 ⟨b4, rfl, hsay, hb4⟩
  have HB4 := Lib.hid (HB2.out.trans (hb4.out.mono HB2.out.size))
  cases b4
  · clear hsay hb4
    go_wp2
    go_ret
    exact ⟨rfl, HB4.out⟩
  obtain ⟨n, pl, lab, F, hR, hphi⟩ := hsay rfl
  obtain ⟨_, _, _, x, ws, p, A0, B0, hp1, hp2, hne, hap, htg, _⟩ := hphi
  have hlen := hR.le
  have hpos := hR.pos
  have hx : x < len := hp1.lt x (by simp)
  have hzx : z = (x : Int) := by have := hp1.eq; simpa using this
  have hF := wd0_ok hR.nest
  have hplen := target_lt hF hx htg
  obtain ⟨hkp, hcase⟩ := htg
  obtain ⟨hpx, bb, hB0⟩ : (wd0 (sz ts) len).up x = some p ∧ ∃ b, B0 = x :: b := by
    rcases hcase with ⟨h1, _⟩ | ⟨h1, _⟩ | ⟨_, h1, h2⟩
    · omega
    · omega
    · exact ⟨h1, h2⟩
  have hxw := Target.notin hap
  have hx1 := hp1.pos x (by simp)
  have htg : Target 4 (fun i => ts.getD i default) (wd0 (sz ts) len) x p A0 B0 := ⟨hkp, hcase⟩
  have hclr := htg.clear hap
  obtain ⟨C, hC, hnd, hClt, hCl, hall, hok, hkk⟩ := ins_order hR hx htg hap hp2.nd (fun v hv => ⟨hp2.lt v hv, hp2.pos v hv⟩)
  have hwl : ws.length ≤ 200 := Nat.le_trans hp2.le hlen
  have hn2 : n2 = ws.length := by
    have h1 := H2.out.1.open.1
    rw [hp2.eq] at h1
    simpa using h1.symm
  have hof := fun (wq : World) (hb : Below W.heap.size W wq) => beforeOf_any (wq.alloc (.cells #[.int .i64 z] 3)) a len cap ts hR (HN.out.below (hb.alloc hb.size _)) (.slice (some ⟨wq.heap.size, 0, none⟩) 1 1) x (ints_reads (l := [x]) (ints_one wq z) (by rw [hzx]; rfl) (by omega) (by unfold maxLen; omega)) hx (.slice a2 n2 c2) ws (ints_reads (H2.out.1.below (hb.alloc hb.size _)) hp2.eq H2.out.2.1 H2.out.2.2) hp2.lt hp2.nd hwl hplen hkp hpx ⟨bb, hB0⟩ hxw hclr C hC
  have HOF := Lib.hid (hof w4 HB4.out)
  have HR := Lib.hid hR
  have HCC := Lib.hid (And.intro hC (And.intro hnd (And.intro hClt (And.intro hCl (And.intro hall hkk)))))
  have HP := Lib.hid (And.intro hp2 (And.intro hB0 (And.intro hxw hzx)))
  have HFEW := Lib.hid (hok.few p)
  clear hof hR hC hnd hClt hall hkk hok hp1 hp2 hne hap htg hkp hcase hclr hF hsay hb4 HS hCl hzx hpx hB0 hxw
  have HN2 := Lib.hid hn2
  clear hn2
  go_wp2_with fail
  refine HOF.out.mono ?_
  rintro e w5 ⟨tv, pv, rfl, hot, hz, hb5⟩
  have hbA : Below W.heap.size W (w4.alloc (.cells #[.int .i64 z] 3)) := HB4.out.alloc HB4.out.size _
  have HB5 := Lib.hid (hbA.trans (hb5.out.mono hbA.size))
  have hCl := HCC.out.2.2.2.1
  obtain ⟨oa, oc, ts', rfl, hn', hlike⟩ := hot.out.nodes (fun y hy => fit_of HR.out HN.out y.1 (HCC.out.2.2.1 y hy)) (fun y hy => by have := HCC.out.1.sizes y hy; omega) (by omega)
  obtain ⟨pa, pc, rfl, hp⟩ := hz.out.ints
  have hpl : (placesW len C).length = len := by simp [placesW]
  rw [hpl] at hp ⊢
  have hsh := out_shaped HR.out HCC.out.1 HCC.out.2.1 HCC.out.2.2.1 HCC.out.2.2.2.2.2 hlike
  have hsz := like_sz (lab := fun i => ts.getD i default) (C := C) hlike
  obtain ⟨q, hq, hqx, hqp⟩ := pos_of HCC.out.2.1 (HCC.out.2.2.2.2.1 x hx)
  obtain ⟨P, hPq, hPx, _⟩ := pos_of HCC.out.2.1 (HCC.out.2.2.2.2.1 p hplen)
  obtain ⟨hkl, hkq⟩ := kids_pos HCC.out.1 hsz hPq
  rw [hPx] at hkl hkq
  have hK : (mv (wd0 (sz ts) len) p A0 B0 ws).kids p = offL ws A0 ++ (ws ++ x :: offL ws bb) := by
    rw [mv_kids, HP.out.2.1, offL_cons HP.out.2.2.1]
  have hfew := HFEW.out
  rw [hK, List.length_append, List.length_append, List.length_cons] at hfew
  have HF200 := Lib.hid (show (offL ws A0).length ≤ 200 by omega)
  rw [hK] at hkl hkq
  have hkl2 := hkl
  rw [List.length_append, List.length_append, List.length_cons] at hkl2
  obtain ⟨j0, hj0⟩ : ∃ j0, (offL ws A0).length + ws.length = j0 := ⟨_, rfl⟩
  obtain ⟨r1, r2⟩ := hkq j0 (by rw [← hkl]; omega)
  have ex : (offL ws A0 ++ (ws ++ x :: offL ws bb)).getD j0 0 = x := by
    rw [← List.append_assoc, List.getD_eq_getElem?_getD, List.getElem?_append_right (by simp; omega), show j0 - (offL ws A0 ++ ws).length = 0 by simp; omega]
    rfl
  rw [ex] at r1
  have hjq : (kids (sz ts') P).getD j0 0 = q := by
    have h1 := posFrom_at HCC.out.2.1 r2
    rw [r1, hqp] at h1
    omega
  have hq0 : 1 ≤ q := by
    rcases Nat.eq_zero_or_pos q with e | e
    · exfalso
      obtain ⟨A, hA, _⟩ := HCC.out.1.one_inv
      rw [e, hA] at hqx
      have : (0 : Nat) = x := hqx
      omega
    · exact e
  rw [hCl] at hn' hsh hq hPq
  have hpar : par (sz ts') q = some P := (wkids_mem hsh.nest hPq hq).1 (by rw [← hjq]; exact getD_mem' (by omega))
  have HJ := Lib.hid (And.intro hj0 (And.intro hjq (And.intro hpar (And.intro hkl2 hPq))))
  have HKQ := Lib.hid (And.intro hkl (And.intro hkq (And.intro hsz hqx)))
  have htold := told7_any a len cap oa len oc ts' pa pc w5 hn' hsh (by omega)
  have HTOLD := Lib.hid htold
  have HOUT := Lib.hid (And.intro hn' (And.intro hsh (And.intro hp hqp)))
  clear htold hsh hn' hlike hp hot hz hb5 HOF hpl hkl hkq hsz hqx hqp hK hbA hfew hkl2 hj0 r1 r2 ex hjq hpar hPx hPq
  rw [hCl]
  go_wp2_with fail
  refine HTOLD.out.mono ?_
  rintro e w6 ⟨rfl, hb6⟩
  have HB6 := Lib.hid (HB5.out.trans (hb6.mono HB5.out.size))
  have HPI := Lib.hid (HOUT.out.2.2.1.below hb6)
  have HON := Lib.hid (HOUT.out.1.below hb6)
  obtain ⟨_, _, pb, poff, hpa, hpc⟩ := HPI.out.open
  obtain rfl := hpa hpos
  have cx := hpc x hx
  rw [places_get hx, HOUT.out.2.2.2] at cx
  have hzx := HP.out.2.2.2
  subst hzx
  have gl : ((len : Int) != (len : Int)) = false := by simp
  have g0 : decide ((q : Int) < 1) = false := by simp; omega
  have hxI : (x : Int) < (len : Int) := by omega
  have hbq := beside7_any oa len oc ts' q P w6 HON.out HOUT.out.2.1 hlen hq HJ.out.2.2.1 j0 (by rw [HJ.out.2.2.2.1, ← HJ.out.1]; omega) HJ.out.2.1
  have HKC := Lib.hid hbq
  clear hb6 HTOLD hbq hpc hpa
  go_wp2_with fail
  refine HKC.out.mono ?_
  rintro e w7 ⟨kv, rfl, hkv0, hb70⟩
  have hkv := hkv0.out
  have hb7 := hb70.out
  clear hkv0 hb70
  have HB7 := Lib.hid (HB6.out.trans (hb7.mono HB6.out.size))
  obtain ⟨ka, kc, rfl, hki⟩ := ownInts_ints hkv
  have hn2 := HN2.out
  obtain ⟨f0, hf0⟩ : ∃ f0, (offL ws A0).length = f0 := ⟨_, rfl⟩
  have hf200' : f0 ≤ 200 := by rw [← hf0]; exact HF200.out
  have hkl := HJ.out.2.2.2.1
  have hj0 := HJ.out.1
  rw [hf0] at hkl hj0
  have hkl2 : ((kids (sz ts') P).map fun (n : Nat) => (n : Int)).length = (kids (sz ts') P).length := by simp
  have hki2 : Ints w7 ka ((kids (sz ts') P).map fun (n : Nat) => (n : Int)).length ((kids (sz ts') P).map fun (n : Nat) => (n : Int)) := by rw [hkl2]; exact hki
  have hin := inRow_any ka kc ((kids (sz ts') P).map fun (n : Nat) => (n : Int)) f0 a2 n2 c2 zs2 (some ⟨pb, poff, none⟩) len pc (placesW len C) w7 hki2 (H2.out.1.below HB7.out) (HPI.out.below hb7) (by rw [hkl2]; omega) (fun i hi => by
    have hi' : i < ws.length := by omega
    have e1 : zs2.getD i 0 = ((ws.getD i 0 : Nat) : Int) := by rw [HP.out.1.eq]; exact map_get hi'
    have hwn := HP.out.1.lt _ (getD_mem' (d := 0) hi')
    rw [e1]
    refine ⟨by omega, by omega, ?_⟩
    obtain ⟨k1, k2⟩ := HKQ.out.2.1 (f0 + i) (by rw [List.length_append, List.length_append, hf0]; omega)
    have e2 : (offL ws A0 ++ (ws ++ x :: offL ws bb)).getD (f0 + i) 0 = ws.getD i 0 := by
      rw [List.getD_eq_getElem?_getD, List.getElem?_append_right (by omega), hf0, show f0 + i - f0 = i by omega, List.getElem?_append_left hi', ← List.getD_eq_getElem?_getD]
    rw [e2] at k1
    rw [map_get (by omega), Int.toNat_natCast, places_get hwn, ← k1]
    exact (posFrom_at HCC.out.2.1 k2).symm)
  rw [hkl2] at hin
  have hsub : (j0 : Int) - (n2 : Int) = (f0 : Int) := by omega
  obtain ⟨kl, hkl3⟩ : ∃ kl, (kids (sz ts') P).length = kl := ⟨_, rfl⟩
  rw [hkl3] at hin ⊢
  have hw64 : wrap64 (f0 : Int) = (f0 : Int) := IntWalk.wrap64_in _ (by omega)
  have hin2 : Calls Try.prog 22 #[.slice ka kl kc, .int .i64 (wrap64 ((j0 : Int) - (n2 : Int))), .slice a2 n2 c2, .slice (some ⟨pb, poff, none⟩) len pc] w7 (YesB w7) := by
    rw [hsub, hw64]
    exact hin
  have HIN := Lib.hid hin2
  clear hin hin2 hkv hb7 hki hki2 hkl hkl2 hkl3 HKC cx hf0 hn2 hsub hw64 hf200' hj0
  go_wp2_with fail
  refine HIN.out.mono ?_
  rintro e w8 ⟨rfl, hb8⟩
  have HB8 := Lib.hid (HB7.out.trans (hb8.mono HB7.out.size))
  clear hb8 HIN
  go_wp2
  go_ret
  exact ⟨rfl, HB8.out⟩

end Go.Proofs.Ytoleejaabiafcaa.lawFnInsertedBefore
