/- The walk of FnAfterMoves. -/
import Derived.Test.YtoleejaabiafcaaLawIns
import Derived.Test.YtoleejaabiafcaaAfterAll
import Derived.Test.YtoleejaabiafcaaFits
import Derived.Test.YtoleejaabiafcaaMovedAll
namespace Go.Proofs.Ytoleejaabiafcaa.lawFnAfterMoves
open Go.RowKit
set_option linter.unusedVariables false
set_option linter.unusedSimpArgs false

set_option maxRecDepth 100000 in
set_option maxHeartbeats 8000000 in
theorem walk {W : World} (a : Option Addr) (len cap : Nat) (ts : List NodeD) (h : Nodes W a len ts ∧ len ≤ cap ∧ cap ≤ maxLen) (z : Int) {P : Prop} (_ : P) (a2 : Option Addr) (n2 c2 : Nat) (zs2 : List Int) (h2 : Ints W a2 n2 zs2 ∧ n2 ≤ c2 ∧ c2 ≤ maxLen) :
    Calls Try.prog 6 #[.slice a len cap, .int .i64 z, .slice a2 n2 c2] W (YesB W) := by
  obtain ⟨hN, hN2⟩ := h
  obtain ⟨h2, hc2⟩ := h2
  have hm2 := h2.open.2.1
  have hlm := hN.len.2
  have HN := Lib.hid (And.intro hN hN2)
  have H2 := Lib.hid (And.intro h2 hc2)
  clear hN hN2 h2 hc2
  go_enter Try.func6, Try.ntmps6
  go_wp2_with fail
  refine (fits1_any a len cap ts W HN.out.1).mono ?_
  rintro e w1 ⟨b1, _, rfl, hb1⟩
  have HB1 := Lib.hid hb1
  clear hb1
  cases b1
  · go_wp2
    go_ret
    exact ⟨rfl, HB1.out⟩
  by_cases q1 : (2147483647 : Int) < (n2 : Int)
  · have g1 : decide ((2147483647 : Int) < (n2 : Int)) = true := by simp [q1]
    clear q1
    go_wp2
    go_ret
    exact ⟨rfl, HB1.out⟩
  have g1 : decide ((2147483647 : Int) < (n2 : Int)) = false := by simp [q1]
  clear q1
  have hbs1 := HB1.out.size
  have HBA := Lib.hid (HB1.out.alloc hbs1 (.cells #[.int .i64 z] 3))
  have HI1 := Lib.hid (ints_one w1 z)
  go_wp2_with fail
  refine (step7_any 3 (some ⟨w1.heap.size, 0, none⟩) 1 1 a2 n2 c2 _).mono ?_
  rintro e w2 ⟨rfl, hb2⟩
  have HB2 := Lib.hid (HBA.out.trans (hb2.out.mono HBA.out.size))
  have hsure := sure7_any w2 a len cap ts (HN.out.1.below HB2.out) 3 (some ⟨w1.heap.size, 0, none⟩) 1 1 a2 n2 c2 (InsPhi 3 len ts [z] zs2) (insPhi_ok _ _ _ _ _) (insSays_after (HI1.out.below hb2.out) (H2.out.1.below HB2.out))
  have HS := Lib.hid hsure
  clear hsure hb2 HB1 HBA
  go_wp2_with fail
  refine HS.out.mono ?_
  rintro e w4 ⟨b4, rfl, hsay, hb4⟩
  have HB4 := Lib.hid (HB2.out.trans (hb4.out.mono HB2.out.size))
  cases b4
  · clear hsay hb4
    go_wp2
    go_ret
    exact ⟨rfl, HB4.out⟩
  obtain ⟨n, pl, lab, F, hR, hphi⟩ := hsay rfl
  obtain ⟨_, _, _, x, ws, p, A0, B0, hp1, hp2, hne, hap, htg, _⟩ := hphi
  have hlen := hR.le
  have hpos := hR.pos
  have hx : x < len := hp1.lt x (by simp)
  have hzx : z = (x : Int) := by have := hp1.eq; simpa using this
  have hF := wd0_ok hR.nest
  have hplen := target_lt hF hx htg
  obtain ⟨hkp, hcase⟩ := htg
  obtain ⟨hpx, hA0⟩ : (wd0 (sz ts) len).up x = some p ∧ ∃ a, A0 = a ++ [x] := by
    rcases hcase with ⟨h1, _⟩ | ⟨_, h1, h2⟩ | ⟨h1, _⟩
    · omega
    · exact ⟨h1, h2⟩
    · omega
  have hxw := Target.notin hap
  have hx1 := hp1.pos x (by simp)
  have htg : Target 3 (fun i => ts.getD i default) (wd0 (sz ts) len) x p A0 B0 := ⟨hkp, hcase⟩
  have hclr := htg.clear hap
  obtain ⟨C, hC, hnd, hClt, hCl, hall, hok, hkk⟩ := ins_order hR hx htg hap hp2.nd (fun v hv => ⟨hp2.lt v hv, hp2.pos v hv⟩)
  have hwl : ws.length ≤ 200 := Nat.le_trans hp2.le hlen
  have hn2 : n2 = ws.length := by
    have h1 := H2.out.1.open.1
    rw [hp2.eq] at h1
    simpa using h1.symm
  have hof := fun (wq : World) (hb : Below W.heap.size W wq) => afterOf_any (wq.alloc (.cells #[.int .i64 z] 3)) a len cap ts hR (HN.out.1.below (hb.alloc hb.size _)) (.slice (some ⟨wq.heap.size, 0, none⟩) 1 1) x (ints_reads (l := [x]) (ints_one wq z) (by rw [hzx]; rfl) (by omega) (by unfold maxLen; omega)) hx (.slice a2 n2 c2) ws (ints_reads (H2.out.1.below (hb.alloc hb.size _)) hp2.eq H2.out.2.1 H2.out.2.2) hp2.lt hp2.nd hwl hplen hkp hpx hA0 hxw hclr C hC
  have HOF := Lib.hid (hof w4 HB4.out)
  have HR := Lib.hid hR
  have HCC := Lib.hid (And.intro hC (And.intro hnd (And.intro hClt (And.intro hCl (And.intro hall hkk)))))
  have hap2 : ∀ v ∈ ws, ∀ v' ∈ ws, Anc (wd0 (sz ts) len) v v' → v = v' := fun v hv v' hv' ha => by
    obtain ⟨i, hi, rfl⟩ := List.getElem_of_mem hv
    obtain ⟨j, hj, rfl⟩ := List.getElem_of_mem hv'
    by_cases e : j = i
    · subst e; rfl
    · have h1 := hap.each i j hi hj e
      simp [List.getD, hi, hj] at h1
      exact absurd ha h1
  have h0w : 0 ∉ ws := fun h => by have := hp2.pos 0 h; omega
  have hoth := fun i j hij hj hi2 hj2 => moved_others hR.nest hpos hR.root hplen hkp h0w hok hC (i := i) (j := j) hij hj hi2 hj2
  have hsub := fun w hw => moved_sub hR.nest hclr hap2 hC hnd (w := w) hw (hp2.lt w hw) (hall w (hp2.lt w hw))
  have HMV := Lib.hid (And.intro hoth hsub)
  have HP2 := Lib.hid hp2
  clear hof hR hC hnd hClt hall hkk hok hp1 hp2 hne hap htg hkp hcase hclr hF hsay hb4 HS hCl hzx hpx hA0 hxw hap2 hoth hsub h0w
  have HN2 := Lib.hid hn2
  clear hn2
  go_wp2_with fail
  refine HOF.out.mono ?_
  rintro e w5 ⟨tv, pv, rfl, hot, hz, hb5⟩
  have hbA : Below W.heap.size W (w4.alloc (.cells #[.int .i64 z] 3)) := HB4.out.alloc HB4.out.size _
  have HB5 := Lib.hid (hbA.trans (hb5.out.mono hbA.size))
  have hCl := HCC.out.2.2.2.1
  obtain ⟨oa, oc, ts', rfl, hn', hlike⟩ := hot.out.nodes (fun y hy => fit_of HR.out HN.out.1 y.1 (HCC.out.2.2.1 y hy)) (fun y hy => by have := HCC.out.1.sizes y hy; omega) (by omega)
  obtain ⟨pa, pc, rfl, hp⟩ := hz.out.ints
  have hcap := hot.out.cap
  have hpl : (placesW len C).length = len := by simp [placesW]
  rw [hpl] at hp ⊢
  have hsh := out_shaped HR.out HCC.out.1 HCC.out.2.1 HCC.out.2.2.1 HCC.out.2.2.2.2.2 hlike
  rw [hCl] at hn' hsh hcap
  have hmv : Moved ts ts' len ws (placesW len C) := by
    refine ⟨fun i hi => ?_, fun i j hij hj hi2 hj2 => ?_, fun w hw => ?_⟩
    · obtain ⟨q, h1, _, h3⟩ := pos_of HCC.out.2.1 (HCC.out.2.2.2.2.1 i hi)
      rw [places_get hi, h3]
      omega
    · rw [places_get (by omega), places_get hj]
      exact HMV.out.1 i j hij hj hi2 hj2
    · have hwl := HP2.out.lt w hw
      obtain ⟨q, h1, h2⟩ := HMV.out.2 w hw
      refine ⟨hwl, q, by omega, fun j hj => ?_⟩
      obtain ⟨h3, h4⟩ := h2 j hj
      have hfit := HR.out.nest.fit w hwl
      have hwj : w + j < len := by omega
      refine ⟨by rw [places_get hwj]; exact h4, ?_⟩
      obtain ⟨k1, k2, k3, k4, k5⟩ := hlike (q + j) (by omega)
      rw [h3] at k1 k2 k3 k4 k5
      exact ⟨k1, k2, k3, k4, k5.trans (HR.out.sizes (w + j) hwj).2.1.symm⟩
  have hmc := moved7_any a len cap ts oa oc ts' pa pc (placesW len C) a2 n2 c2 zs2 ws w5 (HN.out.1.below HB5.out) HN.out.2 HR.out hn' hcap hsh hp (H2.out.1.below HB5.out) HP2.out.eq hmv
  have HMC := Lib.hid hmc
  clear hmc hmv hcap hn' hlike hp hot hz hb5 HOF hpl hsh
  rw [hCl]
  go_wp2_with fail
  refine HMC.out.mono ?_
  rintro e w6 ⟨rfl, hb6⟩
  have HB6 := Lib.hid (HB5.out.trans (hb6.mono HB5.out.size))
  clear hb6 HMC
  go_wp2
  go_ret
  exact ⟨rfl, HB6.out⟩

end Go.Proofs.Ytoleejaabiafcaa.lawFnAfterMoves
