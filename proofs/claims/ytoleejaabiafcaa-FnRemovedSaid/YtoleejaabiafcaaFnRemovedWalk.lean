/- The walk of FnRemoved. -/
import Derived.Test.YtoleejaabiafcaaRemSays
import Derived.Test.YtoleejaabiafcaaRemoveOf
import Derived.Test.YtoleejaabiafcaaFits
import Derived.Test.YtoleejaabiafcaaOutShape
import Derived.Test.YtoleejaabiafcaaRemovedPure
import Derived.Test.YtoleejaabiafcaaIsPlace
import Derived.Test.YtoleejaabiafcaaKids
namespace Go.Proofs.Ytoleejaabiafcaa.lawFnRemoved
open Go.RowKit
set_option linter.unusedVariables false
set_option linter.unusedSimpArgs false

set_option maxRecDepth 100000 in
set_option maxHeartbeats 8000000 in
theorem walk {W : World} (a : Option Addr) (len cap : Nat) (ts : List NodeD) (h : Nodes W a len ts ∧ len ≤ cap ∧ cap ≤ maxLen) (a1 : Option Addr) (n1 c1 : Nat) (zs : List Int) (h1 : Ints W a1 n1 zs ∧ n1 ≤ c1 ∧ c1 ≤ maxLen) :
    Calls Try.prog 4 #[.slice a len cap, .slice a1 n1 c1] W (YesB W) := by
  obtain ⟨hN, hN2⟩ := h
  obtain ⟨h1, hc1⟩ := h1
  have hm1 := h1.open.2.1
  have hlt := hN.len.1
  have hlm := hN.len.2
  have HN := Lib.hid hN
  have H1 := Lib.hid (And.intro h1 hc1)
  clear hN hN2 h1 hc1
  go_enter Try.func4, Try.ntmps4
  go_wp2_with fail
  refine (fits1_any a len cap ts W HN.out).mono ?_
  rintro e w1 ⟨b1, _, rfl, hb1⟩
  have HB1 := Lib.hid hb1
  clear hb1
  cases b1
  · go_wp2
    go_ret
    exact ⟨rfl, HB1.out⟩
  by_cases q1 : (2147483647 : Int) < (n1 : Int)
  · have g1 : decide ((2147483647 : Int) < (n1 : Int)) = true := by simp [q1]
    clear q1
    go_wp2
    go_ret
    exact ⟨rfl, HB1.out⟩
  have g1 : decide ((2147483647 : Int) < (n1 : Int)) = false := by simp [q1]
  clear q1
  go_wp2_with fail
  refine (step7_any 6 a1 n1 c1 none 0 0 w1).mono ?_
  rintro e w2 ⟨rfl, hb2⟩
  have HB2 := Lib.hid (HB1.out.trans (hb2.out.mono HB1.out.size))
  have hsure := sure7_any w2 a len cap ts (HN.out.below HB2.out) 6 a1 n1 c1 none 0 0 (RemPhi len ts zs) (remPhi_ok len ts zs) (remSays (H1.out.1.below HB2.out))
  have HS := Lib.hid hsure
  clear hsure hb2 HB1
  go_wp2_with fail
  refine HS.out.mono ?_
  rintro e w4 ⟨b4, rfl, hsay, hb4⟩
  have HB4 := Lib.hid (HB2.out.trans (hb4.out.mono HB2.out.size))
  cases b4
  · clear hsay hb4
    go_wp2
    go_ret
    exact ⟨rfl, HB4.out⟩
  obtain ⟨n, pl, lab, F, hR, hphi⟩ := hsay rfl
  obtain ⟨_, _, _, l, hpk, _⟩ := hphi
  have HR := Lib.hid hR
  have hlen := hR.le
  have hpos := hR.pos
  have hll : l.length ≤ 200 := Nat.le_trans hpk.le hlen
  have hF := (wd0_ok hR.nest).cuts l
  obtain ⟨C, hC, hnd, hClt, hCl⟩ := hF.sized hR.pos
  have hrem := removeOf_any w4 a len cap ts hR (HN.out.below HB4.out) (.slice a1 n1 c1) l (hpk.reads (H1.out.1.below HB4.out) H1.out.2.1 H1.out.2.2) hpk.lt (once_nodup hpk.nd) hll C hC
  obtain ⟨g, ho1, ho2, ho3⟩ := removed_order hR.nest hpos hR.root (l := l) (fun h0 => by have := hpk.pos 0 h0; omega) hC
  have HRM := Lib.hid hrem
  have HPK := Lib.hid hpk
  have HCC := Lib.hid (And.intro hC (And.intro hnd (And.intro hClt hCl)))
  have HG := Lib.hid (And.intro ho1 (And.intro ho2 ho3))
  clear hrem hpk hC hnd hClt hF hR hb4 hsay HS ho1 ho2 ho3
  go_wp2_with fail
  refine HRM.out.mono ?_
  rintro e w5 ⟨tv, pv, rfl, hot, hz, hb5⟩
  have HB5 := Lib.hid (HB4.out.trans (hb5.out.mono HB4.out.size))
  obtain ⟨oa, oc, ts', rfl, hn', hlike⟩ := hot.out.nodes (fun y hy => fit_of HR.out HN.out y.1 (HCC.out.2.2.1 y hy)) (fun y hy => by have := HCC.out.1.sizes y hy; omega) (by omega)
  obtain ⟨pa, pc, rfl, hp⟩ := hz.out.ints
  have hpl : (placesW len C).length = len := by simp [placesW]
  rw [hpl] at hp ⊢
  have hsh := out_shaped HR.out HCC.out.1 HCC.out.2.1 HCC.out.2.2.1 (fun x hx hk => wd0_kk HR.out x hx (cutsW_kids l _ x hk)) hlike
  have htold := told7_any a len cap oa C.length oc ts' pa pc w5 hn' hsh (by omega)
  have HTOLD := Lib.hid htold
  have HOUT := Lib.hid (And.intro hn' (And.intro hlike hp))
  clear htold hsh hn' hlike hp hot hz hb5 HRM hpl
  go_wp2_with fail
  refine HTOLD.out.mono ?_
  rintro e w6 ⟨rfl, hb6⟩
  have HB6 := Lib.hid (And.intro hb6 (HB5.out.trans (hb6.mono HB5.out.size)))
  clear hb6 HTOLD
  go_wp2
  go_loopw [8, 9] (fun nv iv wr => ∃ i : Nat, i ≤ len ∧ iv = .int .i64 (i : Int) ∧ nv = .int .i64 (cnt g i : Int) ∧ Hid (Below w6.heap.size w6 wr)) (fun _ iv _ => len - (intOf iv).toNat)
  case atStart => exact ⟨0, by omega, by go_num, by go_num, Lib.hid (Below.refl _ _)⟩
  case round =>
    obtain ⟨i, hi, rfl, rfl, HBr⟩ := hrel
    by_cases hlt2 : i < len
    · obtain ⟨wo, hwo⟩ : ∃ wo, wo = wr := ⟨_, rfl⟩
      subst hwo
      have hiI : (i : Int) < (len : Int) := by omega
      go_wp2
      go_loopw [10] (fun tv w9 => Hid (w9 = wo) ∧ ((∃ y : Nat, tv = .int .i64 (y : Int) ∧ y < len ∧ Hid (Anc (wd0 (sz ts) len) y i) ∧ Hid (∀ x ∈ l, Anc (wd0 (sz ts) len) x i → Anc (wd0 (sz ts) len) x y)) ∨ (tv = .int .i64 (-1) ∧ Hid (∀ x ∈ l, ¬ Anc (wd0 (sz ts) len) x i)))) (fun tv _ => (intOf tv + 1).toNat)
      case atStart => exact ⟨Lib.hid rfl, .inl ⟨i, by go_num, hlt2, Lib.hid .refl, Lib.hid (fun x _ h => h)⟩⟩
      case round =>
        obtain ⟨HE, hcase⟩ := hrel
        have he := HE.out
        subst he
        have hBw : Below W.heap.size W wr := HB6.out.2.trans (HBr.out.mono HB6.out.2.size)
        have hB5w : Below w5.heap.size w5 wr := HB6.out.1.trans (HBr.out.mono HB6.out.1.size)
        have HBW := Lib.hid (And.intro hBw hB5w)
        clear hBw hB5w
        rcases hcase with ⟨y, rfl, hyl, HAN, HUP⟩ | ⟨rfl, HNO⟩
        · have hcall := isPlace_any a1 n1 c1 zs (y : Int) wr (H1.out.1.below HBW.out.1)
          have HCALL := Lib.hid hcall
          clear hcall
          go_wp2_with fail
          refine HCALL.out.mono ?_
          rintro e wb ⟨b, rfl, hb, rfl⟩
          cases b
          · have hyn : y ∉ l := fun hm => by
              have : (y : Int) ∈ zs := by rw [HPK.out.eq]; exact List.mem_map_of_mem (f := fun (n : Nat) => (n : Int)) hm
              have := hb.2 this
              simp at this
            have hpar := parent_any a len cap ts y wr (HN.out.below HBW.out.1) HR.out.sizes HR.out.nest.fit hyl
            have HPAR := Lib.hid hpar
            have HYN := Lib.hid hyn
            clear hb hpar hyn HCALL
            go_wp2_with fail
            refine HPAR.out.mono ?_
            rintro e wc ⟨rfl, rfl⟩
            cases hpy : par (sz ts) y with
            | none =>
              have hno : ∀ x ∈ l, ¬ Anc (wd0 (sz ts) len) x i := fun x hx hxi => by
                rcases (HUP.out x hx hxi).inv with e | ⟨q, hq, _⟩
                · exact HYN.out (e ▸ hx)
                · rw [wd0_up hyl, hpy] at hq
                  cases hq
              have HNO := Lib.hid hno
              clear hno hpy
              simp only [parI]
              go_wp2
              refine ⟨?rel, ?measure⟩
              case rel => exact ⟨Lib.hid (by simp), .inr ⟨by go_num, HNO⟩⟩
              case measure => (simp [intOf]; try omega)
            | some p =>
              have hp1 := (par_some hpy).1
              have hap : Anc (wd0 (sz ts) len) p i := Anc.trans (.step (by rw [wd0_up hyl]; exact hpy) .refl) HAN.out
              have hup : ∀ x ∈ l, Anc (wd0 (sz ts) len) x i → Anc (wd0 (sz ts) len) x p := fun x hx hxi => by
                rcases (HUP.out x hx hxi).inv with e | ⟨q, hq, hqa⟩
                · exact absurd (e ▸ hx) HYN.out
                · rw [wd0_up hyl, hpy] at hq
                  cases hq
                  exact hqa
              have HAP := Lib.hid hap
              have HUP2 := Lib.hid hup
              clear hap hup hpy
              simp only [parI]
              go_wp2
              refine ⟨?rel, ?measure⟩
              case rel => exact ⟨Lib.hid (by simp), .inl ⟨p, by go_num, by omega, HAP, HUP2⟩⟩
              case measure => simp [intOf]; omega
          · have hyz : (y : Int) ∈ zs := hb.1 rfl
            have hym : y ∈ l := by
              rw [HPK.out.eq] at hyz
              obtain ⟨q, hq, he⟩ := List.mem_map.1 hyz
              have : q = y := by omega
              rw [← this]
              exact hq
            have hgi : ¬ g i = true := fun h => (HG.out.2.1 i).1 h y hym HAN.out
            obtain ⟨_, _, pb, poff, hpa, hpc⟩ := (HOUT.out.2.2.below HBW.out.2).open
            obtain rfl := hpa (by omega)
            have cp := hpc i hlt2
            have hpi : (placesW len C).getD i 0 = -1 := by
              have := HG.out.2.2 i hlt2
              rw [if_neg hgi] at this
              rw [← this]
              simp [placesW, List.getD, hlt2]
            rw [hpi] at cp
            have hcn : cnt g (i + 1) = cnt g i := by rw [cnt_succ, if_neg hgi, Nat.add_zero]
            have HCN := Lib.hid hcn
            clear hb hyz hym hgi hpc hpi hcn HCALL
            go_wp2
            refine ⟨?rel, ?measure⟩
            case rel => exact ⟨i + 1, by omega, by go_num, by rw [HCN.out], HBr⟩
            case measure => simp [intOf]; omega
        · have hgi : g i = true := (HG.out.2.1 i).2 HNO.out
          obtain ⟨_, _, pb, poff, hpa, hpc⟩ := (HOUT.out.2.2.below HBW.out.2).open
          obtain rfl := hpa (by omega)
          have cp := hpc i hlt2
          obtain ⟨m, hm⟩ : ∃ m, cnt g i = m := ⟨_, rfl⟩
          have hpi : (placesW len C).getD i 0 = (m : Int) := by
            have := HG.out.2.2 i hlt2
            rw [if_pos hgi, hm] at this
            rw [← this]
            simp [placesW, List.getD, hlt2]
          rw [hpi] at cp
          have hmC : m < C.length := by
            have h2 := cnt_succ g i
            rw [if_pos hgi, hm] at h2
            have h3 := cnt_le g (show i + 1 ≤ len by omega)
            have h4 : C.length = cnt g len := by
              have := congrArg List.length HG.out.1
              simpa [cnt] using this
            omega
          have hCm : (C.getD m default).1 = i := by
            have h1 := cnt_at hlt2 hgi
            rw [hm, ← HG.out.1] at h1
            simp only [List.getD_eq_getElem?_getD, List.getElem?_map, List.getElem?_eq_getElem hmC, Option.map_some, Option.getD_some] at h1 ⊢
            exact h1
          obtain ⟨k1, k2, k3, _, _⟩ := HOUT.out.2.1 m hmC
          rw [hCm] at k1 k2 k3
          obtain ⟨ob, ooff, rfl, hoc⟩ := (HOUT.out.1.below HBW.out.2).at (by omega)
          obtain ⟨tb, toff, rfl, htc⟩ := (HN.out.below HBW.out.1).at hpos
          have o0 := (hoc m hmC).kind
          have o1 := (hoc m hmC).tag
          have o2 := (hoc m hmC).text
          have t0 := (htc i hlt2).kind
          have t1 := (htc i hlt2).tag
          have t2 := (htc i hlt2).text
          (try simp only at k1 k2 k3)
          rw [k1] at o0
          rw [k2] at o1
          rw [k3] at o2
          obtain ⟨vk, hvk⟩ : ∃ v, (ts.getD i default).kind = v := ⟨_, rfl⟩
          obtain ⟨vt, hvt⟩ : ∃ v, (ts.getD i default).tag = v := ⟨_, rfl⟩
          obtain ⟨vx, hvx⟩ : ∃ v, (ts.getD i default).text = v := ⟨_, rfl⟩
          rw [hvk] at o0 t0
          rw [hvt] at o1 t1
          rw [hvx] at o2 t2
          have r1 : ((m : Int) != (m : Int)) = false := by simp
          have r2 : decide ((C.length : Int) ≤ (m : Int)) = false := by simp; omega
          have r2' : decide (C.length ≤ m) = false := by simp; omega
          have r3 : (vk != vk) = false := by simp
          have r4 : (vt.toList != vt.toList) = false := by simp
          have r5 : (vx.toList != vx.toList) = false := by simp
          have hmI : (m : Int) < (C.length : Int) := by omega
          have hcn : cnt g (i + 1) = m + 1 := by rw [cnt_succ, if_pos hgi, hm]
          have HCN := Lib.hid hcn
          clear hgi hpc hpi hoc htc k1 k2 k3 hvk hvt hvx hCm hcn
          rw [hm]
          clear hm
          go_wp2
          go_quiet (fail)
          go_wp2
          refine ⟨?rel, ?measure⟩
          case rel => exact ⟨i + 1, by omega, by go_num, by rw [HCN.out]; go_num, Lib.hid (below_drewN HBr.out _)⟩
          case measure => simp [intOf]; omega
    · obtain rfl : i = len := by omega
      have hcl : C.length = cnt g i := by
        have := congrArg List.length HG.out.1
        simpa [cnt] using this
      have gc : ((cnt g i : Int) == (C.length : Int)) = true := by rw [hcl]; simp
      go_wp2
      go_ret
      exact ⟨rfl, HB6.out.2.trans (HBr.out.mono HB6.out.2.size)⟩

end Go.Proofs.Ytoleejaabiafcaa.lawFnRemoved
