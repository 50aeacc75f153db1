/- The walk of FnWrapOf. -/
import Derived.Test.YtoleejaabiafcaaWrapKAll
import Derived.Test.YtoleejaabiafcaaWrapDom
import Derived.Test.YtoleejaabiafcaaFits
namespace Go.Proofs.Ytoleejaabiafcaa.lawFnWrapOf
open Go.RowKit
set_option linter.unusedVariables false
set_option linter.unusedSimpArgs false

set_option maxRecDepth 100000 in
set_option maxHeartbeats 4000000 in
theorem walk {W : World} (a : Option Addr) (len cap : Nat) (ts : List NodeD) (h : Nodes W a len ts ∧ len ≤ cap ∧ cap ≤ maxLen) (a1 : Option Addr) (n1 c1 : Nat) (zs : List Int) (h1 : Ints W a1 n1 zs ∧ n1 ≤ c1 ∧ c1 ≤ maxLen) (q : Int) {P : Prop} (_ : P) :
    Calls Try.prog 9 #[.slice a len cap, .slice a1 n1 c1, .int .i64 q] W (YesB W) := by
  obtain ⟨hN, hN2⟩ := h
  obtain ⟨h1, hc1⟩ := h1
  have hm1 := h1.open.2.1
  have hlt := hN.len.1
  have HN := Lib.hid hN
  have H1 := Lib.hid (And.intro h1 hc1)
  clear hN hN2 h1 hc1
  go_enter Try.func9, Try.ntmps9
  go_wp2_with fail
  refine (fits1_any a len cap ts W HN.out).mono ?_
  rintro e w1 ⟨b1, _, rfl, hb1⟩
  have HB1 := Lib.hid hb1
  clear hb1
  cases b1
  · go_wp2
    go_ret
    exact ⟨rfl, HB1.out⟩
  by_cases q1 : (2147483647 : Int) < (n1 : Int)
  · have g1 : decide ((2147483647 : Int) < (n1 : Int)) = true := by simp [q1]
    clear q1
    go_wp2
    go_ret
    exact ⟨rfl, HB1.out⟩
  have g1 : decide ((2147483647 : Int) < (n1 : Int)) = false := by simp [q1]
  clear q1
  obtain ⟨G, hG⟩ : ∃ G, w1.heap.size = G := ⟨_, rfl⟩
  obtain ⟨wq, hwq⟩ : ∃ wq, w1.alloc (.cells #[.int .i64 q] 3) = wq := ⟨_, rfl⟩
  have hbq : Below W.heap.size W wq := by rw [← hwq]; exact HB1.out.alloc HB1.out.size _
  have hcq : wq.cell? ⟨w1.heap.size, 0, none⟩ = some (.int .i64 q) := by rw [← hwq]; exact cell_alloc_new' _ _ _ rfl rfl
  have hiq : Ints wq (some ⟨w1.heap.size, 0, none⟩) 1 [q] := ⟨rfl, by decide, fun _ => ⟨w1.heap.size, 0, rfl, fun i hi => by
    obtain rfl : i = 0 := by omega
    exact hcq⟩⟩
  have HBQ := Lib.hid hbq
  have HIQ := Lib.hid hiq
  clear hbq hiq hcq hG
  go_wp2_with fail
  refine (step7_any 9 a1 n1 c1 (some ⟨w1.heap.size, 0, none⟩) 1 1 wq).mono ?_
  rintro e w2 ⟨rfl, hb2⟩
  obtain ⟨W3, hW3⟩ : ∃ W3, w2.alloc (.cells #[.int .i64 9, .slice a1 n1 c1, .slice (some ⟨w1.heap.size, 0, none⟩) 1 1, .string ⟨#[]⟩, .string ⟨#[]⟩, .slice none 0 0] 27) = W3 := ⟨_, rfl⟩
  have hb02 := HBQ.out.trans (hb2.out.mono HBQ.out.size)
  have hbq3 : Below wq.heap.size wq W3 := by rw [← hW3]; exact hb2.out.alloc hb2.out.size _
  have HIQ3 := Lib.hid (HIQ.out.below hbq3)
  have hb3 : Below W.heap.size W W3 := by rw [← hW3]; exact hb02.alloc hb02.size _
  have o3 : World.objAt W3 w2.heap.size #[.int .i64 9, .slice a1 n1 c1, .slice (some ⟨w1.heap.size, 0, none⟩) 1 1, .string ⟨#[]⟩, .string ⟨#[]⟩, .slice none 0 0] 27 := by rw [← hW3]; exact objAt_alloc_new w2 _ _
  have hsure := sure7_any W3 a len cap ts (HN.out.below hb3) 9 a1 n1 c1 (some ⟨w1.heap.size, 0, none⟩) 1 1 (WrapPhi len ts zs [q]) (wrapPhi_ok len ts zs [q]) (wrapSays (H1.out.1.below hb3) HIQ3.out (HN.out.below hb3))
  have c0 : W3.cell? ⟨w2.heap.size, 0, none⟩ = some (.int .i64 9) := o3.cell (i := 0) rfl
  have c1' : W3.cell? ⟨w2.heap.size, 1, none⟩ = some (.slice a1 n1 c1) := o3.cell (i := 1) rfl
  have c2 : W3.cell? ⟨w2.heap.size, 2, none⟩ = some (.slice (some ⟨w1.heap.size, 0, none⟩) 1 1) := o3.cell (i := 2) rfl
  have c3 : W3.cell? ⟨w2.heap.size, 3, none⟩ = some (.string ⟨#[]⟩) := o3.cell (i := 3) rfl
  have c4 : W3.cell? ⟨w2.heap.size, 4, none⟩ = some (.string ⟨#[]⟩) := o3.cell (i := 4) rfl
  have c5 : W3.cell? ⟨w2.heap.size, 5, none⟩ = some (.slice none 0 0) := o3.cell (i := 5) rfl
  have HC := Lib.hid (And.intro c0 (And.intro c1' (And.intro c2 (And.intro c3 (And.intro c4 c5)))))
  have HS := Lib.hid hsure
  have HB3 := Lib.hid hb3
  clear hsure hb2 hb02 hb3 o3 HB1 hbq3
  subst hW3
  go_wp2_with fail
  refine HS.out.mono ?_
  rintro e w4 ⟨b4, rfl, hsay, hb4⟩
  have HB4 := Lib.hid (HB3.out.trans (hb4.out.mono HB3.out.size))
  have HIQ4 := Lib.hid (HIQ3.out.below hb4.out)
  cases b4
  · clear hsay hb4
    go_wp2
    go_ret
    exact ⟨rfl, HB4.out⟩
  obtain ⟨n, pl, lab, F, hR, hphi⟩ := hsay rfl
  obtain ⟨h6, hold, hnew, xs, wd, L, hp1, hp2, hx0, hL, hside, hknd, hM⟩ := hphi
  have HR := Lib.hid hR
  have hlen := hR.le
  have hF0 := wd0_ok hR.nest
  have hqw : q = (wd : Int) := by
    have h9 := hp2.eq
    simpa using h9
  have hwd := hp2.lt wd (by simp)
  obtain ⟨hF, hnn, hlabs, hallf⟩ := hM.ok hside (wrMid0 hF0 (fun i => ts.getD i default) L xs)
  have hfit2 := hallf FitN (fit_of hR HN.out)
  obtain ⟨C, hC, hnd, hClt, hCl⟩ := hF.sized (x := 0) (by have := hR.pos; omega)
  have hrem := wrapOf_any w4 a len cap ts hR (HN.out.below HB4.out) (.slice a1 n1 c1) xs (hp1.reads (H1.out.1.below HB4.out) H1.out.2.1 H1.out.2.2) (List.length_pos_iff.2 hx0) (Nat.le_trans hp1.le hlen) hwd hside hL hM h6 C hC hnd hClt (by omega)
  rw [← hqw] at hrem
  have HRM := Lib.hid hrem
  have HPK := Lib.hid (And.intro hp1 (And.intro hp2 (And.intro hside (And.intro hM (And.intro hfit2 (And.intro h6 (And.intro hL hF0)))))))
  have HCC := Lib.hid (And.intro hC (And.intro hnd (And.intro hClt hCl)))
  have d0 := cell_below hb4.out HC.out.1
  have d1 := cell_below hb4.out HC.out.2.1
  have d2 := cell_below hb4.out HC.out.2.2.1
  have d3 := cell_below hb4.out HC.out.2.2.2.1
  have d4 := cell_below hb4.out HC.out.2.2.2.2.1
  have d5 := cell_below hb4.out HC.out.2.2.2.2.2
  clear hrem hp1 hp2 hside hM hfit2 h6 hold hnew hx0 hL hF0 hnn hlabs hallf hC hnd hClt hCl hF hR hb4 hsay hqw hwd hknd c0 c1' c2 c3 c4 c5 HS
  go_wp2_with fail
  refine HRM.out.mono ?_
  rintro e w5 ⟨tv, pv, rfl, hot, hz, hb5⟩
  have HB5 := Lib.hid (HB4.out.trans (hb5.out.mono HB4.out.size))
  have e0 := cell_below hb5.out d0
  have e1 := cell_below hb5.out d1
  have e2 := cell_below hb5.out d2
  have e3 := cell_below hb5.out d3
  have e4 := cell_below hb5.out d4
  have e5 := cell_below hb5.out d5
  have has := as7_any w5 a len cap ts (HN.out.below HB5.out) 9 a1 n1 c1 (some ⟨w1.heap.size, 0, none⟩) 1 1 (WrapPhi len ts zs [q]) (wrapPhi_ok len ts zs [q]) (wrapSays (H1.out.1.below HB5.out) (HIQ4.out.below hb5.out) (HN.out.below HB5.out)) tv pv lab C (placesW len C) hot.out hz.out
    (fun y hy => ⟨HPK.out.2.2.2.2.1 y.1 (HCC.out.2.2.1 y hy), by have := HCC.out.1.sizes y hy; have := HCC.out.2.2.2; have := HPK.out.2.2.2.2.2.1; omega⟩) (by have := HCC.out.2.2.2; have := HPK.out.2.2.2.2.2.1; omega)
    (by
      rintro n' pl' lab' F' C' ⟨h6', hold', hnew', xs', wd', L', hp1', hp2', hx0', hL', hs', hk', hM'⟩ hC'
      obtain rfl := HPK.out.1.det hp1'
      have hww := HPK.out.2.1.det hp2'
      simp only [List.cons.injEq, and_true] at hww
      subst hww
      obtain rfl := HPK.out.2.2.2.2.2.2.1.det hL'
      obtain ⟨e1, e2, e3⟩ := HPK.out.2.2.2.1.det HPK.out.2.2.1 (wrMid0 HPK.out.2.2.2.2.2.2.2 (fun i => ts.getD i default) L xs) (fun _ _ => rfl) hM'
      subst e1 e2
      obtain rfl := hC'.det HCC.out.1
      exact ⟨List.map_congr_left (fun y hy => by rw [e3 y.1 (HCC.out.2.2.1 y hy)]), atSet_many (fun i hi => (hold' i hi).1) hnew' HCC.out.2.1 HCC.out.2.2.1⟩)
  have HAS := Lib.hid has
  clear has hot hz hb5 d0 d1 d2 d3 d4 d5 HRM
  go_wp2_with fail
  refine HAS.out.mono ?_
  rintro e w6 ⟨rfl, hb6⟩
  have HB6 := Lib.hid (HB5.out.trans (hb6.mono HB5.out.size))
  clear hb6 HAS
  go_wp2
  go_ret
  exact ⟨rfl, HB6.out⟩

end Go.Proofs.Ytoleejaabiafcaa.lawFnWrapOf
