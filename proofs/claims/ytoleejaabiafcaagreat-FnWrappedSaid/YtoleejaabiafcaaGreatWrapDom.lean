/- goquery: the first kid that is an element; AppendNodes of one node at one. goquery: WrapAllNode of one node. goquery: wrapAllNodes, Each, wrapNodes and WrapNode. goquery: wrapNodes, WrapNode; impl: WrapOf. -/
import Derived.Test.YtoleejaabiafcaaGreatWrapKAll
import Derived.Test.YtoleejaabiafcaaGreatCloneAll
import Derived.Test.YtoleejaabiafcaaGreatDomIns
import Derived.Test.YtoleejaabiafcaaGreatOneSel
import Derived.Test.YtoleejaabiafcaaGreatRemSelAll
import Derived.Test.YtoleejaabiafcaaGreatEndsMany
import Derived.Test.YtoleejaabiafcaaGreatRemAll
namespace Go.Proofs.YtoleejaabiafcaaGreat
open Go.RowKit
set_option linter.unusedVariables false
set_option linter.unusedSimpArgs false

def LkPost (o : Option Nat) (w : World) (e : Ending) (w' : World) : Prop := e = .returned (lk o) ∧ w = w'

theorem head_filter {f : Nat → Bool} : ∀ {A rest : List Nat}, (∀ a ∈ A, f a = false) → ((A ++ rest).filter f).head? = (rest.filter f).head?
  | [], _, _ => rfl
  | a :: r, rest, h => by
    rw [List.cons_append, List.filter_cons, if_neg (by rw [h a (List.mem_cons_self ..)]; simp)]
    exact head_filter (fun b hb => h b (List.mem_cons_of_mem _ hb))

set_option maxRecDepth 100000 in
set_option maxHeartbeats 4000000 in
theorem firstEl_any {B n : Nat} {w : World} {nb : Nat → Nat} {v : Nat → Value} {lab : Nat → NodeD} {G : Wd} (h : DomAt B w n nb v lab G) (hG : WOk n G) (hki : ∀ i, i < n → ((lab i).kind = 3 ↔ tyOf (lab i).kind = 3)) {y : Nat} (hy : y < n) :
    Calls Tryz.prog 107 #[.pointer (some ⟨nb y, 0, none⟩)] w (LkPost ((elK lab G y).head?.map nb) w) := by
  have c1 := (h.node y hy).fst
  have e1 : (linkR G nb (lab y) (v y) y).fst = (G.kids y).head?.map nb := rfl
  rw [e1] at c1
  have H := Lib.hid h
  have HG := Lib.hid hG
  have HK := Lib.hid hki
  have HY := Lib.hid hy
  clear h hG hki hy e1
  go_enter Tryz.func107, Tryz.ntmps107
  go_wp2
  go_loopg [3] (G.kids y).length (fun gk cv wr => ∃ (A rest : List Nat), gk = rest.length ∧ cv = lk (rest.head?.map nb) ∧ Hid (G.kids y = A ++ rest ∧ ∀ a ∈ A, decide ((lab a).kind = 3) = false) ∧ Hid (w = wr))
  case atStart => exact ⟨[], G.kids y, rfl, rfl, Lib.hid ⟨rfl, fun a ha => by cases ha⟩, Lib.hid rfl⟩
  case round =>
    obtain ⟨A, rest, rfl, rfl, HA, HW⟩ := hrel
    obtain rfl := HW.out
    have hres : (elK lab G y).head? = (rest.filter fun q => decide ((lab q).kind = 3)).head? := by
      unfold elK
      rw [HA.out.1]
      exact head_filter HA.out.2
    cases rest with
    | nil =>
      have HR := Lib.hid (show (elK lab G y).head? = none by rw [hres]; rfl)
      simp only [List.head?_nil, Option.map_none, lk_none]
      clear hres
      go_wp2
      go_ret
      exact ⟨by rw [HR.out]; rfl, rfl⟩
    | cons q r =>
      have hqy : q ∈ G.kids y := by rw [HA.out.1]; simp
      have hqn := (HG.out.lt y q hqy).2
      have c5 := (H.out.node q hqn).ty
      have c4 := (H.out.node q hqn).nxt
      have e5 : (linkR G nb (lab q) (v q) q).ty = tyOf (lab q).kind := rfl
      have e4 : (linkR G nb (lab q) (v q) q).nxt = r.head?.map nb := by
        have h1 := (HG.out.iff y q).1 hqy
        show ((G.up q).bind fun p => nxtIn (G.kids p) q).map nb = _
        rw [h1]
        show (nxtIn (G.kids y) q).map nb = _
        rw [HA.out.1, nxtIn_app A (fun hm => by
          have h2 := HG.out.nd y
          rw [HA.out.1] at h2
          exact (nd_parts h2).1 hm)]
      rw [e5] at c5
      rw [e4] at c4
      obtain ⟨ty, hty⟩ : ∃ ty, tyOf (lab q).kind = ty := ⟨_, rfl⟩
      rw [hty] at c5
      have hk := HK.out q hqn
      rw [hty] at hk
      simp only [List.head?_cons, Option.map_some, lk_some]
      by_cases h3 : ty = 3
      · have hq3 := hk.2 h3
        have HR := Lib.hid (show (elK lab G y).head? = some q by rw [hres, List.filter_cons, if_pos (by simpa using hq3)]; rfl)
        subst h3
        clear hres hqy hqn e5 e4 hk hq3 hty
        go_wp2
        go_ret
        exact ⟨by rw [HR.out]; rfl, rfl⟩
      · have hq3 : decide ((lab q).kind = 3) = false := by simp; exact fun e => h3 (hk.1 e)
        have h4 : (ty != 3) = true := by simp [h3]
        have HQ3 := Lib.hid hq3
        clear hres hqy hqn e5 e4 hk hq3 hty
        go_wp2
        go_roundg r.length
        case measure => simp
        case rel => exact ⟨A ++ [q], r, rfl, rfl, Lib.hid ⟨by rw [HA.out.1]; simp, fun a ha => by rcases List.mem_append.1 ha with h | h; exact HA.out.2 a h; simp at h; rw [h]; exact HQ3.out⟩, Lib.hid rfl⟩

set_option maxRecDepth 100000 in
set_option maxHeartbeats 4000000 in
/-- One node, that stands alone, put at one. -/
theorem manipOne_any {X : Ending → World → Prop} (s sg scap ng ncap T Y : Nat) (w : World) (c0 : w.cell? ⟨s, 0, none⟩ = some (.slice (some ⟨sg, 0, none⟩) 1 scap)) (cs : w.cell? ⟨sg, 0, none⟩ = some (.pointer (some ⟨T, 0, none⟩))) (cn : w.cell? ⟨ng, 0, none⟩ = some (.pointer (some ⟨Y, 0, none⟩))) (cy : w.cell? ⟨Y, 0, none⟩ = some (.pointer none))
    (hfun : Calls Tryz.prog 111 #[.pointer (some ⟨T, 0, none⟩), .pointer (some ⟨Y, 0, none⟩)] w (fun e w' => e = .returned (.tuple #[]) ∧ X (.returned (.pointer (some ⟨s, 0, none⟩))) w')) :
    Calls Tryz.prog 100 #[.pointer (some ⟨s, 0, none⟩), .slice (some ⟨ng, 0, none⟩) 1 ncap, .bool false, .func (.func 111) #[] #[]] w (fun e w' => e = .returned (.pointer (some ⟨s, 0, none⟩)) ∧ X e w') := by
  have HSZ := Lib.hid (size_any s _ _ _ w c0)
  have HFUN := Lib.hid hfun
  clear hfun
  go_enter Tryz.func100, Tryz.ntmps100
  go_wp2_with fail
  refine HSZ.out.mono ?_
  rintro e w1 ⟨rfl, rfl⟩
  clear HSZ
  go_wp2
  go_loopw [49] (fun iv wr => ∃ i : Nat, iv = .int .i64 (i : Int) ∧ ((i = 0 ∧ Hid (w = wr)) ∨ (i = 1 ∧ Hid (X (.returned (.pointer (some ⟨s, 0, none⟩))) wr)))) (fun iv _ => 1 - (intOf iv).toNat)
  case atStart => exact ⟨0, by go_num, .inl ⟨rfl, Lib.hid rfl⟩⟩
  case round =>
    obtain ⟨i, rfl, hcase⟩ := hrel
    rcases hcase with ⟨rfl, HW⟩ | ⟨rfl, HX⟩
    · obtain rfl := HW.out
      go_wp2
      go_loopw [56] (fun jv wq => ∃ k : Nat, jv = .int .i64 (k : Int) ∧ ((k = 0 ∧ Hid (w = wq)) ∨ (k = 1 ∧ Hid (X (.returned (.pointer (some ⟨s, 0, none⟩))) wq)))) (fun jv _ => 1 - (intOf jv).toNat)
      case atStart => exact ⟨0, by go_num, .inl ⟨rfl, Lib.hid rfl⟩⟩
      case round =>
        obtain ⟨k, rfl, hcase⟩ := hrel
        rcases hcase with ⟨rfl, HW2⟩ | ⟨rfl, HX⟩
        · obtain rfl := HW2.out
          go_wp2_with fail
          refine HFUN.out.mono ?_
          rintro e w3 ⟨rfl, hx⟩
          have HX3 := Lib.hid hx
          clear hx HFUN
          go_wp2
          refine ⟨?rel, ?measure⟩
          case rel => first | exact ⟨1, by go_num, .inr ⟨rfl, HX3⟩⟩ | exact ⟨_, _, _, _, _, _, _, _, _, _, _, _, _, _, _, _, _, _, _, _, _, _, _, _, _, _, _, _, _, ⟨1, by go_num, .inr ⟨rfl, HX3⟩⟩, rfl⟩
          case measure => simp [intOf]
        · go_wp2
          refine ⟨?rel, ?measure⟩
          case rel => exact ⟨1, by go_num, .inr ⟨rfl, HX⟩⟩
          case measure => simp [intOf]
    · go_wp2
      go_ret
      exact ⟨rfl, HX.out⟩

end Go.Proofs.YtoleejaabiafcaaGreat

namespace Go.Proofs.YtoleejaabiafcaaGreat
open Go.RowKit
set_option linter.unusedVariables false
set_option linter.unusedSimpArgs false

def WrapAllPost (s B m : Nat) (nb : Nat → Nat) (v : Nat → Value) (lab : Nat → NodeD) (G : Wd) (L : List Nat) (G2 : Wd) (w : World) (e : Ending) (w' : World) : Prop :=
  ∃ nb2 v2 lab2, e = .returned (.pointer (some ⟨s, 0, none⟩)) ∧ Hid (ClonedW w.heap.size m nb v lab G L nb2 v2 lab2) ∧ Hid (DomAt B w' (m + L.length) nb2 v2 lab2 G2) ∧ Hid (OnlyG m nb w w')

set_option maxRecDepth 100000 in
set_option maxHeartbeats 8000000 in
theorem wrapAllNode_any {B m : Nat} {w : World} {nb : Nat → Nat} {v : Nat → Value} {lab : Nat → NodeD} {G : Wd} (h : DomAt B w m nb v lab G) (hG : WOk m G) (hki : ∀ i, i < m → ((lab i).kind = 3 ↔ tyOf (lab i).kind = 3)) {s sg scap d : Nat} (c0 : w.cell? ⟨s, 0, none⟩ = some (.slice (some ⟨sg, 0, none⟩) 1 scap)) {x : Nat} (cs : w.cell? ⟨sg, 0, none⟩ = some (.pointer (some ⟨nb x, 0, none⟩))) (cd : w.cell? ⟨s, 1, none⟩ = some (.pointer (some ⟨d, 0, none⟩))) (hns : ∀ i, i < m → s ≠ nb i ∧ sg ≠ nb i)
    {wd p z : Nat} {L A Bk : List Nat} (hcp : CpOk m G L [wd]) (hL : Fl G.kids [wd] L) (hu : G.up x = some p) (hk : G.kids p = A ++ x :: Bk) (hz : Inm lab G wd (some z)) (hxL : x ∉ L) (hpL : p ∉ L) (hfit : ∀ y ∈ L, (lab y).attrs.length ≤ 100) (hB : B ≤ w.heap.size) :
    Calls Tryz.prog 91 #[.pointer (some ⟨s, 0, none⟩), .pointer (some ⟨nb wd, 0, none⟩)] w (WrapAllPost s B m nb v lab G L (wrap1 G m L wd p A x z) w) := by
  have hwL := hcp.ws wd (by simp)
  have hzL := hz.mem (fun a ha b hb => (hcp.sub a ha b hb).1) hwL z rfl
  have hwo := wrapOk hG hcp hL.head hu hk hzL hxL hpL
  have hcl := cloneNode_any L.length B w m nb v lab G wd L h hG (hcp.lt wd hwL) hL (Nat.le_refl _) hfit hB
  obtain ⟨hpm, hxm⟩ := hG.lt p x ((hG.iff p x).2 hu)
  have hix0 : ix L wd = 0 := by
    have := hL.head
    cases hLc : L with
    | nil => rw [hLc] at this; cases this
    | cons a r => rw [hLc] at this; simp at this; simp [ix, this]
  have HSZ := Lib.hid (size_any s _ _ _ w c0)
  have HCL := Lib.hid hcl
  have HWO := Lib.hid hwo
  have HG := Lib.hid (And.intro hG (And.intro hcp (And.intro hL.head (And.intro hwL (And.intro hzL (And.intro hix0 (And.intro hz hki)))))))
  have HX := Lib.hid (And.intro hpm (And.intro hxm (And.intro hu hns)))
  have hsl := World.block_lt_of_cell? w _ c0
  have hsgl := World.block_lt_of_cell? w _ cs
  clear h hG hki hns hcp hL hu hk hz hxL hpL hfit hB hwo hcl hpm hxm hix0 hwL hzL
  go_enter Tryz.func91, Tryz.ntmps91
  go_wp2_with fail
  refine HSZ.out.mono ?_
  rintro e w1 ⟨rfl, rfl⟩
  clear HSZ
  go_wp2_with fail
  refine HCL.out.mono ?_
  rintro e w1 ⟨nb2, v2, lab2, rfl, HC, HD1, HB1⟩
  have c01 := cell_below HB1.out c0
  have cs1 := cell_below HB1.out cs
  have cd1 := cell_below HB1.out cd
  have hxm := HX.out.2.1
  have hpm := HX.out.1
  have hnx : nb2 x = nb x := (HC.out.old x hxm).1
  have hup1 : (cpW G m L [wd]).up x = some p := (cp_old L [wd] hxm).2.trans HX.out.2.2.1
  have cp1 := (HD1.out.node x (by omega)).par
  have e1 : (linkR (cpW G m L [wd]) nb2 (lab2 x) (v2 x) x).par = some (nb2 p) := by simp [linkR, hup1]
  rw [e1, hnx, lk_some] at cp1
  have hpos := HWO.out.pos
  have hins := insertBefore_any HD1.out HWO.out.ok1 (x := m) (p := p) (by omega) (by omega) (by omega) HWO.out.root A _ HWO.out.kp
  simp only [List.head?_cons, Option.map_some] at hins
  rw [hnx] at hins
  have HINS := Lib.hid hins
  have HN := Lib.hid (And.intro hnx e1)
  clear hins hup1 e1 hnx c0 cs cd HCL
  go_wp2_with fail
  refine HINS.out.mono ?_
  rintro e w2 ⟨rfl, HD2, HO2⟩
  have hfar : ∀ (w9 : World), OnlyN (m + L.length) nb2 w1 w9 → ∀ (q : Nat) (o : Nat) (u : Value), q < w.heap.size → (∀ i, i < m → q ≠ nb i) → w1.cell? ⟨q, o, none⟩ = some u → w9.cell? ⟨q, o, none⟩ = some u := fun w9 ho q o u hq hn hc =>
    (World.cell?_of_block (ho.block q (fun i hi e => by
      by_cases h1 : i < m
      · rw [(HC.out.old i h1).1] at e; exact hn i h1 e
      · have := HC.out.new i (by omega) hi; omega))).trans hc
  have HFAR := Lib.hid hfar
  have c02 := hfar w2 HO2.out s 0 _ hsl (fun i hi => (HX.out.2.2.2 i hi).1) c01
  have cp2 := (HD2.out.node x (by omega)).par
  have e2 : (linkR ((cpW G m L [wd]).put p A.length m) nb2 (lab2 x) (v2 x) x).par = some (nb2 p) := by simp [linkR, HWO.out.up2]
  rw [e2, HN.out.1, lk_some] at cp2
  have hrem := removeChild_any HD2.out HWO.out.ok2 HWO.out.up2
  rw [HN.out.1] at hrem
  have HREM := Lib.hid hrem
  clear hrem e2 hfar HINS cp1
  go_wp2_with fail
  refine HREM.out.mono ?_
  rintro e w3 ⟨rfl, HD3, HO3⟩
  have HO13 := Lib.hid (HO2.out.trans HO3.out)
  have c03 := HFAR.out w3 HO13.out s 0 _ hsl (fun i hi => (HX.out.2.2.2 i hi).1) c01
  have cs3 := HFAR.out w3 HO13.out sg 0 _ hsgl (fun i hi => (HX.out.2.2.2 i hi).2) cs1
  have cd3 := HFAR.out w3 HO13.out s 1 _ hsl (fun i hi => (HX.out.2.2.2 i hi).1) cd1
  obtain ⟨G3, hG3⟩ : ∃ G3, ((cpW G m L [wd]).put p A.length m).cut x = G3 := ⟨_, rfl⟩
  have hki2 : ∀ i, i < m + L.length → ((lab2 i).kind = 3 ↔ tyOf (lab2 i).kind = 3) := fun i hi => by
    by_cases h1 : i < m
    · rw [(HC.out.old i h1).2.2]; exact HG.out.2.2.2.2.2.2.2 i h1
    · have h2 := HC.out.lab (i - m) (by omega)
      rw [show m + (i - m) = i by omega] at h2
      rw [h2]
      exact HG.out.2.2.2.2.2.2.2 _ (HG.out.2.1.lt _ (getD_mem' (by omega)))
  have hinm : Inm lab2 G3 m (some (m + ix L z)) := by
    have h1 := HG.out.2.2.2.2.2.2.1.copy HG.out.2.1 HC.out.lab HG.out.2.2.2.1
    rw [HG.out.2.2.2.2.2.1, Nat.add_zero] at h1
    refine h1.congr (L := L.map fun y => m + ix L y) (fun a ha b hb => ?_) (fun a ha => ?_) (fun _ _ => rfl) (List.mem_map.2 ⟨wd, HG.out.2.2.2.1, by rw [HG.out.2.2.2.2.2.1]; rfl⟩)
    · obtain ⟨y, hy, rfl⟩ := List.mem_map.1 ha
      rw [(cp_new hy).1] at hb
      obtain ⟨c, hc, rfl⟩ := List.mem_map.1 hb
      exact List.mem_map.2 ⟨c, (HG.out.2.1.sub y hy c hc).1, rfl⟩
    · obtain ⟨y, hy, rfl⟩ := List.mem_map.1 ha
      rw [← hG3]
      simp only [Wd.cut, Wd.put]
      rw [if_neg (by omega), (cp_new hy).1]
      exact filter_none (fun hm => by
        obtain ⟨c, _, e⟩ := List.mem_map.1 hm
        omega)
  have hok3 : WOk (m + L.length) G3 := by rw [← hG3]; exact HWO.out.ok3
  have hd3 := HD3.out
  rw [hG3] at hd3
  have hfe := fun y (hy : y < m + L.length) => firstEl_any hd3 hok3 hki2 hy
  obtain ⟨dd, M, hM, hdd⟩ := hok3.deep
  obtain ⟨TO, hTO⟩ : ∃ TO, m + ix L z = TO := ⟨_, rfl⟩
  rw [hTO] at hinm
  have HFE := Lib.hid hfe
  have HI := Lib.hid hinm
  have HD := Lib.hid (And.intro hd3 (And.intro hok3 (And.intro hG3 hTO)))
  have HDD := Lib.hid (And.intro hM hdd)
  have HFE0 := Lib.hid (hfe m (by omega))
  clear hfe hinm hd3 hok3 hG3 hTO hM hdd hki2 HREM HD2 HO2 HD3 HO3 c02 c01 cs1 cd1 cp2
  go_wp2_with fail
  refine HFE0.out.mono ?_
  rintro e w4 ⟨rfl, rfl⟩
  clear HFE0
  go_wp2
  go_loopg [5, 7] (M - dd m) (fun gk av cv wr => ∃ y, gk = M - dd y ∧ Hid (y < m + L.length) ∧ av = .pointer (some ⟨nb2 y, 0, none⟩) ∧ cv = lk ((elK lab2 G3 y).head?.map nb2) ∧ Hid (Inm lab2 G3 y (some TO)) ∧ Hid (w3 = wr))
  case atStart => exact ⟨m, rfl, Lib.hid (by omega), rfl, rfl, HI, Lib.hid rfl⟩
  case round =>
    obtain ⟨y, rfl, HY, rfl, rfl, HIY, HW⟩ := hrel
    obtain rfl := HW.out
    cases hel : elK lab2 G3 y with
    | nil =>
      have hyT : y = TO := by
        have h1 := HIY.out
        cases h1 with
        | stop _ => rfl
        | down h2 _ => rw [hel] at h2; cases h2
      simp only [List.head?_nil, Option.map_none, lk_none]
      have HYT := Lib.hid hyT
      clear hel hyT
      have hone := one_any (nb2 y) d w3
      have HONE := Lib.hid hone
      clear hone
      go_wp2_with fail
      refine HONE.out.mono ?_
      rintro e w5 ⟨rfl, HO5, HB5⟩
      have c05 := cell_below HB5.out c03
      have cs5 := cell_below HB5.out cs3
      have hxm := HX.out.2.1
      have hpar := (HD.out.1.node x (by omega)).par
      have e5 : (linkR G3 nb2 (lab2 x) (v2 x) x).par = none := by
        have h1 : G3.up x = none := by rw [← HD.out.2.2.1]; exact HWO.out.up3
        simp [linkR, h1]
      rw [e5, HN.out.1, lk_none] at hpar
      have hpar5 := cell_below HB5.out hpar
      have hTOm : TO < m + L.length := by rw [← HD.out.2.2.2]; exact HWO.out.to
      have hkz : G3.kids TO = ((G.kids z).map fun y => m + ix L y) ++ [] := by rw [← HD.out.2.2.1, ← HD.out.2.2.2, List.append_nil]; exact HWO.out.kz3
      have hfun := fun_append (HD.out.1.below HB5.out) HD.out.2.1 (x := TO) (p := TO) (y := x) rfl hTOm (by omega) (by rw [← HD.out.2.2.2]; exact HWO.out.ne) (by rw [← HD.out.2.2.1]; exact HWO.out.up3) hkz rfl
      rw [HN.out.1, List.length_map, ← HYT.out] at hfun
      have hmo := manipOne_any (X := fun e w' => Hid (DomAt B w' (m + L.length) nb2 v2 lab2 (G3.put y (G.kids z).length x)) ∧ Hid (OnlyN (m + L.length) nb2 w5 w')) (w3.heap.size + 1) w3.heap.size 1 sg scap (nb2 y) (nb x) w5 HO5.out.nodes HO5.out.one cs5 hpar5 (hfun.mono (fun e w' hh => ⟨hh.1, hh.2.1, hh.2.2⟩))
      have hap := nodes_append (w3.heap.size + 1) (.slice (some ⟨sg, 0, none⟩) 1 scap) w5 hmo
      have HAP := Lib.hid hap
      clear hap hmo hfun hkz hTOm hpar hpar5 e5 hxm HONE
      have has : Calls Tryz.prog 108 #[.pointer (some ⟨w3.heap.size + 1, 0, none⟩), .pointer (some ⟨s, 0, none⟩)] w5 (fun e w' => e = .returned (.pointer (some ⟨w3.heap.size + 1, 0, none⟩)) ∧ Hid (DomAt B w' (m + L.length) nb2 v2 lab2 (G3.put y (G.kids z).length x)) ∧ Hid (OnlyN (m + L.length) nb2 w5 w')) := by
        go_enter Tryz.func108, Tryz.ntmps108
        go_wp2_with fail
        refine HAP.out.mono ?_
        rintro e w6 ⟨rfl, hx⟩
        have HX6 := Lib.hid hx
        clear hx
        go_wp2
        go_ret
        exact ⟨rfl, HX6.out⟩
      have HAS := Lib.hid has
      clear has HAP
      go_wp2_with fail
      refine HAS.out.mono ?_
      rintro e w6 ⟨rfl, HD6, HO6⟩
      have hfin : DomAt B w6 (m + L.length) nb2 v2 lab2 (wrap1 G m L wd p A x z) := by
        have h1 := HD6.out
        rw [HYT.out, ← HD.out.2.2.1, ← HD.out.2.2.2] at h1
        exact h1
      have hog : OnlyG m nb w w6 := by
        have h1 : OnlyG m nb w w1 := (OnlyG.refl m nb w).of_below HB1.out
        have hold : ∀ i, i < m → nb2 i = nb i := fun i hi => (HC.out.old i hi).1
        have hnew : ∀ i, m ≤ i → i < m + L.length → w.heap.size ≤ nb2 i := HC.out.new
        have h2 := h1.turn HO13.out hold hnew
        have h3 := h2.of_below HB5.out
        exact h3.turn HO6.out hold hnew
      have HFIN := Lib.hid hfin
      have HOG := Lib.hid hog
      clear hfin hog HAS
      go_wp2
      go_ret
      exact ⟨nb2, v2, lab2, rfl, HC, HFIN, HOG⟩
    | cons q r =>
      have hr : r = [] ∧ Inm lab2 G3 q (some TO) := by
        have h1 := HIY.out
        cases h1 with
        | stop h2 => rw [hel] at h2; cases h2
        | down h2 h3 =>
          rw [hel] at h2
          cases h2
          exact ⟨rfl, h3⟩
      obtain ⟨rfl, hiq⟩ := hr
      have hqy : q ∈ G3.kids y := elK_mem (lab := lab2) (by rw [hel]; simp)
      have hqn := (HD.out.2.1.lt y q hqy).2
      have hdq := HDD.out.2 y q ((HD.out.2.1.iff y q).1 hqy)
      have hmq := HDD.out.1 q
      have HFQ := Lib.hid (HFE.out q hqn)
      have HIQ := Lib.hid hiq
      have HQN := Lib.hid hqn
      simp only [List.head?_cons, Option.map_some, lk_some]
      clear hel hiq hqy hqn
      go_wp2_with fail
      refine HFQ.out.mono ?_
      rintro e w5 ⟨rfl, rfl⟩
      clear HFQ
      go_wp2
      go_roundg (M - dd q)
      case measure => omega
      case rel => exact ⟨q, rfl, HQN, rfl, rfl, HIQ, Lib.hid rfl⟩

end Go.Proofs.YtoleejaabiafcaaGreat

namespace Go.Proofs.YtoleejaabiafcaaGreat
open Go.RowKit
set_option linter.unusedVariables false
set_option linter.unusedSimpArgs false

theorem OnlyG.turnG {n m : Nat} {nb nb' : Nat → Nat} {a w w' : World} (h : OnlyG n nb a w) (ho : OnlyG m nb' w w') (hold : ∀ i, i < n → nb' i = nb i) (hnew : ∀ i, n ≤ i → i < m → a.heap.size ≤ nb' i) : OnlyG n nb a w' := by
  have hne : ∀ k, k < a.heap.size → (∀ i, i < n → k ≠ nb i) → ∀ i, i < m → k ≠ nb' i := fun k hk hn i hi e => by
    by_cases h1 : i < n
    · rw [hold i h1] at e; exact hn i h1 e
    · have := hnew i (by omega) hi; omega
  refine ⟨Nat.le_trans h.size ho.size, fun k hk hn => (ho.block k (Nat.lt_of_lt_of_le hk h.size) (hne k hk hn)).trans (h.block k hk hn), fun B hB hn => (h.below B hB hn).trans (ho.below B (Nat.le_trans hB h.size) (fun i hi => ?_))⟩
  by_cases h1 : i < n
  · rw [hold i h1]; exact hn i h1
  · exact Nat.le_trans hB (hnew i (by omega) hi)

/-- While a selection's nodes are wrapped. -/
structure EachInv (B n : Nat) (w0 : World) (nb : Nat → Nat) (F : Wd) (lab0 : Nat → NodeD) (wd : Nat) (L rest : List Nat) (n2 : Nat) (lab2 : Nat → NodeD) (G2 : Wd) (m : Nat) (nbi : Nat → Nat) (vi : Nat → Value) (labi : Nat → NodeD) (Gi : Wd) (wr : World) : Prop where
  dom : DomAt B wr m nbi vi labi Gi
  mid : WrMid n F lab0 L rest m labi Gi
  side : WrSide n F wd L rest
  ki : ∀ i, i < m → ((labi i).kind = 3 ↔ tyOf (labi i).kind = 3)
  num : ∀ i, i < n → nbi i = nb i
  fresh : ∀ i, n ≤ i → i < m → w0.heap.size ≤ nbi i
  only : OnlyG n nb w0 wr
  wraps : ∃ lab', (∀ i, i < m → lab' i = labi i) ∧ Wraps wd L n2 lab2 G2 rest m lab' Gi

theorem EachInv.below {B n : Nat} {w0 : World} {nb : Nat → Nat} {F : Wd} {lab0 : Nat → NodeD} {wd : Nat} {L rest : List Nat} {n2 : Nat} {lab2 : Nat → NodeD} {G2 : Wd} {m : Nat} {nbi : Nat → Nat} {vi : Nat → Value} {labi : Nat → NodeD} {Gi : Wd} {wr w' : World} (h : EachInv B n w0 nb F lab0 wd L rest n2 lab2 G2 m nbi vi labi Gi wr) (hb : Below wr.heap.size wr w') : EachInv B n w0 nb F lab0 wd L rest n2 lab2 G2 m nbi vi labi Gi w' :=
  ⟨h.dom.below hb, h.mid, h.side, h.ki, h.num, h.fresh, h.only.of_below hb, h.wraps⟩

structure EachNow (B n : Nat) (w0 : World) (nb : Nat → Nat) (F : Wd) (lab0 : Nat → NodeD) (wd : Nat) (L : List Nat) (x : Nat) (rest : List Nat) (n2 : Nat) (lab2 : Nat → NodeD) (G2 : Wd) (m : Nat) (nbi : Nat → Nat) (vi : Nat → Value) (labi : Nat → NodeD) (Gi : Wd) (wr : World) (p z : Nat) (A Bk : List Nat) : Prop where
  cp : CpOk m Gi L [wd]
  fl : Fl F.kids [wd] L → Fl Gi.kids [wd] L
  up : Gi.up x = some p
  kids : Gi.kids p = A ++ x :: Bk
  inm : Inm labi Gi wd (some z)
  xL : x ∉ L
  pL : p ∉ L
  step : ∀ (H : Nat) (nb' : Nat → Nat) (v' : Nat → Value) (lab' : Nat → NodeD) (w' : World), w0.heap.size ≤ H → ClonedW H m nbi vi labi Gi L nb' v' lab' → DomAt B w' (m + L.length) nb' v' lab' (wrap1 Gi m L wd p A x z) → OnlyG m nbi wr w' → EachInv B n w0 nb F lab0 wd L rest n2 lab2 G2 (m + L.length) nb' v' lab' (wrap1 Gi m L wd p A x z) w'

theorem EachInv.now {B n : Nat} {w0 : World} {nb : Nat → Nat} {F : Wd} {lab0 : Nat → NodeD} {wd : Nat} {L : List Nat} {x : Nat} {rest : List Nat} {n2 : Nat} {lab2 : Nat → NodeD} {G2 : Wd} {m : Nat} {nbi : Nat → Nat} {vi : Nat → Value} {labi : Nat → NodeD} {Gi : Wd} {wr : World} (h : EachInv B n w0 nb F lab0 wd L (x :: rest) n2 lab2 G2 m nbi vi labi Gi wr) :
    ∃ p z A Bk, EachNow B n w0 nb F lab0 wd L x rest n2 lab2 G2 m nbi vi labi Gi wr p z A Bk := by
  obtain ⟨lab', hl, hw⟩ := h.wraps
  cases hw with
  | @cons _ p z _ _ _ lab1 _ A Bk hu hk hz h1 h2 h3 =>
    have hc := h.mid.cp h.side.cp
    have hsub : ∀ a ∈ L, ∀ b ∈ Gi.kids a, b ∈ L := fun a ha b hb => (hc.sub a ha b hb).1
    have hwL := hc.ws wd (by simp)
    have hz2 := hz.congr (lab' := labi) (G' := Gi) hsub (fun _ _ => rfl) (fun a ha => (hl a (hc.lt a ha)).symm) hwL
    have hzL := hz2.mem hsub hwL z rfl
    obtain ⟨hxn, hxL, q, hq, hqL⟩ := h.side.xin x (by simp)
    have hpq : p = q := by
      have := h.mid.up x hxn (.inl (by simp))
      rw [hu, hq] at this
      exact Option.some.inj this
    have hpL : p ∉ L := by rw [hpq]; exact hqL
    refine ⟨p, z, A, Bk, hc, fun hf => hf.congr (fun y hy => by first | exact h.mid.tree y hy | exact (h.mid.tree y hy).symm), hu, hk, hz2, hxL, hpL, fun H nb' v' lab3 w' hH hC hD ho => ?_⟩
    have hstep := h.mid.step h.side hu hk hzL (lab' := lab3) (fun i hi => (hC.old i hi).2.2)
    have hlabs : ∀ i, i < m + L.length → lab1 i = lab3 i := fun i hi => by
      by_cases e : i < m
      · rw [h1 i e, hl i e, (hC.old i e).2.2]
      · have a1 := h2 (i - m) (by omega)
        have a2 := hC.lab (i - m) (by omega)
        rw [show m + (i - m) = i by omega] at a1 a2
        rw [a1, a2]
        exact hl _ (hc.lt _ (getD_mem' (by omega)))
    have hle := h.mid.le
    refine ⟨hD, hstep.2.1, hstep.2.2, fun i hi => ?_, fun i hi => ((hC.old i (by omega)).1).trans (h.num i hi), fun i hi hi2 => ?_, h.only.turnG ho (fun i hi => h.num i hi) h.fresh, lab1, hlabs, h3⟩
    · by_cases e : i < m
      · rw [(hC.old i e).2.2]; exact h.ki i e
      · have a2 := hC.lab (i - m) (by omega)
        rw [show m + (i - m) = i by omega] at a2
        rw [a2]
        exact h.ki _ (hc.lt _ (getD_mem' (by omega)))
    · by_cases e : i < m
      · rw [(hC.old i e).1]; exact h.fresh i hi e
      · exact Nat.le_trans hH (hC.new i (by omega) hi2)

set_option maxRecDepth 100000 in
set_option maxHeartbeats 1000000 in
theorem wrapAllNodes_one {X : World → Prop} (s g cap y : Nat) (w : World) (cr : w.cell? ⟨g, 0, none⟩ = some (.pointer (some ⟨y, 0, none⟩)))
    (hc : Calls Tryz.prog 91 #[.pointer (some ⟨s, 0, none⟩), .pointer (some ⟨y, 0, none⟩)] w (fun e w' => e = .returned (.pointer (some ⟨s, 0, none⟩)) ∧ Hid (X w'))) :
    Calls Tryz.prog 61 #[.pointer (some ⟨s, 0, none⟩), .slice (some ⟨g, 0, none⟩) 1 cap] w (fun e w' => e = .returned (.pointer (some ⟨s, 0, none⟩)) ∧ Hid (X w')) := by
  have HC := Lib.hid hc
  clear hc
  go_enter Tryz.func61, Tryz.ntmps61
  go_wp2_with fail
  refine HC.out.mono ?_
  rintro e w1 ⟨rfl, hx⟩
  clear HC
  go_wp2
  go_ret
  exact ⟨rfl, hx⟩

set_option maxRecDepth 100000 in
set_option maxHeartbeats 1000000 in
theorem wrapClo_any {X : World → Prop} (i : Int) (s box g cap y : Nat) (w : World) (cb : w.cell? ⟨box, 0, none⟩ = some (.slice (some ⟨g, 0, none⟩) 1 cap)) (cr : w.cell? ⟨g, 0, none⟩ = some (.pointer (some ⟨y, 0, none⟩)))
    (hc : Calls Tryz.prog 91 #[.pointer (some ⟨s, 0, none⟩), .pointer (some ⟨y, 0, none⟩)] w (fun e w' => e = .returned (.pointer (some ⟨s, 0, none⟩)) ∧ Hid (X w'))) :
    Calls Tryz.prog 60 #[.int .i64 i, .pointer (some ⟨s, 0, none⟩), .pointer (some ⟨box, 0, none⟩)] w (fun e w' => e = .returned (.tuple #[]) ∧ Hid (X w')) := by
  have HC := Lib.hid (wrapAllNodes_one s g cap y w cr hc)
  clear hc
  go_enter Tryz.func60, Tryz.ntmps60
  go_wp2_with fail
  refine HC.out.mono ?_
  rintro e w1 ⟨rfl, hx⟩
  clear HC
  go_wp2
  go_end0
  exact ⟨rfl, hx⟩

def WrapEachPost (s B n : Nat) (nb : Nat → Nat) (n2 : Nat) (lab2 : Nat → NodeD) (G2 : Wd) (w : World) (e : Ending) (w' : World) : Prop :=
  e = .returned (.pointer (some ⟨s, 0, none⟩)) ∧ ∃ nb2 v2, Hid (DomAt B w' n2 nb2 v2 lab2 G2) ∧ Hid (WOk n2 G2) ∧ Hid (∀ i, i < n → nb2 i = nb i) ∧ Hid (n ≤ n2) ∧ Hid (OnlyG n nb w w')

set_option maxRecDepth 100000 in
set_option maxHeartbeats 4000000 in
theorem wrapEach_any {B n : Nat} {w : World} {nb : Nat → Nat} {v : Nat → Value} {lab : Nat → NodeD} {F : Wd} (h : DomAt B w n nb v lab F) (hki : ∀ i, i < n → ((lab i).kind = 3 ↔ tyOf (lab i).kind = 3)) {xs L : List Nat} {wd : Nat} (hs : WrSide n F wd L xs) (hL : Fl F.kids [wd] L) (hfit : ∀ y ∈ L, (lab y).attrs.length ≤ 100) (hB : B ≤ w.heap.size) (hxl : xs.length ≤ 600) (hx0 : 0 < xs.length)
    {n2 : Nat} {lab2 : Nat → NodeD} {G2 : Wd} (hW : Wraps wd L n2 lab2 G2 xs n lab F) {s sg scap d box g cap : Nat} (c0 : w.cell? ⟨s, 0, none⟩ = some (.slice (some ⟨sg, 0, none⟩) xs.length scap)) (c1 : w.cell? ⟨s, 1, none⟩ = some (.pointer (some ⟨d, 0, none⟩))) (crow : ∀ i, i < xs.length → w.cell? ⟨sg, i, none⟩ = some (.pointer (some ⟨nb (xs.getD i 0), 0, none⟩)))
    (cb : w.cell? ⟨box, 0, none⟩ = some (.slice (some ⟨g, 0, none⟩) 1 cap)) (cg : w.cell? ⟨g, 0, none⟩ = some (.pointer (some ⟨nb wd, 0, none⟩))) (hbn : ∀ i, i < n → s ≠ nb i ∧ sg ≠ nb i ∧ box ≠ nb i ∧ g ≠ nb i) :
    Calls Tryz.prog 32 #[.pointer (some ⟨s, 0, none⟩), .func (.func 60) #[] #[.pointer (some ⟨box, 0, none⟩)]] w (WrapEachPost s B n nb n2 lab2 G2 w) := by
  have hwn : wd < n := hs.cp.lt wd (hs.cp.ws wd (by simp))
  have hinv0 : EachInv B n w nb F lab wd L (xs.drop 0) n2 lab2 G2 n nb v lab F w := ⟨h, ⟨hs.ok, Nat.le_refl _, fun _ _ _ => rfl, fun _ _ => rfl, fun _ _ => rfl⟩, hs, hki, fun _ _ => rfl, fun i h1 h2 => by omega, OnlyG.refl _ _ _, lab, fun _ _ => rfl, hW⟩
  have hkeep : ∀ (w9 : World), OnlyG n nb w w9 → ∀ (q o : Nat) (u : Value), (∀ i, i < n → q ≠ nb i) → w.cell? ⟨q, o, none⟩ = some u → w9.cell? ⟨q, o, none⟩ = some u := fun w9 ho q o u hq hc => (World.cell?_of_block (ho.block q (World.block_lt_of_cell? w _ hc) hq)).trans hc
  have HK := Lib.hid hkeep
  have HI0 := Lib.hid hinv0
  have HC0 := Lib.hid c0
  have HC1 := Lib.hid c1
  have HCB := Lib.hid cb
  have HCG := Lib.hid cg
  have HCR := Lib.hid crow
  have HN := Lib.hid hbn
  have HF := Lib.hid (And.intro hL (And.intro hfit (And.intro hB hwn)))
  clear h hki hs hL hfit hB hW crow hbn hinv0 hkeep hwn cb cg c1 HC0
  go_enter Tryz.func32, Tryz.ntmps32
  go_wp2
  go_loopw [12] (fun iv wr => ∃ (i m : Nat) (nbi : Nat → Nat) (vi : Nat → Value) (labi : Nat → NodeD) (Gi : Wd), iv = .int .i64 (i : Int) ∧ i ≤ xs.length ∧ Hid (EachInv B n w nb F lab wd L (xs.drop i) n2 lab2 G2 m nbi vi labi Gi wr)) (fun iv _ => xs.length - (intOf iv).toNat)
  case atStart => exact ⟨0, n, nb, v, lab, F, by go_num, by omega, HI0⟩
  case round =>
    obtain ⟨i, m, nbi, vi, labi, Gi, rfl, hi, HI⟩ := hrel
    by_cases hlt : i < xs.length
    · obtain ⟨x, hxx⟩ : ∃ x, xs.getD i 0 = x := ⟨_, rfl⟩
      have hdrop := drop_cons hlt
      rw [hxx] at hdrop
      have hi1 := HI.out
      rw [hdrop] at hi1
      obtain ⟨p, z, A, Bk, hnow⟩ := hi1.now
      have hxn : x < n := (hi1.side.xin x (by simp)).1
      have hle := hi1.mid.le
      have hnx := hi1.num x hxn
      have hnw := hi1.num wd HF.out.2.2.2
      have ck := HK.out wr hi1.only sg i _ (fun j hj => (HN.out j hj).2.1) (HCR.out i hlt)
      rw [hxx] at ck
      have cd := HK.out wr hi1.only s 1 _ (fun j hj => (HN.out j hj).1) HC1.out
      have hsz := hi1.only.size
      obtain ⟨X, hX⟩ : ∃ X, nb x = X := ⟨_, rfl⟩
      rw [hX] at ck
      have HONE := Lib.hid (one_any X d wr)
      have HNOW := Lib.hid (And.intro hi1 (And.intro hnow (And.intro hnx (And.intro hnw (And.intro hX (And.intro hsz (And.intro hle hxn)))))))
      clear hxx hdrop hi1 hnow hxn hnx hnw hX hsz hle HI
      go_wp2_with fail
      refine HONE.out.mono ?_
      rintro e w1 ⟨rfl, HO1, HB1⟩
      have hinv1 := HNOW.out.1.below HB1.out
      have cb1 := HK.out w1 hinv1.only box 0 _ (fun j hj => (HN.out j hj).2.2.1) HCB.out
      have cg1 := HK.out w1 hinv1.only g 0 _ (fun j hj => (HN.out j hj).2.2.2) HCG.out
      have hnodes : ∀ j, j < m → nbi j < wr.heap.size := fun j hj => World.block_lt_of_cell? wr _ (HNOW.out.1.dom.node j hj).par
      have hxe : nbi x = X := HNOW.out.2.2.1.trans HNOW.out.2.2.2.2.1
      have hcs := HO1.out.one
      rw [← hxe] at hcs
      have hwa := wrapAllNode_any hinv1.dom hinv1.mid.ok hinv1.ki HO1.out.nodes hcs HO1.out.doc (fun j hj => ⟨by have := hnodes j hj; omega, by have := hnodes j hj; omega⟩) HNOW.out.2.1.cp (HNOW.out.2.1.fl HF.out.1) HNOW.out.2.1.up HNOW.out.2.1.kids HNOW.out.2.1.inm HNOW.out.2.1.xL HNOW.out.2.1.pL (fun y hy => by rw [hinv1.mid.lab y (hinv1.side.cp.lt y hy)]; exact HF.out.2.1 y hy) (by have := HF.out.2.2.1; have := hinv1.only.size; omega)
      rw [HNOW.out.2.2.2.1] at hwa
      have hclo := wrapClo_any (X := fun w' => ∃ m' nb' v' lab' G', EachInv B n w nb F lab wd L (xs.drop (i + 1)) n2 lab2 G2 m' nb' v' lab' G' w') (i : Int) (wr.heap.size + 1) box g cap (nb wd) w1 cb1 cg1 (hwa.mono (by
        rintro e w2 ⟨nb3, v3, lab3, rfl, HC3, HD3, HO3⟩
        refine ⟨rfl, Lib.hid ⟨_, nb3, v3, lab3, _, HNOW.out.2.1.step w1.heap.size nb3 v3 lab3 w2 (by have := hinv1.only.size; omega) HC3.out HD3.out ((OnlyG.refl m nbi wr).of_below HB1.out |>.trans HO3.out)⟩⟩))
      have HCLO := Lib.hid hclo
      clear hclo hwa hcs hxe hnodes cb1 cg1 hinv1 HONE ck cd
      go_wp2_with fail
      refine HCLO.out.mono ?_
      rintro e w2 ⟨rfl, hx⟩
      obtain ⟨m', nb', v', lab', G', hinv⟩ := hx.out
      have HINV := Lib.hid hinv
      clear hinv hx HCLO HNOW
      go_wp2
      go_roundw
      case rel => exact ⟨i + 1, m', nb', v', lab', G', by go_num, by omega, HINV⟩
      case measure => simp [intOf]; omega
    · obtain rfl : i = xs.length := by omega
      have hfin : WrapEachPost s B n nb n2 lab2 G2 w (.returned (.pointer (some ⟨s, 0, none⟩))) wr := by
        have h1 := HI.out
        rw [List.drop_length] at h1
        obtain ⟨lab', hl, hw⟩ := h1.wraps
        cases hw with
        | nil hm hlb hG =>
          subst hm hG
          exact ⟨rfl, nbi, vi, Lib.hid (h1.dom.relab fun i hi => (hlb i hi).trans (hl i hi)), Lib.hid h1.mid.ok, Lib.hid h1.num, Lib.hid h1.mid.le, Lib.hid h1.only⟩
      have HFIN := Lib.hid hfin
      clear hfin HI hlt
      go_wp2
      go_ret
      exact HFIN.out

end Go.Proofs.YtoleejaabiafcaaGreat

namespace Go.Proofs.YtoleejaabiafcaaGreat
open Go.RowKit
set_option linter.unusedVariables false
set_option linter.unusedSimpArgs false

set_option maxRecDepth 100000 in
set_option maxHeartbeats 1000000 in
theorem wrapNodes_any {X : World → Prop} (s g y : Nat) (w : World) (hg : g < w.heap.size) (cg : w.cell? ⟨g, 0, none⟩ = some (.pointer (some ⟨y, 0, none⟩)))
    (hE : ∀ w1 box, Below w.heap.size w w1 → w.heap.size ≤ box → w1.cell? ⟨box, 0, none⟩ = some (.slice (some ⟨g, 0, none⟩) 1 1) → w1.cell? ⟨g, 0, none⟩ = some (.pointer (some ⟨y, 0, none⟩)) → Calls Tryz.prog 32 #[.pointer (some ⟨s, 0, none⟩), .func (.func 60) #[] #[.pointer (some ⟨box, 0, none⟩)]] w1 (fun e w' => e = .returned (.pointer (some ⟨s, 0, none⟩)) ∧ Hid (X w'))) :
    Calls Tryz.prog 39 #[.pointer (some ⟨s, 0, none⟩), .slice (some ⟨g, 0, none⟩) 1 1] w (fun e w' => e = .returned (.pointer (some ⟨s, 0, none⟩)) ∧ Hid (X w')) := by
  have HE := Lib.hid hE
  have HCG := Lib.hid cg
  have hmf : ∀ (fn : Fn) (first cap : Array Value) (w : World), (Instr.makeFunc fn first cap).run Tryz.prog w = .ok (.func fn first cap) w := fun _ _ _ _ => rfl
  clear hE cg
  go_enter Tryz.func39, Tryz.ntmps39
  go_wp2_with fail
  refine (HE.out _ w.heap.size ((Below.refl _ _).alloc (Nat.le_refl _) _) (Nat.le_refl _) (cell_alloc_new' _ _ _ rfl rfl) (cell_alloc_old HCG.out _)).mono ?_
  rintro e w1 ⟨rfl, hx⟩
  clear HE
  go_wp2
  go_ret
  exact ⟨rfl, hx⟩

set_option maxRecDepth 100000 in
set_option maxHeartbeats 1000000 in
theorem wrapNode_any {X : World → Prop} (s y : Nat) (w : World)
    (hE : ∀ w1 g box, Below w.heap.size w w1 → w.heap.size ≤ g → w.heap.size ≤ box → w1.cell? ⟨box, 0, none⟩ = some (.slice (some ⟨g, 0, none⟩) 1 1) → w1.cell? ⟨g, 0, none⟩ = some (.pointer (some ⟨y, 0, none⟩)) → Calls Tryz.prog 32 #[.pointer (some ⟨s, 0, none⟩), .func (.func 60) #[] #[.pointer (some ⟨box, 0, none⟩)]] w1 (fun e w' => e = .returned (.pointer (some ⟨s, 0, none⟩)) ∧ Hid (X w'))) :
    Calls Tryz.prog 22 #[.pointer (some ⟨s, 0, none⟩), .pointer (some ⟨y, 0, none⟩)] w (fun e w' => e = .returned (.pointer (some ⟨s, 0, none⟩)) ∧ Hid (X w')) := by
  have hw : ∀ w0, Below w.heap.size w w0 → w0.heap.size = w.heap.size + 1 → w0.cell? ⟨w.heap.size, 0, none⟩ = some (.pointer (some ⟨y, 0, none⟩)) → Calls Tryz.prog 39 #[.pointer (some ⟨s, 0, none⟩), .slice (some ⟨w.heap.size, 0, none⟩) 1 1] w0 (fun e w' => e = .returned (.pointer (some ⟨s, 0, none⟩)) ∧ Hid (X w')) := fun w0 hb hs hc =>
    wrapNodes_any s w.heap.size y w0 (by omega) hc (fun w1 box hb1 hbox c1 c2 => hE w1 _ _ (hb.trans (hb1.mono hb.size)) (Nat.le_refl _) (by omega) c1 c2)
  have HW := Lib.hid hw
  clear hw hE
  go_enter Tryz.func22, Tryz.ntmps22
  go_wp2_with fail
  refine (HW.out _ ((Below.refl _ _).alloc (Nat.le_refl _) _) (by simp) (cell_alloc_new' _ _ _ rfl rfl)).mono ?_
  rintro e w1 ⟨rfl, hx⟩
  clear HW
  go_wp2
  go_ret
  exact ⟨rfl, hx⟩

theorem ty_el {k : Int} (h : k = 1 ∨ k = 2 ∨ k = 3 ∨ k = 4 ∨ k = 5) : k = 3 ↔ tyOf k = 3 := by
  rcases h with rfl | rfl | rfl | rfl | rfl <;> simp [tyOf]

set_option maxRecDepth 100000 in
set_option maxHeartbeats 2000000 in
theorem wrapOf_any (W : World) (a : Option Addr) (len cap : Nat) (ts : List NodeD) (hR : RightT ts len) (hN : Nodes W a len ts) (v : Value) (xs : List Nat) (h : ReadsAs W v (xs.map intV)) (hx0 : 0 < xs.length) (hxl : xs.length ≤ 600) {wd : Nat} (hwd : wd < len) {L : List Nat} (hs : WrSide len (wd0 (sz ts) len) wd L xs) (hL : Fl (wd0 (sz ts) len).kids [wd] L) {n2 : Nat} {lab2 : Nat → NodeD} {G2 : Wd} (hM : Wraps wd L n2 lab2 G2 xs len (fun i => ts.getD i default) (wd0 (sz ts) len)) (hn2 : n2 ≤ 600) (C : List (Nat × Nat)) (hC : Fs G2.kids [0] C) (hnC : (C.map (·.1)).Nodup) (hlC : ∀ y ∈ C, y.1 < n2) (hCl : C.length ≤ 1000) :
    Calls Tryz.prog 13 #[.slice a len cap, v, .int .i64 (wd : Int)] W (DoneOfPost lab2 len C W) := by
  have hlen := hR.le
  have hpos := hR.pos
  have hx : ∀ x ∈ xs, x < len := fun x hx => (hs.xin x hx).1
  have hsel := selected_any W a len cap ts hR hN v xs h hx (once_nodup hs.nd) hxl
  have hfit : ∀ y, y < len → (ts.getD y default).attrs.length ≤ 100 := fun y hy => (fit_of hR hN y hy).few
  have hki : ∀ i, i < len → ((ts.getD i default).kind = 3 ↔ tyOf (ts.getD i default).kind = 3) := fun i hi => ty_el (by
    rcases (hR.node i hi).kinds with h | h | h | h | h
    · exact .inl h.1
    · exact .inr (.inl h.1)
    · exact .inr (.inr (.inl h))
    · exact .inr (.inr (.inr (.inl h.1)))
    · exact .inr (.inr (.inr (.inr h.1))))
  have HSEL := Lib.hid hsel
  have HR := Lib.hid hR
  have HW := Lib.hid (And.intro hs (And.intro hL (And.intro hM (And.intro hfit (And.intro hki hx)))))
  have HC := Lib.hid (And.intro hC (And.intro hnC (And.intro hlC (And.intro hCl hn2))))
  have q1 : decide ((wd : Int) < 0) = false := decide_eq_false (by omega)
  have q2 : decide ((len : Int) ≤ (wd : Int)) = false := decide_eq_false (by omega)
  clear hsel hR hN h hC hs hL hM hx hnC hlC hCl hn2 hfit hki
  go_enter Tryz.func13, Tryz.ntmps13
  go_wp2_with fail
  refine HSEL.out.mono ?_
  rintro e w1 ⟨g, bl, nb, vv, s0, s, v1, S, rfl, hB, hs, hS, hWS⟩
  have o0 := hB.out.obj.cell (i := 0) (v := .slice (some ⟨bl, 0, none⟩) len len) rfl
  have ow := hB.out.forest.cell hwd
  have hD := hB.out.forest.dom HR.out
  have hown : w1.ownsRow S 58 1 v1 xs.length (xs.map fun y => ptrV (nb y)) := by
    have h1 := hs.out.own
    unfold OwnPtrs at h1
    rw [List.length_map, List.map_map] at h1
    exact h1
  have c00 := hs.out.nodes
  obtain ⟨d, c01⟩ := hs.out.doc
  obtain ⟨sa, scap, rfl⟩ := ownsRow_slice hown
  obtain ⟨sg, rfl⟩ : ∃ sg, sa = some ⟨sg, 0, none⟩ := by
    rcases hown.2 with ⟨_, h2⟩ | ⟨g0, c0_, cur, hv_, _⟩
    · omega
    · simp at hv_; exact ⟨g0, hv_.1⟩
  have hsgS := (World.ownsRow.lt hown sg rfl).1
  have hsS := hs.out.base
  have hcr := own_nodes hown
  have hnb : ∀ i, i < len → nb i < w1.heap.size := fun i hi => World.block_lt_of_cell? w1 _ (hD.node i hi).par
  have hwn := wrapNode_any (X := fun w' => ∃ nb2 v2, Hid (DomAt W.heap.size w' n2 nb2 v2 lab2 G2) ∧ Hid (WOk n2 G2) ∧ Hid (∀ i, i < len → nb2 i = nb i) ∧ Hid (len ≤ n2) ∧ Hid (OnlyG len nb w1 w')) s (nb wd) w1 (fun w2 g2 box hb2 hg2 hbox cb cg =>
    (wrapEach_any (hD.below hb2) HW.out.2.2.2.2.1 HW.out.1 HW.out.2.1 (fun y hy => HW.out.2.2.2.1 y (HW.out.1.cp.lt y hy)) (by have := hB.out.bel.size; have := hb2.size; omega) hxl hx0 HW.out.2.2.1 (cell_below hb2 c00) (cell_below hb2 c01) (fun i hi => cell_below hb2 (hcr i hi)) cb cg (fun i hi => by
      have e1 := hnb i hi
      have e2 := hS i hi
      exact ⟨by omega, by omega, by omega, by omega⟩)).mono (by
      rintro e w3 ⟨rfl, nb2, v2, h1, h2, h3, h4, h5⟩
      exact ⟨rfl, Lib.hid ⟨nb2, v2, h1, h2, h3, h4, Lib.hid (((OnlyG.refl len nb w1).of_below hb2).trans h5.out)⟩⟩))
  have HWN := Lib.hid hwn
  have HB1 := Lib.hid hB.out
  clear hwn hnb hcr hsS hsgS c01 c00 hown hD hS hB hs HSEL hx0 hxl
  go_wp2_with fail
  refine HWN.out.mono ?_
  rintro e w3 ⟨rfl, hx⟩
  obtain ⟨nb2, v5, hd3, hw3, hnb, hle, ho3⟩ := hx.out
  obtain ⟨hg, hrow, hb3⟩ := HB1.out.keptG ho3.out
  have hrow2 : ∀ i, i < len → w3.cell? ⟨bl, i, none⟩ = some (.pointer (some ⟨nb2 i, 0, none⟩)) := fun i hi => by rw [hnb.out i hi]; exact hrow i hi
  have hok := (HW.out.2.2.1.ok (lab0 := fun i => ts.getD i default) HW.out.1 ⟨HW.out.1.ok, Nat.le_refl _, fun _ _ _ => rfl, fun _ _ => rfl, fun _ _ => rfl⟩).2.2.2 (fun m => ∃ z a, NodeOk m z a) (fun i hi => ⟨_, _, HR.out.node i hi⟩)
  have hends := ends_many hle.out hd3.out hw3.out hok hpos hlen g bl hg hrow2 C HC.out.1 HC.out.2.1 HC.out.2.2.1 HC.out.2.2.2.1
  have HE := Lib.hid hends
  have HB3 := Lib.hid hb3
  clear hends hb3 hg hrow hrow2 HWN hok o0 ow hx
  go_wp2_with fail
  refine HE.out.mono ?_
  rintro e w4 ⟨tv, pv, rfl, hot, hz, hb4⟩
  have hbs := HB3.out.size
  have HB4 := Lib.hid (HB3.out.trans (hb4.out.mono hbs))
  have HOT := Lib.hid (hot.out.base hbs)
  have HZ : Hid (OwnZ w4 W.heap.size pv (placesW len C)) := Lib.hid (ownsRow_base hz.out hbs)
  clear hot hz hb4 HE
  go_wp2
  go_ret3
  exact ⟨_, _, rfl, HOT, HZ, HB4⟩

end Go.Proofs.YtoleejaabiafcaaGreat

