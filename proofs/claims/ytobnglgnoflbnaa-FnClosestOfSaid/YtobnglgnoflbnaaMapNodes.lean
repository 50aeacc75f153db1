/- goquery.mapNodes with ClosestNodes' function. -/
import Derived.Test.YtobnglgnoflbnaaNearClo
import Derived.Test.YtobnglgnoflbnaaAppendOne
namespace Go.Proofs.Ytobnglgnoflbnaa
open Go.RowKit
set_option linter.unusedVariables false
set_option linter.unusedSimpArgs false

set_option maxRecDepth 100000 in
set_option maxHeartbeats 3000000 in
theorem mapNodes_any {B : Nat} (v cv : Value) (l : List Nat) (g : Nat → Option Nat) (w : World) (bl len : Nat) (nb : Nat → Nat) (vv : Nat → Value) (ts : List NodeD) (hF : Forest B w bl len nb vv ts)
    (hv : PtrsOf w v (l.map nb)) (hn : l.length ≤ 200) (hg : ∀ x p, x ∈ l → g x = some p → p < len)
    (hclo : ∀ k, k < l.length → ∀ w', Below w.heap.size w w' → Calls Try.prog 112 #[.int .i64 (k : Int), .pointer (some ⟨nb (l.getD k 0), 0, none⟩), cv] w' (NearPost nb (g (l.getD k 0)) w')) :
    Calls Try.prog 111 #[v, .func (.func 112) #[] #[cv]] w (OwnPtrsPost ((onceF (stepL g l)).map nb) w) := by
  obtain ⟨a, cap, b, off, rfl, hm, ha, hc⟩ := ptrs_open hv
  rw [List.length_map] at ha hc hm ⊢
  have hcell : ∀ k, k < l.length → w.cell? ⟨b, off + k, none⟩ = some (.pointer (some ⟨nb (l.getD k 0), 0, none⟩)) := fun k hk => by
    have h1 := hc k hk
    have e1 : (l.map nb).getD k 0 = nb (l.getD k 0) := by simp [List.getD, hk]
    rwa [e1] at h1
  rcases (show l.length = 0 ∨ l.length = 1 ∨ 2 ≤ l.length by omega) with h0 | h1 | h2
  · have hl : l = [] := List.length_eq_zero_iff.1 h0
    subst hl
    clear hc hcell hclo hg hF hv ha
    go_enter Try.func111, Try.ntmps111
    go_wp2
    go_ret
    exact ⟨_, rfl, Lib.hid (World.ownsRow_nil _ _ _ _), Lib.hid (Below.refl _ _)⟩
  · obtain rfl := ha (by omega)
    have hcl := hclo 0 (by omega) w (Below.refl _ _)
    have ck := hcell 0 (by omega)
    rw [Nat.add_zero] at ck
    have hst : onceF (stepL g l) = (g (l.getD 0 0)).toList := by
      match l, h1 with
      | [x], _ =>
        simp only [stepL, List.getD, List.getElem?_cons_zero, Option.getD_some]
        cases hgx : g x <;> simp [List.filterMap, hgx, onceF]
    rw [hst, h1]
    cases ho : g (l.getD 0 0) with
    | none =>
      rw [ho] at hcl
      have hcl' : Calls Try.prog 112 #[.int .i64 0, .pointer (some ⟨nb (l.getD 0 0), 0, none⟩), cv] w (NearNo w) := hcl
      have HCL := Lib.hid hcl'
      clear hcl hcl' hc hcell hclo hg hF hv hst ho ha
      obtain ⟨x, hx⟩ : ∃ x, nb (l.getD 0 0) = x := ⟨_, rfl⟩
      rw [hx] at ck HCL
      clear hx
      go_enter Try.func111, Try.ntmps111
      go_wp2_with fail
      refine HCL.out.mono ?_
      rintro e w1 ⟨rfl, hb1⟩
      go_wp2
      go_ret
      exact ⟨_, rfl, Lib.hid (World.ownsRow_nil _ _ _ _), hb1⟩
    | some p =>
      rw [ho] at hcl
      have hcl' : Calls Try.prog 112 #[.int .i64 0, .pointer (some ⟨nb (l.getD 0 0), 0, none⟩), cv] w (NearOne (nb p) w) := hcl
      have HCL := Lib.hid hcl'
      clear hcl hcl' hc hcell hclo hg hF hv hst ho ha
      obtain ⟨x, hx⟩ : ∃ x, nb (l.getD 0 0) = x := ⟨_, rfl⟩
      rw [hx] at ck HCL
      clear hx
      go_enter Try.func111, Try.ntmps111
      go_wp2_with fail
      refine HCL.out.mono ?_
      rintro e w1 ⟨q, rfl, cq, hoq, hb1⟩
      go_wp2
      go_ret
      exact ⟨_, rfl, hoq, hb1⟩
  · have hb0 : Below w.heap.size w (w.alloc (.map #[] 0)) := (Below.refl _ _).alloc (Nat.le_refl _) _
    have hs0 := PSet.made w
    have hmk := run_makeMap_hint (P := Try.prog) Try.underlying138 (l.length : Int) w
    obtain ⟨w0, hw0⟩ : ∃ w0, w.alloc (.map #[] 0) = w0 := ⟨_, rfl⟩
    rw [hw0] at hb0 hs0 hmk
    have hlow : ∀ x p, x ∈ l → g x = some p → nb p < w.heap.size := fun x p hx hp => (hF.node (hg x p hx hp)).alive.lt
    have halw : ∀ i, i < len → Alive w (nb i) := fun i hi => (hF.node hi).alive
    have hinj : ∀ i j, i < len → j < len → nb i = nb j → i = j := fun i j hi hj h => hF.seg.inj i j (Nat.zero_le _) hi (Nat.zero_le _) hj h
    obtain ⟨m, hmm⟩ : ∃ m, w.heap.size = m := ⟨_, rfl⟩
    rw [hmm] at hs0 hmk hb0 hlow hclo
    have g0 : ((l.length : Int) == 0) = false := beq_eq_false_iff_ne.2 (by omega)
    have g1 : ((l.length : Int) == 1) = false := beq_eq_false_iff_ne.2 (by omega)
    have hlI : (0 : Int) < (l.length : Int) := by omega
    have HA := Lib.hid ha
    have HC := Lib.hid hcell
    have HG := Lib.hid (And.intro hg (And.intro hlow (And.intro halw hinj)))
    have HCLO := Lib.hid hclo
    have HS0 := Lib.hid (And.intro hb0 hs0)
    have hne0 : ¬ l = [] := by intro h; rw [h] at h2; simp at h2
    clear hF hv ha hc hcell hclo hg hlow halw hinj hb0 hs0
    go_enter Try.func111, Try.ntmps111
    go_wp2
    clear hmk hw0
    go_loopw [4, 25] (fun x i wr => ∃ (k : Nat) (D : List Nat), i = .int .i64 k ∧ k ≤ l.length ∧ D.length ≤ k ∧ (onceF (stepL g (l.take k))).map nb = D ∧ OwnPtrs wr (m + 1) x D ∧ PSet wr m D ∧ Below m w wr)
      (fun _ i _ => l.length - (intOf i).toNat)
    case atStart => exact ⟨0, [], by go_num, by omega, by simp, rfl, World.ownsRow_nil _ _ _ _, HS0.out.2, HS0.out.1⟩
    case round =>
      obtain ⟨k, D, rfl, hk, hdl, hdone, hown, hps, hbel⟩ := hrel
      by_cases hlt : k < l.length
      · obtain rfl := HA.out (by omega)
        have ck : wr.cell? ⟨b, off + k, none⟩ = some (.pointer (some ⟨nb (l.getD k 0), 0, none⟩)) := by
          have h1 := HC.out k hlt
          exact (hbel.cell (p := ⟨b, off + k, none⟩) (by rw [← hmm]; exact World.block_lt_of_cell? _ _ h1)).trans h1
        have hcl := HCLO.out k hlt wr hbel
        have hmem := getD_mem' (d := 0) hlt
        have hskip := stepO_skip (g := g) hlt
        have hthere := fun p => stepO_there (g := g) (p := p) hlt
        have hnew := fun p => stepO_new (g := g) (p := p) hlt
        obtain ⟨x, hxx⟩ : ∃ x, l.getD k 0 = x := ⟨_, rfl⟩
        rw [hxx] at ck hcl hmem hskip hthere hnew
        have hkI : (k : Int) < (l.length : Int) := by omega
        have hml := hps.lt
        cases ho : g x with
        | none =>
          rw [ho] at hcl
          have hcl' : Calls Try.prog 112 #[.int .i64 (k : Int), .pointer (some ⟨nb x, 0, none⟩), cv] wr (NearNo wr) := hcl
          have HCL := Lib.hid hcl'
          have H := Lib.hid (And.intro ((congrArg (List.map nb) (hskip ho)).trans hdone) (And.intro hown (And.intro hps hbel)))
          clear hcl hcl' hskip hthere hnew hdone hown hps hbel ho hxx hmem
          go_wp2_with fail
          refine HCL.out.mono ?_
          rintro e w2 ⟨rfl, hb2⟩
          have hown2 : OwnPtrs w2 (m + 1) u4 D := ownsRow_kept H.out.2.1 (fun q hq => hb2.out.block q (World.ownsRow.lt H.out.2.1 q hq).2)
          have H2 := Lib.hid (And.intro hown2 (And.intro (H.out.2.2.1.below hb2.out) (H.out.2.2.2.trans (hb2.out.mono (Nat.le_of_lt hml)))))
          clear hb2 hown2 HCL ck
          go_wp2
          go_roundw
          case rel => exact ⟨k + 1, D, by go_num, by omega, by omega, H.out.1, H2.out.1, H2.out.2.1, H2.out.2.2⟩
          case measure => simp [intOf]; omega
        | some p =>
          rw [ho] at hcl
          have hcl' : Calls Try.prog 112 #[.int .i64 (k : Int), .pointer (some ⟨nb x, 0, none⟩), cv] wr (NearOne (nb p) wr) := hcl
          have HCL := Lib.hid hcl'
          have hpl := HG.out.1 x p hmem ho
          have hpm := HG.out.2.1 x p hmem ho
          have hDl : ∀ i ∈ onceF (stepL g (l.take k)), i < len := fun i hi => stepL_lt (fun y q hy hq => HG.out.1 y q (List.mem_of_mem_take hy) hq) (onceF_mem.1 hi)
          have hDq : ∀ q ∈ D, ∃ i, i < len ∧ q = nb i := fun q hq => by
            rw [← hdone] at hq
            obtain ⟨i, hi, rfl⟩ := List.mem_map.1 hq
            exact ⟨i, hDl i hi, rfl⟩
          have hmemb := mem_nb (nb := nb) HG.out.2.2.2 hpl hDl
          rw [hdone] at hmemb
          have hwith : (onceF (stepL g (l.take (k + 1)))).map nb = withOne D (nb p) := by
            unfold withOne
            by_cases hin : p ∈ onceF (stepL g (l.take k))
            · rw [hthere p ho hin, hdone, if_pos (of_decide_eq_true (by rw [hmemb]; exact decide_eq_true hin))]
            · rw [hnew p ho hin, List.map_append, hdone, if_neg (of_decide_eq_false (by rw [hmemb]; exact decide_eq_false hin))]; rfl
          have hlenw : (withOne D (nb p)).length ≤ k + 1 := by
            rw [← hwith, List.length_map]
            exact stepO_len
          have hDm : ∀ q ∈ D, q < m := fun q hq => by
            obtain ⟨i, hi, rfl⟩ := hDq q hq
            rw [← hmm]
            exact (HG.out.2.2.1 i hi).lt
          have hDa : ∀ q ∈ D, Alive w q := fun q hq => by
            obtain ⟨i, hi, rfl⟩ := hDq q hq
            exact HG.out.2.2.1 i hi
          have H := Lib.hid (And.intro hwith (And.intro hown (And.intro hps hbel)))
          have HD := Lib.hid (And.intro hDm (And.intro hDa (HG.out.2.2.1 p hpl)))
          clear hcl hcl' hskip hthere hnew hdone hown hps hbel ho hxx hmem hDl hDq hmemb hwith hDm hDa
          go_wp2_with fail
          refine HCL.out.mono ?_
          rintro e w2 ⟨q, rfl, cq, _, hb2⟩
          have hown2 : OwnPtrs w2 (m + 1) u4 D := ownsRow_kept H.out.2.1 (fun q hq => hb2.out.block q (World.ownsRow.lt H.out.2.1 q hq).2)
          have hps2 := H.out.2.2.1.below hb2.out
          have hbel2 : Below m w w2 := H.out.2.2.2.trans (hb2.out.mono (Nat.le_of_lt hml))
          have happ := appendOne_any u4 D m q (nb p) w2 hown2 hps2 cq (fun r hr => (HD.out.2.1 r hr).low (HD.out.1 r hr) hbel2) HD.out.1 (HD.out.2.2.low hpm hbel2) hpm (by omega)
          have HAPP := Lib.hid happ
          have HB2 := Lib.hid hbel2
          obtain ⟨ua, uc, hu4, _⟩ := hown2.ptrs.nil
          rw [List.length_map] at hu4
          subst hu4
          clear happ hb2 hown2 hps2 hbel2 HCL ck cq
          go_wp2_with fail
          refine HAPP.out.mono ?_
          rintro e w3 ⟨v3, rfl, ho3, hp3, hb3⟩
          have HB3 := Lib.hid (HB2.out.trans hb3.out)
          clear hb3 HAPP
          go_wp2
          go_roundw
          case rel => exact ⟨k + 1, withOne D (nb p), by go_num, by omega, hlenw, H.out.1, ho3.out, hp3.out, HB3.out⟩
          case measure => simp [intOf]; omega
      · obtain rfl : k = l.length := by omega
        have hd := hdone
        rw [List.take_length] at hd
        have HO : Hid (OwnPtrs wr w.heap.size u4 ((onceF (stepL g l)).map nb)) := Lib.hid (by rw [hd]; exact ownsRow_base hown (by omega))
        have HB : Hid (Below w.heap.size w wr) := Lib.hid (by rw [hmm]; exact hbel)
        clear hdone hd hown hps hbel hlt
        go_wp2
        go_ret
        exact ⟨_, rfl, HO, HB⟩

end Go.Proofs.Ytobnglgnoflbnaa
