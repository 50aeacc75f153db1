/- goquery.mapNodes with the function getParentsNodes$1. (Printed by gen_map.py.) -/
import Derived.Test.YtphppdbhofeagaaGreatSibMap
import Derived.Test.YtphppdbhofeagaaGreatBesideAll
namespace Go.Proofs.YtphppdbhofeagaaGreat
open Go.RowKit
set_option linter.unusedVariables false
set_option linter.unusedSimpArgs false

theorem ownPtrs_openUp {w : World} {B : Nat} {v : Value} {l : List Nat} (h : OwnPtrs w B v l) (h0 : 0 < l.length) : ∃ g cap, v = .slice (some ⟨g, 0, none⟩) l.length cap ∧ B ≤ g ∧ g < w.heap.size ∧ ∀ i, i < l.length → w.cell? ⟨g, i, none⟩ = some (.pointer (some ⟨l.getD i 0, 0, none⟩)) := by
  rcases h.2 with ⟨rfl, hz⟩ | ⟨g, cap, cur, rfl, hb, hg, hn, hm, hcs, ht⟩
  · omega
  · refine ⟨g, cap, rfl, hb, (Array.getElem?_eq_some_iff.1 hg).1, fun i hi => ?_⟩
    have := World.ownsRow.cells (h := h) (g := g) rfl i (ptrV (l.getD i 0)) (by simp [List.getD, hi])
    have hadd : (⟨g, 0, none⟩ : Addr).add i = ⟨g, i, none⟩ := by unfold Addr.add; split <;> simp_all
    rw [hadd] at this
    exact this

set_option maxRecDepth 100000 in
set_option maxHeartbeats 4000000 in
theorem mapManyUp {B : Nat} (v cv0 cv1 : Value) (l : List Nat) (F : Nat → List Nat) (w : World) (bl len : Nat) (nb : Nat → Nat) (vv : Nat → Value) (ts : List NodeD) (hF : Forest B w bl len nb vv ts)
    (hv : PtrsOf w v (l.map nb)) (hn : l.length ≤ 200) (hFl : ∀ x ∈ l, ∀ p ∈ F x, p < len) (hFn : ∀ x ∈ l, (F x).length ≤ 200) (hFo : ∀ x ∈ l, Once (F x))
    (hclo : ∀ k, k < l.length → ∀ w', Below w.heap.size w w' → Calls Tryz.prog 102 #[.int .i64 (k : Int), .pointer (some ⟨nb (l.getD k 0), 0, none⟩), cv0, cv1] w' (OwnPtrsPost ((F (l.getD k 0)).map nb) w')) :
    Calls Tryz.prog 77 #[v, .func (.func 102) #[] #[cv0, cv1]] w (OwnPtrsPost ((onceF (l.flatMap F)).map nb) w) := by
  obtain ⟨a, cap, b, off, rfl, hm, ha, hc⟩ := ptrs_open hv
  rw [List.length_map] at ha hc hm ⊢
  have hcell : ∀ k, k < l.length → w.cell? ⟨b, off + k, none⟩ = some (.pointer (some ⟨nb (l.getD k 0), 0, none⟩)) := fun k hk => by
    have h1 := hc k hk
    have e1 : (l.map nb).getD k 0 = nb (l.getD k 0) := by simp [List.getD, hk]
    rwa [e1] at h1
  rcases (show l.length = 0 ∨ l.length = 1 ∨ 2 ≤ l.length by omega) with h0 | h1 | h2
  · have hl : l = [] := List.length_eq_zero_iff.1 h0
    subst hl
    clear hc hcell hclo hF hv ha hFl hFn hFo
    go_enter Tryz.func77, Tryz.ntmps77
    go_wp2
    go_ret
    exact ⟨_, rfl, Lib.hid (World.ownsRow_nil _ _ _ _), Lib.hid (Below.refl _ _)⟩
  · obtain rfl := ha (by omega)
    have hcl := hclo 0 (by omega) w (Below.refl _ _)
    have ck := hcell 0 (by omega)
    rw [Nat.add_zero] at ck
    have hst : onceF (l.flatMap F) = F (l.getD 0 0) := by
      match l, h1, hFo with
      | [x], _, hFo =>
        simp only [List.flatMap_cons, List.flatMap_nil, List.append_nil, List.getD, List.getElem?_cons_zero, Option.getD_some]
        exact onceF_of_once (hFo x (by simp))
    rw [hst, h1]
    have hcl' : Calls Tryz.prog 102 #[.int .i64 0, .pointer (some ⟨nb (l.getD 0 0), 0, none⟩), cv0, cv1] w (OwnPtrsPost ((F (l.getD 0 0)).map nb) w) := hcl
    have HCL := Lib.hid hcl'
    clear hcl hcl' hc hcell hclo hF hv hst ha hFl hFn hFo
    obtain ⟨x, hx⟩ : ∃ x, nb (l.getD 0 0) = x := ⟨_, rfl⟩
    rw [hx] at ck HCL
    clear hx
    go_enter Tryz.func77, Tryz.ntmps77
    go_wp2_with fail
    refine HCL.out.mono ?_
    rintro e w1 ⟨vr, rfl, ho, hb1⟩
    go_wp2
    go_ret
    exact ⟨_, rfl, ho, hb1⟩
  · have hb0 : Below w.heap.size w (w.alloc (.map #[] 0)) := (Below.refl _ _).alloc (Nat.le_refl _) _
    have hs0 := PSet.made w
    have hmk := run_makeMap_hint (P := Tryz.prog) Tryz.underlying93 (l.length : Int) w
    obtain ⟨w0, hw0⟩ : ∃ w0, w.alloc (.map #[] 0) = w0 := ⟨_, rfl⟩
    rw [hw0] at hb0 hs0 hmk
    have hlow : ∀ p, p < len → nb p < w.heap.size := fun p hp => (hF.node hp).alive.lt
    have halw : ∀ i, i < len → Alive w (nb i) := fun i hi => (hF.node hi).alive
    have hinj : ∀ i j, i < len → j < len → nb i = nb j → i = j := fun i j hi hj h => hF.seg.inj i j (Nat.zero_le _) hi (Nat.zero_le _) hj h
    obtain ⟨m, hmm⟩ : ∃ m, w.heap.size = m := ⟨_, rfl⟩
    rw [hmm] at hs0 hmk hb0 hlow hclo
    have g0 : ((l.length : Int) == 0) = false := beq_eq_false_iff_ne.2 (by omega)
    have g1 : ((l.length : Int) == 1) = false := beq_eq_false_iff_ne.2 (by omega)
    have hlI : (0 : Int) < (l.length : Int) := by omega
    have HA := Lib.hid ha
    have HC := Lib.hid hcell
    have HG := Lib.hid (And.intro hlow (And.intro halw hinj))
    have HCLO := Lib.hid hclo
    have HFX := Lib.hid (And.intro hFl hFn)
    have HS0 := Lib.hid (And.intro hb0 hs0)
    have hne0 : ¬ l = [] := by intro h; rw [h] at h2; simp at h2
    clear hF hv ha hc hcell hclo hlow halw hinj hb0 hs0 hFl hFn hFo
    go_enter Tryz.func77, Tryz.ntmps77
    go_wp2
    clear hmk hw0
    go_loopw [4, 25] (fun x i wr => ∃ (k : Nat) (D : List Nat), i = .int .i64 k ∧ k ≤ l.length ∧ D.length ≤ 200 * k ∧ (onceF ((l.take k).flatMap F)).map nb = D ∧ OwnPtrs wr (m + 1) x D ∧ PSet wr m D ∧ Below m w wr)
      (fun _ i _ => l.length - (intOf i).toNat)
    case atStart => exact ⟨0, [], by go_num, by omega, by simp, rfl, World.ownsRow_nil _ _ _ _, HS0.out.2, HS0.out.1⟩
    case round =>
      obtain ⟨k, D, rfl, hk, hdl, hdone, hown, hps, hbel⟩ := hrel
      by_cases hlt : k < l.length
      · obtain rfl := HA.out (by omega)
        have ck : wr.cell? ⟨b, off + k, none⟩ = some (.pointer (some ⟨nb (l.getD k 0), 0, none⟩)) := by
          have h1 := HC.out k hlt
          exact (hbel.cell (p := ⟨b, off + k, none⟩) (by rw [← hmm]; exact World.block_lt_of_cell? _ _ h1)).trans h1
        have hcl := HCLO.out k hlt wr hbel
        have hmem := getD_mem' (d := 0) hlt
        have htk : (l.take (k + 1)).flatMap F = (l.take k).flatMap F ++ F (l.getD k 0) := by rw [take_snoc hlt, List.flatMap_append]; simp
        have hVl := HFX.out.1 _ hmem
        have hVn := HFX.out.2 _ hmem
        have hDl0 : ∀ i ∈ onceF ((l.take k).flatMap F), i < len := fun i hi => by
          obtain ⟨y, hy, hyi⟩ := List.mem_flatMap.1 (onceF_mem.1 hi)
          exact HFX.out.1 y (List.mem_of_mem_take hy) i hyi
        obtain ⟨x, hxx⟩ : ∃ x, l.getD k 0 = x := ⟨_, rfl⟩
        rw [hxx] at ck hcl htk hVl hVn
        obtain ⟨V, hV⟩ : ∃ V, F x = V := ⟨_, rfl⟩
        rw [hV] at hcl htk hVl hVn
        have hstep : (onceF ((l.take (k + 1)).flatMap F)).map nb = withAll D (V.map nb) := by
          rw [htk, once_withAll, ← hdone, withAll_map HG.out.2.2 V _ hDl0 hVl]
        have hDq : ∀ q ∈ D, q < m ∧ Alive w q := fun q hq => by
          rw [← hdone] at hq
          obtain ⟨i, hi, rfl⟩ := List.mem_map.1 hq
          exact ⟨HG.out.1 i (hDl0 i hi), HG.out.2.1 i (hDl0 i hi)⟩
        have hVq : ∀ q ∈ V.map nb, q < m ∧ Alive w q := fun q hq => by
          obtain ⟨i, hi, rfl⟩ := List.mem_map.1 hq
          exact ⟨HG.out.1 i (hVl i hi), HG.out.2.1 i (hVl i hi)⟩
        obtain ⟨Vb, hVb⟩ : ∃ Vb, V.map nb = Vb := ⟨_, rfl⟩
        have hVbl : Vb.length ≤ 200 := by rw [← hVb, List.length_map]; exact hVn
        rw [hVb] at hcl hstep hVq
        have hkI : (k : Int) < (l.length : Int) := by omega
        have hml := hps.lt
        have HCL := Lib.hid hcl
        have H := Lib.hid (And.intro hstep (And.intro hown (And.intro hps hbel)))
        have HQ := Lib.hid (And.intro hDq hVq)
        clear hcl hstep hown hps hbel hxx hmem htk hVl hVn hDl0 hV hDq hVq hVb hdone
        go_wp2_with fail
        refine HCL.out.mono ?_
        rintro e w2 ⟨vr, rfl, ho2, hb2⟩
        have hown2 : OwnPtrs w2 (m + 1) u4 D := ownsRow_kept H.out.2.1 (fun q hq => hb2.out.block q (World.ownsRow.lt H.out.2.1 q hq).2)
        have hps2 := H.out.2.2.1.below hb2.out
        have hbel2 : Below m w w2 := H.out.2.2.2.trans (hb2.out.mono (Nat.le_of_lt hml))
        by_cases hV0 : Vb.length = 0
        · obtain ⟨ra, rc, hrv, _⟩ := ho2.out.ptrs.nil
          rw [List.length_map, hV0] at hrv
          subst hrv
          have hsk : (onceF ((l.take (k + 1)).flatMap F)).map nb = D := by rw [H.out.1, List.eq_nil_of_length_eq_zero hV0]; rfl
          have H2 := Lib.hid (And.intro hsk (And.intro hown2 (And.intro hps2 hbel2)))
          clear hb2 hown2 hps2 hbel2 HCL ck ho2 hsk hV0 H
          go_wp2
          go_roundw
          case rel => exact ⟨k + 1, D, by go_num, by omega, by omega, H2.out.1, H2.out.2.1, H2.out.2.2.1, H2.out.2.2.2⟩
          case measure => simp [intOf]; omega
        · obtain ⟨g, rc, hrv, hgb, hgl, hgc⟩ := ownPtrs_openUp ho2.out (by omega)
          subst hrv
          have hvl : (0 : Int) < (Vb.length : Int) := by omega
          have gvl : decide ((0 : Int) < (Vb.length : Int)) = true := decide_eq_true hvl
          have gvn : decide (0 < Vb.length) = true := decide_eq_true (by omega)
          have happ := appendMany_any u4 D Vb m g rc w2 hown2 hps2 hgc (by omega) hgl (fun e => by have := (World.ownsRow.lt H.out.2.1 g e).2; omega)
            (fun q hq => (HQ.out.1 q hq).2.low (HQ.out.1 q hq).1 hbel2) (fun q hq => (HQ.out.1 q hq).1) (fun q hq => (HQ.out.2 q hq).2.low (HQ.out.2 q hq).1 hbel2) (fun q hq => (HQ.out.2 q hq).1) (by omega) hVbl
          have hwl := withAll_len D Vb
          have HWL := Lib.hid hwl
          have HAPP := Lib.hid happ
          have HB2 := Lib.hid hbel2
          obtain ⟨ua, uc, hu4, _⟩ := hown2.ptrs.nil
          rw [List.length_map] at hu4
          subst hu4
          clear happ hb2 hown2 hps2 hbel2 HCL ck ho2 hgb hgl hgc hwl
          go_wp2_with fail
          refine HAPP.out.mono ?_
          rintro e w3 ⟨v3, rfl, ho3, hp3, hb3⟩
          have HB3 := Lib.hid (HB2.out.trans hb3.out)
          clear hb3 HAPP
          go_wp2
          go_roundw
          case rel => exact ⟨k + 1, withAll D Vb, by go_num, by omega, by have := HWL.out; omega, H.out.1, ho3.out, hp3.out, HB3.out⟩
          case measure => simp [intOf]; omega
      · obtain rfl : k = l.length := by omega
        have hd := hdone
        rw [List.take_length] at hd
        have HO : Hid (OwnPtrs wr w.heap.size u4 ((onceF (l.flatMap F)).map nb)) := Lib.hid (by rw [hd]; exact ownsRow_base hown (by omega))
        have HB : Hid (Below w.heap.size w wr) := Lib.hid (by rw [hmm]; exact hbel)
        clear hdone hd hown hps hbel hlt
        go_wp2
        go_ret
        exact ⟨_, rfl, HO, HB⟩

end Go.Proofs.YtphppdbhofeagaaGreat
