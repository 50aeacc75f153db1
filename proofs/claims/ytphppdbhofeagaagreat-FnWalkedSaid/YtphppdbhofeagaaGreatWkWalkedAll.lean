/- impl.Walked: what its loop knows. impl.Walked. (Printed by gen_wkwalked.py.) -/
import Derived.Test.YtphppdbhofeagaaGreatWkAddAll
import Derived.Test.YtphppdbhofeagaaGreatWkChosen
import Derived.Test.YtphppdbhofeagaaGreatWkWalk
import Derived.Test.YtphppdbhofeagaaGreatPlacesOf
namespace Go.Proofs.YtphppdbhofeagaaGreat
open Go.RowKit
set_option linter.unusedVariables false
set_option linter.unusedSimpArgs false

structure WpAt (wg w : World) (len : Nat) (nb : Nat → Nat) (cl : Nat → List Nat) (ck : Nat → Bool) (n : Nat) (s : Nat) (u : Value) (P : List Nat) (st : Value) (vs : List Value) (Ms : List (List Nat)) : Prop where
  sel : SelO w s u (P.map nb) wg.heap.size
  agree : Agree len P (cl n) (ck n)
  set : w.ownsRow wg.heap.size 23 1 st n vs
  rows : RowsAt w vs Ms st.ownBlock u.ownBlock
  so : OffBlk st u.ownBlock
  ml : Ms.length = n
  ms : ∀ j, j < n → Agree len (Ms.getD j []) (cl (j + 1)) (ck (j + 1))
  bel : Below wg.heap.size wg w

theorem SelO.kept {w w' : World} {s B : Nat} {v : Value} {l : List Nat} (h : SelO w s v l B) (hs : w.heap.size ≤ w'.heap.size) (h1 : w'.heap[s]? = w.heap[s]?) (h2 : ∀ b, v.ownBlock = some b → w'.heap[b]? = w.heap[b]?) : SelO w' s v l B := by
  obtain ⟨d, hd⟩ := h.doc
  exact ⟨(World.cell?_of_block h1).trans h.nodes, ⟨d, (World.cell?_of_block h1).trans hd⟩, h.off.kept hs h2, h.base, h.ne⟩

theorem WpAt.step {wg wr w2 w4 w5 w6 : World} {len : Nat} {nb : Nat → Nat} {cl : Nat → List Nat} {ck : Nat → Bool} {n s s' : Nat} {u v' vp st : Value} {P N : List Nat} {vs : List Value} {Ms : List (List Nat)} (h : WpAt wg wr len nb cl ck n s u P st vs Ms)
    (hb2 : Below wr.heap.size wr w2) (hs4 : SelO w4 s' v' (N.map nb) wg.heap.size) (hb4 : Below wg.heap.size w2 w4) (hk4 : KeepBut u.ownBlock w2 w4) (hj4 : (∀ j, v'.ownBlock = some j → u.ownBlock = some j ∨ w2.heap.size ≤ j) ∧ w2.heap.size ≤ s')
    (ha : Agree len N (cl (n + 1)) (ck (n + 1))) (hp : OwnPl w5 w4.heap.size vp N) (hb5 : Below w4.heap.size w4 w5) {g1 c1 : Nat} {x : Obj}
    (h6 : w6.ownsRow wg.heap.size 23 1 (.slice (some ⟨g1, 0, none⟩) (n + 1) c1) (n + 1) (vs ++ [vp])) (hg6 : (w5.alloc x).grownBy w6 st.ownBlock) (hat6 : st.ownBlock = some g1 ∨ w5.heap.size ≤ g1) :
    WpAt wg w6 len nb cl ck (n + 1) s' v' N (.slice (some ⟨g1, 0, none⟩) (n + 1) c1) (vs ++ [vp]) (Ms ++ [N]) := by
  have k6 : KeepBut st.ownBlock w5 w6 := grown_keep hg6
  have z2 := hb2.size
  have z4 := hk4.size
  have z5 := hb5.size
  have z6 := k6.size
  have zb := h.bel.size
  have hst : ∀ q, st.ownBlock = some q → wg.heap.size ≤ q ∧ q < wr.heap.size := fun q hq => World.ownsRow.lt h.set q hq
  have hvl : ∀ j, v'.ownBlock = some j → wg.heap.size ≤ j ∧ j < w4.heap.size := fun j hj => hs4.off.lt j hj
  have hvs : ∀ j, v'.ownBlock = some j → st.ownBlock ≠ some j := fun j hj e => by
    rcases hj4.1 j hj with h1 | h1
    · exact h.so j e h1
    · have := (hst j e).2; omega
  have t1 : ∀ b, (some g1 : Option Nat) = some b → st.ownBlock = some b ∨ w5.heap.size ≤ b := fun b hb => by
    simp at hb
    subst hb
    exact hat6
  have r4 := (h.rows.below hb2).two (p' := v'.ownBlock) hk4 hj4.1
  have r5 := (r4.below hb5).snoc (v := vp) (L := N) hp.reads (fun j hj e => by
    have h1 := (World.ownsRow.lt hp j hj).1
    have h2 := (hst j e).2
    omega) (fun j hj e => by
    have h1 := (World.ownsRow.lt hp j hj).1
    have h2 := (hvl j e).2
    omega) (fun j hj => (World.ownsRow.lt hp j hj).2)
  have r6 := r5.one (o' := some g1) k6 t1
  have hs5 := hs4.below hb5
  have hlt5 : s' < w5.heap.size := World.block_lt_of_cell? _ _ hs5.nodes
  have hs6 : SelO w6 s' v' (N.map nb) wg.heap.size := hs5.kept z6 (k6.block s' hlt5 (fun e => by have := (hst s' e).2; have := hj4.2; omega)) (fun b hb => k6.block b (by have := (hvl b hb).2; omega) (hvs b hb))
  have hb45 : Below wg.heap.size wg w5 := ((h.bel.trans (hb2.mono zb)).trans hb4).trans (hb5.mono (by omega))
  have hb6 : Below wg.heap.size wg w6 := (hb45.alloc (by omega) x).grown hg6 (by simp; omega) (fun q hq => (hst q hq).1)
  refine ⟨hs6, ha, h6, r6, ?_, by simp [h.ml], fun j hj => ?_, hb6⟩
  · intro j hj e
    simp [Value.ownBlock] at hj
    subst hj
    rcases hat6 with h1 | h1
    · exact hvs g1 e h1
    · have := (hvl g1 e).2; omega
  · by_cases hjn : j < n
    · have e1 : (Ms ++ [N]).getD j [] = Ms.getD j [] := by simp [List.getD, List.getElem?_append_left (by rw [h.ml]; exact hjn : j < Ms.length)]
      rw [e1]
      exact h.ms j hjn
    · obtain rfl : j = n := by omega
      have e1 : (Ms ++ [N]).getD j [] = N := by rw [← h.ml]; simp [List.getD]
      rw [e1]
      exact ha

/-- What is sure is one of the steps. -/
theorem relS_op {ts : List NodeD} {len : Nat} {p : PickP} {L M : List Nat} (h : relS ts len p L = some M) : 20 ≤ p.op ∧ p.op ≤ 39 := by
  unfold relS at h
  by_cases hp : p.part = true
  · have : 32 ≤ p.op ∧ p.op ≤ 36 := by simpa [PickP.part] using hp
    omega
  rw [if_neg hp] at h
  by_cases h7 : p.op = 37 ∨ p.op = 38
  · omega
  rw [if_neg h7] at h
  by_cases h9 : p.op = 39
  · omega
  rw [if_neg h9] at h
  by_cases hr : 20 ≤ p.op ∧ p.op ≤ 31
  · omega
  · rw [relF_none ts len p.wl hr] at h
    cases h

/-- All sets, as the chain says. -/
def WalkedPost (len : Nat) (cl : Nat → List Nat) (ck : Nat → Bool) (n : Nat) (W : World) (e : Ending) (w' : World) : Prop :=
  ∃ (v : Value) (vs : List Value) (Ms : Nat → List Nat), e = .returned (.tuple #[v, .bool true]) ∧ Hid (ReadsAs w' v vs) ∧ Hid (vs.length = n ∧ ∀ j, j < n → ReadsAs w' (vs.getD j undef) ((Ms j).map intV) ∧ Agree len (Ms j) (cl (j + 1)) (ck (j + 1))) ∧ Hid (Below W.heap.size W w')

end Go.Proofs.YtphppdbhofeagaaGreat

namespace Go.Proofs.YtphppdbhofeagaaGreat
open Go.RowKit
set_option linter.unusedVariables false
set_option linter.unusedSimpArgs false

set_option maxRecDepth 100000 in
set_option maxHeartbeats 8000000 in
theorem walkedW_any (W : World) (ta : Option Addr) (len cap : Nat) (ts : List NodeD) (hR : RightT ts len) (hN : Nodes W ta len ts) (v0 : Value) (l0 : List Nat) (h0 : ReadsAs W v0 (l0.map intV)) (ho0 : Once l0) (hl0 : ∀ x ∈ l0, x < len ∧ 0 < x)
    (pa : Option Addr) (n pc : Nat) (ps : List PickD) (hP : Picks W pa n ps) (hn : n ≤ 8) (wl : Nat → List Nat) (hw : ∀ i, i < n → PickOk len (ps.getD i default) (wl i)) (hw3 : ∀ i, i < n → ∀ y ∈ wl i, kd ts y = 3)
    (cl : Nat → List Nat) (ck : Nat → Bool) (hch : ChainS ts len ps wl l0 cl ck n) :
    Calls Tryz.prog 15 #[.slice ta len cap, v0, .slice pa n pc] W (WalkedPost len cl ck n W) := by
  have hlen := hR.le
  obtain ⟨b, off, hpa, hcells⟩ := hP.open
  obtain ⟨i0, hi, hz0, hz1, hz2⟩ := info_parts Tryz.infoInts
  have hch2 := chosenN_any W ta len cap ts hR hN v0 l0 h0 (fun i hi => (hl0 i hi).1) ho0 (Nat.le_trans (once_le ho0 (fun i hi => (hl0 i hi).1)) hlen)
  have HCH := Lib.hid hch2
  have HPA := Lib.hid hpa
  have HPC := Lib.hid hcells
  have HT := Lib.hid (And.intro hR (And.intro hw (And.intro hw3 hch)))
  have HL0 : Hid (Agree len l0 (cl 0) (ck 0)) := Lib.hid (by rw [hch.l0]; exact ⟨ho0, ho0, fun _ => Iff.rfl, hl0, fun _ => rfl⟩)
  clear hR hN h0 ho0 hl0 hP hpa hcells hw hw3 hch hch2
  go_enter Tryz.func15, Tryz.ntmps15
  go_wp2_with fail
  refine HCH.out.mono ?_
  rintro e w1 ⟨bl, nb, vv, s0, u0, wg, rfl, hF, hbg, hsel, hb1⟩
  have hstart : WpAt wg w1 len nb cl ck 0 s0 u0 l0 (.slice none 0 0) [] [] :=
    ⟨hsel.out, HL0.out, World.ownsRow_nil _ _ _ _, RowsAt.nil _ _ _, fun b h => by simp [Value.ownBlock] at h, rfl, fun j hj => by omega, hb1.out⟩
  have HS := Lib.hid hstart
  have HF : Hid (∀ w', Below wg.heap.size wg w' → Forest W.heap.size w' bl len nb vv ts) := Lib.hid (fun w' h => hF.out.below h)
  have HLOW : Hid (∀ i, i < len → nb i < wg.heap.size) := Lib.hid (fun i hi => (hF.out.node hi).alive.lt)
  clear hsel hb1 hF hstart HCH HL0
  go_wp2
  go_loopw [6, 8, 27] (fun st sv iv wr => ∃ (k s : Nat) (u : Value) (P : List Nat) (vs : List Value) (Ms : List (List Nat)), iv = .int .i64 (k : Int) ∧ k ≤ n ∧ sv = .pointer (some ⟨s, 0, none⟩) ∧ Hid (WpAt wg wr len nb cl ck k s u P st vs Ms)) (fun _ _ iv _ => n - (intOf iv).toNat)
  case atStart => exact ⟨0, s0, u0, l0, [], [], by go_num, by omega, rfl, HS⟩
  case round =>
    obtain ⟨k, s, u, P, vs, Ms, rfl, hk, rfl, hat⟩ := hrel
    by_cases hlt : k < n
    · obtain rfl := HPA.out (by omega)
      have hbW : Below W.heap.size W wr := hbg.out.trans (hat.out.bel.mono hbg.out.size)
      have hpc := (HPC.out k hlt).below hbW
      have hpk := HT.out.2.1 k hlt
      have hk3 := HT.out.2.2.1 k hlt
      have hst := HT.out.2.2.2.step k hlt
      have hwn : (wl k).length ≤ 200 := Nat.le_trans hpk.places.le hlen
      obtain ⟨d, hd⟩ : ∃ d, ps.getD k default = d := ⟨_, rfl⟩
      rw [hd] at hpc hpk hst
      clear hd
      obtain ⟨op, tx, wa, wn, wc, zs, pa', pb'⟩ := d
      obtain ⟨x0, x1, x2, x3, x4, hints, hcap, hra, hrb, _⟩ := hpc
      simp only at x0 x1 x2 x3 x4 hints hcap hra hrb
      have hwl : (wl k).length = wn := by
        have h1 := hpk.places.eq
        have h2 := hints.open.1
        simp only at h1
        rw [← h2, h1, List.length_map]
      subst hwl
      have hrd := hpk.places.reads hints hcap.1 hcap.2
      have hkI : (k : Int) < (n : Int) := by omega
      obtain ⟨N, hN, hagN⟩ := step_agree HT.out.1 (p := pkOf ⟨op, tx, wa, (wl k).length, wc, zs, pa', pb'⟩ (wl k)) (fun x hx => ⟨hpk.places.lt x hx, hpk.pos x hx⟩) hat.out.agree hst
      have hop := relS_op hst.eq
      have hNl : N.length ≤ 200 := Nat.le_trans hagN.leP hlen
      have hb0 : Below wr.heap.size wr (wr.alloc (.cells #[.int .i64 op, .string tx, .slice wa (wl k).length wc, .int .i64 pa', .int .i64 pb'] 27)) := (Below.refl _ _).alloc (Nat.le_refl _) _
      have hp : ∀ i u, (#[.int .i64 op, .string tx, .slice wa (wl k).length wc, .int .i64 pa', .int .i64 pb'] : Array Value)[i]? = some u → (wr.alloc (.cells #[.int .i64 op, .string tx, .slice wa (wl k).length wc, .int .i64 pa', .int .i64 pb'] 27)).cell? ⟨wr.heap.size, i, none⟩ = some u := fun i u h => cell_alloc_new' _ _ _ rfl h
      obtain ⟨wp, hwp⟩ : ∃ wp, wr.alloc (.cells #[.int .i64 op, .string tx, .slice wa (wl k).length wc, .int .i64 pa', .int .i64 pb'] 27) = wp := ⟨_, rfl⟩
      rw [hwp] at hb0 hp
      have q0 : wp.cell? ⟨wr.heap.size, 0, none⟩ = some (.int .i64 op) := hp 0 _ rfl
      have q1 : wp.cell? ⟨wr.heap.size, 1, none⟩ = some (.string tx) := hp 1 _ rfl
      have q2 : wp.cell? ⟨wr.heap.size, 2, none⟩ = some (.slice wa (wl k).length wc) := hp 2 _ rfl
      have q3 : wp.cell? ⟨wr.heap.size, 3, none⟩ = some (.int .i64 pa') := hp 3 _ rfl
      have q4 : wp.cell? ⟨wr.heap.size, 4, none⟩ = some (.int .i64 pb') := hp 4 _ rfl
      have hbgp : Below wg.heap.size wg wp := hat.out.bel.trans (hb0.mono hat.out.bel.size)
      have hth := these_any bl len len nb (.slice wa (wl k).length wc) (wl k) wp (fun i hi => (HF.out wp hbgp).cell hi) hlen (hrd.below hb0) (fun i hi => hpk.places.lt i hi) hwn
      have HTH := Lib.hid hth
      have HB0 := Lib.hid hb0
      have HAG := Lib.hid (And.intro hagN hNl)
      have hdo := fun (w2 : World) (hb2 : Below wr.heap.size wr w2) (va : Option Addr) (vc : Nat) (hV : PtrsOf w2 (.slice va (wl k).length vc) ((wl k).map nb)) (hVb : ∀ b, (Value.slice va (wl k).length vc).ownBlock = some b → u.ownBlock ≠ some b) =>
        next_any tx wa (wl k).length wc (pkOf ⟨op, tx, wa, (wl k).length, wc, zs, pa', pb'⟩ (wl k)) hra hrb (hat.out.sel.below hb2) (HF.out w2 (hat.out.bel.trans (hb2.mono hat.out.bel.size))) HT.out.1 (fun x hx => hat.out.agree.ltP x hx) (Nat.le_trans hat.out.agree.leP hlen) HLOW.out va vc (fun y hy => ⟨hpk.places.lt y hy, hk3 y hy⟩) hwn hV hVb hN hop
      have HDO := Lib.hid hdo
      have HHW := Lib.hid hwp
      clear hp hth hb0 hbgp hagN hNl hdo hints hcap hra hrb hrd hpk hk3 hst hN hop hwn hbW hwp
      go_wp2_with fail
      rw [HHW.out]
      refine HTH.out.mono ?_
      rintro e w2 ⟨vw, rfl, how, hb2⟩
      obtain ⟨va, vc, hvw, _⟩ := how.out.ptrs.nil
      rw [List.length_map, List.length_map] at hvw
      subst hvw
      have hbr2 : Below wr.heap.size wr w2 := HB0.out.trans (hb2.out.mono HB0.out.size)
      have hnd := HDO.out w2 hbr2 va vc how.out.ptrs (fun b hb e => by
        have h1 := (World.ownsRow.lt how.out b hb).1
        have h2 := (hat.out.sel.off.lt b e).2
        have h3 := HB0.out.size
        omega)
      have y0 := cell_below hb2.out q0
      have y1 := cell_below hb2.out q1
      have y2 := cell_below hb2.out q2
      have y3 := cell_below hb2.out q3
      have y4 := cell_below hb2.out q4
      have HBR2 := Lib.hid hbr2
      clear how hb2 hbr2 HTH HDO q0 q1 q2 q3 q4 x0 x1 x2 x3 x4
      rcases hnd with hnd | ⟨hnd, hkin⟩
      · have HND : Hid (Calls Tryz.prog 27 #[.pointer (some ⟨s, 0, none⟩), .agg #[.int .i64 op, .string tx, .slice wa (wl k).length wc, .int .i64 pa', .int .i64 pb'], .slice va (wl k).length vc] w2 (NextPost wg.heap.size u.ownBlock (N.map nb) w2)) := Lib.hid hnd
        clear hnd
        go_wp2_with fail
        refine HND.out.mono ?_
        rintro e w4 ⟨s', v', rfl, hs4, hb4, hk4, hj4⟩
        have HBR := HBR2
        clear HND y0 y1 y2 y3 y4 HBR2
        have c0 := hs4.out.nodes
        have hbg4 : Below wg.heap.size wg w4 := (hat.out.bel.trans (HBR.out.mono hat.out.bel.size)).trans hb4.out
        have hpl := placesOf_any w4 bl len len nb vv ts (HF.out w4 hbg4) hlen v' N hs4.out.off.1 (fun i hi => (HAG.out.1.ltP i hi).1) HAG.out.2
        obtain ⟨ua, uc, hu, _⟩ := hs4.out.off.1.nil
        rw [List.length_map, List.length_map] at hu
        subst hu
        have HPL := Lib.hid hpl
        have HG4 := Lib.hid hbg4
        have HNX := Lib.hid (And.intro hs4.out (And.intro hb4.out (And.intro hk4.out hj4.out)))
        clear hs4 hb4 hk4 hj4 hpl hbg4
        go_wp2_with fail
        refine HPL.out.mono ?_
        rintro e w5 ⟨vp, rfl, ho5, hb5⟩
        obtain ⟨na, nc, hvp, _⟩ := ho5.out.reads.nil
        rw [List.length_map] at hvp
        subst hvp
        obtain ⟨sa, sc, hs, _⟩ := own_nil_value hat.out.set
        have HAT := hat
        clear hat
        subst hs
        have hzr : wr.heap.size ≤ w4.heap.size := Nat.le_trans HBR.out.size HNX.out.2.2.1.size
        have hset5 : w5.ownsRow wg.heap.size 23 1 (.slice sa k sc) k vs := ownsRow_kept HAT.out.set (fun q hq => by
          have hl := (World.ownsRow.lt HAT.out.set q hq).2
          rw [hb5.out.block q (by omega), HNX.out.2.2.1.block q (by have := HBR.out.size; omega) (fun e => HAT.out.so q hq e), HBR.out.block q hl])
        have hs5 : wg.heap.size ≤ w5.heap.size := Nat.le_trans HG4.out.size hb5.out.size
        have hnews : ∀ j u, [Value.slice na N.length nc][j]? = some u → (w5.alloc (.cells #[.slice na N.length nc] 23)).cell? ((⟨w5.heap.size, 0, none⟩ : Addr).add j) = some u := by
          intro j u hj
          match j, hj with
          | 0, hj => simp at hj; subst hj; simp [Addr.add]
        have HNS := Lib.hid (And.intro hnews (And.intro (hset5.alloc (.cells #[.slice na N.length nc] 23)) (And.intro ho5.out hb5.out)))
        clear hnews hset5 ho5 hb5 HPL c0 hzr
        go_wp2_with (at_builtin; refine wpList_append_lies _ rfl _ _ 36 rfl wg.heap.size 23 i0 (.slice none 0 0) 1 24 Tryz.underlying36 hi hz0 hz1 hz2 rfl (by decide) _ _ _ rfl HNS.out.2.1 ⟨w5.heap.size, 0, none⟩ 1 1 [.slice na N.length nc] rfl rfl HNS.out.1 (by intro u hu; simp at hu; subst hu; rfl) (by omega) (by unfold maxLen; omega) (by omega) (by simp; omega) _ rfl ?_)
        intro g1' c1' w6 hown6 hgrow6 hat6 hlt6
        have hat6' : (Value.slice sa k sc).ownBlock = some g1' ∨ w5.heap.size ≤ g1' := by
          rcases hat6 with h | h
          · exact .inl h
          · right; omega
        have hfin := Lib.hid (WpAt.step HAT.out HBR.out HNX.out.1 HNX.out.2.1 HNX.out.2.2.1 HNX.out.2.2.2 HAG.out.1 HNS.out.2.2.1 HNS.out.2.2.2 hown6 hgrow6 hat6')
        clear hown6 hgrow6 hat6 hat6' hlt6 HNS HNX HG4
        go_wp2
        go_roundw
        case rel => exact ⟨k + 1, s', _, N, _, _, by go_num, by omega, rfl, hfin⟩
        case measure => simp [intOf]; omega
      · have HND : Hid (Calls Tryz.prog 27 #[.pointer (some ⟨s, 0, none⟩), .agg #[.int .i64 op, .string tx, .slice wa (wl k).length wc, .int .i64 pa', .int .i64 pb'], .slice va (wl k).length vc] w2 (fun e w' => e = .returned (.pointer none) ∧ Below w2.heap.size w2 w')) := Lib.hid hnd
        have HKIN : Hid (∀ w1, Below w2.heap.size w2 w1 → Calls Tryz.prog 28 #[.pointer (some ⟨s, 0, none⟩), .agg #[.int .i64 op, .string tx, .slice wa (wl k).length wc, .int .i64 pa', .int .i64 pb']] w1 (NextPost wg.heap.size u.ownBlock (N.map nb) w1)) := Lib.hid hkin
        clear hnd hkin
        go_wp2_with fail
        refine HND.out.mono ?_
        rintro e w3 ⟨rfl, hb3⟩
        have z0 := cell_below hb3 y0
        have z1 := cell_below hb3 y1
        have z2 := cell_below hb3 y2
        have z3 := cell_below hb3 y3
        have z4 := cell_below hb3 y4
        have HK3 := Lib.hid (HKIN.out w3 hb3)
        have HBR : Hid (Below wr.heap.size wr w3) := Lib.hid (HBR2.out.trans (hb3.mono HBR2.out.size))
        clear hb3 HND HKIN y0 y1 y2 y3 y4 HBR2
        go_wp2_with fail
        refine HK3.out.mono ?_
        rintro e w4 ⟨s', v', rfl, hs4, hb4, hk4, hj4⟩
        clear HK3 z0 z1 z2 z3 z4
        have c0 := hs4.out.nodes
        have hbg4 : Below wg.heap.size wg w4 := (hat.out.bel.trans (HBR.out.mono hat.out.bel.size)).trans hb4.out
        have hpl := placesOf_any w4 bl len len nb vv ts (HF.out w4 hbg4) hlen v' N hs4.out.off.1 (fun i hi => (HAG.out.1.ltP i hi).1) HAG.out.2
        obtain ⟨ua, uc, hu, _⟩ := hs4.out.off.1.nil
        rw [List.length_map, List.length_map] at hu
        subst hu
        have HPL := Lib.hid hpl
        have HG4 := Lib.hid hbg4
        have HNX := Lib.hid (And.intro hs4.out (And.intro hb4.out (And.intro hk4.out hj4.out)))
        clear hs4 hb4 hk4 hj4 hpl hbg4
        go_wp2_with fail
        refine HPL.out.mono ?_
        rintro e w5 ⟨vp, rfl, ho5, hb5⟩
        obtain ⟨na, nc, hvp, _⟩ := ho5.out.reads.nil
        rw [List.length_map] at hvp
        subst hvp
        obtain ⟨sa, sc, hs, _⟩ := own_nil_value hat.out.set
        have HAT := hat
        clear hat
        subst hs
        have hzr : wr.heap.size ≤ w4.heap.size := Nat.le_trans HBR.out.size HNX.out.2.2.1.size
        have hset5 : w5.ownsRow wg.heap.size 23 1 (.slice sa k sc) k vs := ownsRow_kept HAT.out.set (fun q hq => by
          have hl := (World.ownsRow.lt HAT.out.set q hq).2
          rw [hb5.out.block q (by omega), HNX.out.2.2.1.block q (by have := HBR.out.size; omega) (fun e => HAT.out.so q hq e), HBR.out.block q hl])
        have hs5 : wg.heap.size ≤ w5.heap.size := Nat.le_trans HG4.out.size hb5.out.size
        have hnews : ∀ j u, [Value.slice na N.length nc][j]? = some u → (w5.alloc (.cells #[.slice na N.length nc] 23)).cell? ((⟨w5.heap.size, 0, none⟩ : Addr).add j) = some u := by
          intro j u hj
          match j, hj with
          | 0, hj => simp at hj; subst hj; simp [Addr.add]
        have HNS := Lib.hid (And.intro hnews (And.intro (hset5.alloc (.cells #[.slice na N.length nc] 23)) (And.intro ho5.out hb5.out)))
        clear hnews hset5 ho5 hb5 HPL c0 hzr
        go_wp2_with (at_builtin; refine wpList_append_lies _ rfl _ _ 36 rfl wg.heap.size 23 i0 (.slice none 0 0) 1 24 Tryz.underlying36 hi hz0 hz1 hz2 rfl (by decide) _ _ _ rfl HNS.out.2.1 ⟨w5.heap.size, 0, none⟩ 1 1 [.slice na N.length nc] rfl rfl HNS.out.1 (by intro u hu; simp at hu; subst hu; rfl) (by omega) (by unfold maxLen; omega) (by omega) (by simp; omega) _ rfl ?_)
        intro g1' c1' w6 hown6 hgrow6 hat6 hlt6
        have hat6' : (Value.slice sa k sc).ownBlock = some g1' ∨ w5.heap.size ≤ g1' := by
          rcases hat6 with h | h
          · exact .inl h
          · right; omega
        have hfin := Lib.hid (WpAt.step HAT.out HBR.out HNX.out.1 HNX.out.2.1 HNX.out.2.2.1 HNX.out.2.2.2 HAG.out.1 HNS.out.2.2.1 HNS.out.2.2.2 hown6 hgrow6 hat6')
        clear hown6 hgrow6 hat6 hat6' hlt6 HNS HNX HG4
        go_wp2
        go_roundw
        case rel => exact ⟨k + 1, s', _, N, _, _, by go_num, by omega, rfl, hfin⟩
        case measure => simp [intOf]; omega
    · obtain rfl : k = n := by omega
      obtain ⟨sa, sc, hs, hsr⟩ := own_nil_value hat.out.set
      have hvl : vs.length = k := by have := hat.out.set.1; omega
      have HF2 : Hid (vs.length = k ∧ ∀ j, j < k → ReadsAs wr (vs.getD j undef) ((Ms.getD j []).map intV) ∧ Agree len (Ms.getD j []) (cl (j + 1)) (ck (j + 1))) := Lib.hid ⟨hvl, fun j hj => ⟨hat.out.rows.reads j (by rw [hat.out.ml]; exact hj), hat.out.ms j hj⟩⟩
      have HR2 := Lib.hid hsr
      have HB2 := Lib.hid (hbg.out.trans (hat.out.bel.mono hbg.out.size))
      clear hat hlt hs hsr hvl
      go_wp2
      go_ret2
      exact ⟨u6, vs, fun j => Ms.getD j [], rfl, HR2, HF2, HB2⟩

end Go.Proofs.YtphppdbhofeagaaGreat

