/- goquery.getParentsNodes without an end. -/
import Derived.Test.YtphppdbhofeagaaGreatUpList
import Derived.Test.YtphppdbhofeagaaGreatMapManyUp
import Derived.Test.YtphppdbhofeagaaGreatTyOf
import Derived.Test.YtphppdbhofeagaaGreatParAll
namespace Go.Proofs.YtphppdbhofeagaaGreat
open Go.RowKit
set_option linter.unusedVariables false
set_option linter.unusedSimpArgs false

set_option maxRecDepth 100000 in
set_option maxHeartbeats 4000000 in
theorem upClo_any {B : Nat} (i : Int) (x bm bs : Nat) (w : World) (bl len : Nat) (nb : Nat → Nat) (vv : Nat → Value) (ts : List NodeD) (hF : Forest B w bl len nb vv ts) (hR : RightT ts len) (hx : x < len)
    (cm : w.cell? ⟨bm, 0, none⟩ = some .nilIface) (cs : w.cell? ⟨bs, 0, none⟩ = some (.slice none 0 0)) :
    Calls Tryz.prog 102 #[.int .i64 i, .pointer (some ⟨nb x, 0, none⟩), .pointer (some ⟨bm, 0, none⟩), .pointer (some ⟨bs, 0, none⟩)] w (OwnPtrsPost ((ancL ts x).map nb) w) := by
  obtain ⟨i0, hi, hz0, hz1, hz2⟩ := info_parts Tryz.infoPtr
  have hlen := hR.le
  obtain ⟨L, hL⟩ : ∃ L, ancL ts x = L := ⟨_, rfl⟩
  have hLl : L.length ≤ 200 := by rw [← hL]; exact Nat.le_trans (ancL_good ts len x hx).le hlen
  rw [hL]
  have HL := Lib.hid hL
  have HF := Lib.hid hF
  have HR := Lib.hid hR
  obtain ⟨g0, hg0, hst⟩ := upAt_start (ts := ts) hx
  rw [hL] at hst
  have kx := (hF.node hx).par
  rw [show (nodeR (fun i => i + sz ts i) 0 nb (ts.getD x default) (vv x) x).par = (up (fun i => i + sz ts i) 0 x).map nb from rfl, up_par] at kx
  obtain ⟨q0, hq0⟩ : ∃ q0, par (sz ts) x = q0 := ⟨_, rfl⟩
  rw [hq0] at kx hst
  obtain ⟨p0, hp0⟩ : ∃ p0, lk (q0.map nb) = p0 := ⟨_, rfl⟩
  rw [hp0] at kx
  have HST := Lib.hid hst
  have HP0 := Lib.hid hp0.symm
  clear hL hF hR hst hq0 hp0
  go_enter Tryz.func102, Tryz.ntmps102
  go_wp2
  go_loopg [7, 6] g0 (fun gk n o wr => ∃ (q : Option Nat) (D : List Nat), Hid (n = lk (q.map nb)) ∧ Hid (UpAt ts len L D gk q) ∧ Hid (OwnPtrs wr w.heap.size o (D.map nb)) ∧ Hid (Below w.heap.size w wr))
  case atStart => exact ⟨q0, [], HP0, HST, Lib.hid (World.ownsRow_nil _ _ _ _), Lib.hid (Below.refl _ _)⟩
  case round =>
    obtain ⟨q, D, hn, hu, hown, hbel⟩ := hrel
    have cm1 := cell_below hbel.out cm
    have cs1 := cell_below hbel.out cs
    cases q with
    | none =>
      obtain rfl := hn.out.trans (show lk (Option.map nb none) = .pointer none from rfl)
      have hd : D = L := hu.out
      have HO : Hid (OwnPtrs wr w.heap.size u6 (L.map nb)) := Lib.hid (by rw [← hd]; exact hown.out)
      clear hd hu hown hn
      go_wp2
      go_ret
      exact ⟨_, rfl, HO, hbel⟩
    | some y =>
      obtain rfl := hn.out.trans (show lk (Option.map nb (some y)) = .pointer (some ⟨nb y, 0, none⟩) from rfl)
      have hy := hu.out.2.1
      have hDl : D.length ≤ 200 := by
        have := congrArg List.length hu.out.2.2
        rw [List.length_append] at this
        omega
      have ny := HF.out.node hy
      have kt := cell_below hbel.out ny.ty
      rw [show (nodeR (fun i => i + sz ts i) 0 nb (ts.getD y default) (vv y) y).ty = tyOf (kd ts y) from rfl] at kt
      have kp := ny.par
      rw [show (nodeR (fun i => i + sz ts i) 0 nb (ts.getD y default) (vv y) y).par = (up (fun i => i + sz ts i) 0 y).map nb from rfl, up_par] at kp
      obtain ⟨g2, hg2, hu2⟩ := upAt_next hu.out
      obtain ⟨pq, hpq⟩ : ∃ pq, par (sz ts) y = pq := ⟨_, rfl⟩
      rw [hpq] at kp hu2
      obtain ⟨pv, hpv⟩ : ∃ pv, lk (pq.map nb) = pv := ⟨_, rfl⟩
      rw [hpv] at kp
      have HPV := Lib.hid hpv.symm
      have HKP := Lib.hid kp
      by_cases h3 : kd ts y = 3
      · rw [if_pos h3] at hu2
        have HU2 := Lib.hid hu2
        rw [show tyOf (kd ts y) = 3 by rw [h3]; rfl] at kt
        have hown2 : wr.ownsRow w.heap.size 75 1 u6 (D.map nb).length ((D.map nb).map ptrV) := hown.out
        have hDm : (D.map nb).length ≤ 200 := by rw [List.length_map]; exact hDl
        clear h3 hu2 hpq hpv hu hn ny kp
        go_wp2_with (at_builtin; refine wpList_append_own _ rfl _ _ 53 rfl w.heap.size 75 i0 (.pointer none) 1 8 Tryz.underlying53 hi hz0 hz1 hz2 rfl (by decide) _ _ _ rfl (hown2.alloc _) ⟨wr.heap.size, 0, none⟩ 1 1 [.pointer (some ⟨nb y, 0, none⟩)] rfl rfl ?c1 ?c2 ?c3 ?c4 ?c5 ?_)
        case c1 =>
          intro j u hj
          match j, hj with
          | 0, hj => simp at hj; subst hj; simp [Addr.add]
        case c2 => intro u hu; simp at hu; subst hu; rfl
        case c3 => unfold maxLen; omega
        case c4 => omega
        case c5 => have := hbel.out.size; simp; omega
        intro v' w3 hown3 hgrow _
        have hbel3 : Below w.heap.size w w3 := (hbel.out.alloc hbel.out.size _).grown hgrow (by have := hbel.out.size; simp; omega) (fun q hq => (World.ownsRow.lt hown2 q hq).1)
        have hsn : OwnPtrs w3 w.heap.size v' ((D ++ [y]).map nb) := by unfold OwnPtrs; simpa [ptrV] using hown3
        have H3 := Lib.hid hsn
        have HB3 := Lib.hid hbel3
        have kp3 := cell_below hbel3 HKP.out
        clear hown3 hgrow hbel3 hsn hown2 kt hown hbel
        go_wp2
        go_roundg g2
        case measure => omega
        case rel => exact ⟨pq, D ++ [y], HPV, HU2, H3, HB3⟩
      · have ht : tyOf (kd ts y) ≠ 3 := by
          rcases Nat.eq_zero_or_pos y with h0 | h0
          · rw [h0, HR.out.kind]; exact tyOf_root
          · rcases HR.out.kinds hy h0 with hk | ⟨hk | hk | hk, _⟩
            · exact absurd hk h3
            · exact tyOf_ne (.inr (.inl hk))
            · exact tyOf_ne (.inr (.inr (.inl hk)))
            · exact tyOf_ne (.inr (.inr (.inr hk)))
        rw [if_neg h3, List.append_nil] at hu2
        have HU2 := Lib.hid hu2
        obtain ⟨t, hte⟩ : ∃ t, tyOf (kd ts y) = t := ⟨_, rfl⟩
        rw [hte] at kt ht
        have gt : (t == 3) = false := by simp [ht]
        have kp3 := cell_below hbel.out HKP.out
        clear h3 hu2 hpq hpv hu hn ny kp hte ht
        go_wp2
        go_roundg g2
        case measure => omega
        case rel => exact ⟨pq, D, HPV, HU2, hown, hbel⟩

set_option maxRecDepth 100000 in
set_option maxHeartbeats 2000000 in
theorem getParents_any {B : Nat} (v : Value) (l : List Nat) (w : World) (bl len : Nat) (nb : Nat → Nat) (vv : Nat → Value) (ts : List NodeD) (hF : Forest B w bl len nb vv ts) (hR : RightT ts len) (hv : PtrsOf w v (l.map nb)) (hin : ∀ i ∈ l, i < len) (hn : l.length ≤ 200) :
    Calls Tryz.prog 84 #[v, .nilIface, .slice none 0 0] w (OwnPtrsPost ((onceF (l.flatMap (ancL ts))).map nb) w) := by
  have hlen := hR.le
  have hmap : ∀ w0, Below w.heap.size w w0 → w0.cell? ⟨w.heap.size, 0, none⟩ = some .nilIface → w0.cell? ⟨w.heap.size + 1, 0, none⟩ = some (.slice none 0 0) →
      Calls Tryz.prog 77 #[v, .func (.func 102) #[] #[.pointer (some ⟨w.heap.size, 0, none⟩), .pointer (some ⟨w.heap.size + 1, 0, none⟩)]] w0 (OwnPtrsPost ((onceF (l.flatMap (ancL ts))).map nb) w0) := fun w0 hb c0 c1 =>
    mapManyUp v _ _ l (ancL ts) w0 bl len nb vv ts (hF.below hb) (hv.below hb) hn (fun x hx => (ancL_good ts len x (hin x hx)).lt) (fun x hx => Nat.le_trans (ancL_good ts len x (hin x hx)).le hlen) (fun x hx => (ancL_good ts len x (hin x hx)).once) (fun k hk w' hb' => by
      have hmem := getD_mem' (d := 0) hk
      have hbw : Below w.heap.size w w' := hb.trans (hb'.mono hb.size)
      exact upClo_any (k : Int) (l.getD k 0) w.heap.size (w.heap.size + 1) w' bl len nb vv ts (hF.below hbw) hR (hin _ hmem) (cell_below hb' c0) (cell_below hb' c1))
  obtain ⟨R, hR2⟩ : ∃ R, (onceF (l.flatMap (ancL ts))).map nb = R := ⟨_, rfl⟩
  rw [hR2] at hmap ⊢
  have HM := Lib.hid hmap
  clear hmap hR2 hF hR hv hin
  have hmf : ∀ (fn : Fn) (first cap : Array Value) (w : World), (Instr.makeFunc fn first cap).run Tryz.prog w = .ok (.func fn first cap) w := fun _ _ _ _ => rfl
  go_enter Tryz.func84, Tryz.ntmps84
  go_wp2_with fail
  refine (HM.out _ (((Below.refl _ _).alloc (Nat.le_refl _) _).alloc (by simp) _) (cell_alloc_old (cell_alloc_new' _ _ _ rfl rfl) _) (cell_alloc_new' _ _ _ (by simp) rfl)).mono ?_
  rintro e w1 ⟨v', rfl, ho, hb⟩
  have HB : Hid (Below w.heap.size w w1) := Lib.hid ((((Below.refl _ _).alloc (Nat.le_refl _) _).alloc (by simp) _).trans (hb.out.mono (by simp; omega)))
  have hown : Hid (OwnPtrs w1 w.heap.size v' R) := Lib.hid (ownsRow_base ho.out (by simp; omega))
  clear ho hb HM
  go_wp2
  go_ret
  exact ⟨v', rfl, hown, HB⟩

end Go.Proofs.YtphppdbhofeagaaGreat
