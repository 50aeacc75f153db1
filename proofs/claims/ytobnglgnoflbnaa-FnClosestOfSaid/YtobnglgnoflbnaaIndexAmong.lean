/- Selection.Index; impl.IndexAmong; spec.Elements. -/
import Derived.Test.YtobnglgnoflbnaaChosen
import Derived.Test.YtobnglgnoflbnaaPlacesOf
import Derived.Test.YtobnglgnoflbnaaKin
import Derived.Deep.LoopGhost
namespace Go.Proofs.Ytobnglgnoflbnaa
open Go.RowKit
set_option linter.unusedVariables false
set_option linter.unusedSimpArgs false

/-- The elements among the kids of p. -/
def elKid (ts : List NodeD) (p k : Nat) : Bool := (par (sz ts) k == some p) && (kd ts k == 3)

theorem tyOf_ne {q : Int} (h : q = 1 ∨ q = 2 ∨ q = 4 ∨ q = 5) : tyOf q ≠ 3 := by
  rcases h with rfl | rfl | rfl | rfl <;> simp [tyOf]

set_option maxRecDepth 100000 in
set_option maxHeartbeats 1000000 in
theorem selIndex_none {B : Nat} (s : Nat) (v : Value) (w : World) (hs : SelAt w s v [] B) :
    Calls Try.prog 57 #[.pointer (some ⟨s, 0, none⟩)] w (IntPost (-1) w) := by
  obtain ⟨a, cap, b, off, rfl, hm, ha, hc⟩ := ptrs_open hs.own.ptrs
  have c0 := hs.nodes
  simp only [List.length_nil] at c0
  clear hs ha hc hm
  go_enter Try.func57, Try.ntmps57
  go_wp2
  go_ret
  exact ⟨rfl, rfl⟩

set_option maxRecDepth 100000 in
set_option maxHeartbeats 2000000 in
theorem selIndex_some {B B' : Nat} (s : Nat) (v : Value) (l : List Nat) (w : World) (bl len : Nat) (nb : Nat → Nat) (vv : Nat → Value) (ts : List NodeD) (hs : SelAt w s v (l.map nb) B) (hF : Forest B' w bl len nb vv ts) (hR : RightT ts len)
    (hin : ∀ i ∈ l, i < len) (hl : 0 < l.length) (p : Nat) (hp : par (sz ts) (l.getD 0 0) = some p) :
    Calls Try.prog 57 #[.pointer (some ⟨s, 0, none⟩)] w (IntPost (((lb (elKid ts p) (l.getD 0 0)).length : Nat) : Int) w) := by
  have hlen := hR.le
  obtain ⟨a, cap, b, off, rfl, hm, ha, hc⟩ := ptrs_open hs.own.ptrs
  have c0 := hs.nodes
  rw [List.length_map] at c0 ha hc hm
  obtain rfl := ha hl
  have k0 := hc 0 hl
  have hx := hin _ (getD_mem' (d := 0) hl)
  have e1 : (l.map nb).getD 0 0 = nb (l.getD 0 0) := by simp [List.getD, hl]
  rw [e1, Nat.add_zero] at k0
  obtain ⟨x, hxx⟩ : ∃ x, l.getD 0 0 = x := ⟨_, rfl⟩
  rw [hxx] at k0 hx hp ⊢
  have hlI : (0 : Int) < (l.length : Int) := by omega
  have g0 : decide ((0 : Int) < (l.length : Int)) = true := decide_eq_true hlI
  have g0n : decide (0 < l.length) = true := decide_eq_true hl
  have kx := (hF.node hx).prv
  have hxp : (nodeR (fun i => i + sz ts i) 0 nb (ts.getD x default) (vv x) x).prv = (prvK (fun i => i + sz ts i) 0 x).map nb := rfl
  rw [hxp] at kx
  obtain ⟨o, ho⟩ : ∃ o, lk ((prvK (fun i => i + sz ts i) 0 x).map nb) = .pointer o := ⟨_, (lk_pointer _).choose_spec.1⟩
  rw [ho] at kx
  have hlb := lb_length_le (P := elKid ts p) x
  have HO := Lib.hid ho
  have HF := Lib.hid hF
  have HR := Lib.hid hR
  have HP := Lib.hid hp
  clear hs ha hc e1 hxx hin hxp ho hF hR hp
  go_enter Try.func57, Try.ntmps57
  go_wp2
  go_loopg [3, 4] x (fun gk i n wr => ∃ (c : Nat), gk < len ∧ par (sz ts) gk = some p ∧ n = lk ((prvK (fun i => i + sz ts i) 0 gk).map nb) ∧ i = .int .i64 (c : Int) ∧ c + (lb (elKid ts p) gk).length = (lb (elKid ts p) x).length ∧ wr = w)
  case atStart => exact ⟨0, hx, HP.out, HO.out.symm, by go_num, by omega, rfl⟩
  case round =>
    obtain ⟨c, hgk, hpar, rfl, rfl, hcnt, rfl⟩ := hrel
    have hcb : c ≤ 200 := by omega
    cases hprv : prvK (fun i => i + sz ts i) 0 gk with
    | none =>
      have hz := prv_none_lb (Q := fun k => kd ts k == 3) HR.out.nest hgk hpar hprv
      have hz' : lb (elKid ts p) gk = [] := hz
      have hfin : c = (lb (elKid ts p) x).length := by rw [hz'] at hcnt; simpa using hcnt
      have HFIN := Lib.hid hfin
      simp only [Option.map_none, lk_none]
      clear hz hz' hprv hpar hcnt hfin hlb
      go_wp2
      go_ret
      exact ⟨by rw [← HFIN.out]; rfl, rfl⟩
    | some q =>
      obtain ⟨hq1, hq2, hq3⟩ := prv_some hpar hprv
      have hstep := prv_lb (Q := fun k => kd ts k == 3) hpar hprv
      have hqn : q < len := by omega
      have nq := HF.out.node hqn
      have kt := nq.ty
      have kp := nq.prv
      have hty : (nodeR (fun i => i + sz ts i) 0 nb (ts.getD q default) (vv q) q).ty = tyOf (kd ts q) := rfl
      have hpp : (nodeR (fun i => i + sz ts i) 0 nb (ts.getD q default) (vv q) q).prv = (prvK (fun i => i + sz ts i) 0 q).map nb := rfl
      rw [hty] at kt
      rw [hpp] at kp
      obtain ⟨o2, ho2⟩ : ∃ o2, lk ((prvK (fun i => i + sz ts i) 0 q).map nb) = .pointer o2 := ⟨_, (lk_pointer _).choose_spec.1⟩
      rw [ho2] at kp
      have hkinds := HR.out.kinds hqn (by have := (par_some hq2).1; omega)
      simp only [Option.map_some, lk_some]
      have HO2 := Lib.hid ho2
      by_cases h3 : kd ts q = 3
      · have ht : tyOf (kd ts q) = 3 := by rw [h3]; rfl
        rw [ht] at kt
        have hc1 : c + 1 + (lb (elKid ts p) q).length = (lb (elKid ts p) x).length := by
          have : lb (elKid ts p) gk = lb (elKid ts p) q ++ [q] := by
            have h4 := hstep
            simp only [h3] at h4
            exact h4
          rw [this] at hcnt
          simp at hcnt
          omega
        have H := Lib.hid (And.intro hq2 (And.intro hc1 hq1))
        clear hprv hpar hcnt hstep nq hty hpp hkinds ho2 h3 ht hc1 hq2 hq3 hlb
        go_wp2
        go_roundg q
        case measure => exact H.out.2.2
        case rel => exact ⟨c + 1, hqn, H.out.1, HO2.out.symm, by go_num, H.out.2.1, rfl⟩
      · have ht : tyOf (kd ts q) ≠ 3 := by
          rcases hkinds with hk | ⟨hk | hk | hk, _⟩
          · exact absurd hk h3
          · exact tyOf_ne (.inr (.inl hk))
          · exact tyOf_ne (.inr (.inr (.inl hk)))
          · exact tyOf_ne (.inr (.inr (.inr hk)))
        have hc1 : c + (lb (elKid ts p) q).length = (lb (elKid ts p) x).length := by
          have : lb (elKid ts p) gk = lb (elKid ts p) q := by
            have h4 := hstep
            have h5 : (kd ts q == 3) = false := by simp [h3]
            simp only [h5] at h4
            exact h4
          rw [this] at hcnt
          exact hcnt
        obtain ⟨t, hte⟩ : ∃ t, tyOf (kd ts q) = t := ⟨_, rfl⟩
        rw [hte] at kt ht
        have gt : (t == 3) = false := by simp [ht]
        have H := Lib.hid (And.intro hq2 (And.intro hc1 hq1))
        clear hprv hpar hcnt hstep nq hty hpp hkinds ho2 h3 ht hc1 hq2 hq3 hte hlb
        go_wp2
        go_roundg q
        case measure => exact H.out.2.2
        case rel => exact ⟨c, hqn, H.out.1, HO2.out.symm, rfl, H.out.2.1, rfl⟩


def NumPost (i : Int) (w : World) (e : Ending) (w' : World) : Prop := e = .returned (.tuple #[.int .i64 i, .bool true]) ∧ Hid (Below w.heap.size w w')

/-- The first one's number among its parent's elements; -1 of none. -/
def amongNo (ts : List NodeD) (p : Nat) (l : List Nat) : Int := if l.length = 0 then -1 else ((lb (elKid ts p) (l.getD 0 0)).length : Int)

set_option maxRecDepth 100000 in
set_option maxHeartbeats 1000000 in
theorem indexAmong_any (W : World) (a : Option Addr) (len cap : Nat) (ts : List NodeD) (hR : RightT ts len) (hN : Nodes W a len ts) (v : Value) (l : List Nat) (r1 : ReadsAs W v (l.map intV)) (i1 : ∀ i ∈ l, i < len) (o1 : Once l) (n1 : l.length ≤ 200)
    (p : Nat) (hp : 0 < l.length → par (sz ts) (l.getD 0 0) = some p) :
    Calls Try.prog 21 #[.slice a len cap, v] W (NumPost (amongNo ts p l) W) := by
  have hch := chosen_any W a len cap ts hR hN v l r1 i1 o1 n1
  have HCH := Lib.hid hch
  have HR := Lib.hid hR
  have HI := Lib.hid i1
  have HP := Lib.hid hp
  clear hch hR hN r1 i1 o1 hp
  go_enter Try.func21, Try.ntmps21
  go_wp2_with fail
  refine HCH.out.mono ?_
  rintro e w1 ⟨bl, nb, vv, s, v1, rfl, hF, hs, hb⟩
  have hcall : Calls Try.prog 57 #[.pointer (some ⟨s, 0, none⟩)] w1 (IntPost (amongNo ts p l) w1) := by
    unfold amongNo
    by_cases h0 : l.length = 0
    · rw [if_pos h0]
      obtain rfl : l = [] := List.eq_nil_of_length_eq_zero h0
      exact selIndex_none s v1 w1 hs.out
    · rw [if_neg h0]
      exact selIndex_some s v1 l w1 bl len nb vv ts hs.out hF.out HR.out HI.out (by omega) p (HP.out (by omega))
  have HC := Lib.hid hcall
  clear hcall HCH hF hs
  go_wp2_with fail
  refine HC.out.mono ?_
  rintro e w2 ⟨rfl, rfl⟩
  go_wp2
  go_ret2
  exact ⟨rfl, hb⟩

set_option maxRecDepth 100000 in
set_option maxHeartbeats 1000000 in
theorem elements_any (a : Option Addr) (len cap : Nat) (ts : List NodeD) (p : Nat) (w : World) (h : Nodes w a len ts) (hR : RightT ts len) (hp : p < len) :
    Calls Try.prog 22 #[.slice a len cap, .int .i64 (p : Int)] w (OwnPlPost (lb (elKid ts p) len) w) := by
  have hlen := hR.le
  have hk := kids_any a len cap ts p w h hR.sizes (fun j hj => hR.nest.fit j hj) hp hlen
  have hkl := kids_lb hR.nest hp
  have hfil := lb_filter (P := fun k => par (sz ts) k == some p) (Q := fun k => kd ts k == 3) len
  rw [← hkl] at hfil
  obtain ⟨K, hK⟩ : ∃ K, kids (sz ts) p = K := ⟨_, rfl⟩
  rw [hK] at hk hfil hkl
  have hKm : ∀ i ∈ K, i < len := fun i hi => by rw [hkl] at hi; exact (lb_mem hi).1
  have hKn : K.length ≤ 200 := by rw [hkl]; exact Nat.le_trans (lb_length_le _) hlen
  have HK := Lib.hid hk
  have HFIL := Lib.hid (show K.filter (fun k => kd ts k == 3) = lb (elKid ts p) len from hfil)
  have HKM := Lib.hid hKm
  have HN := Lib.hid h
  have hpos := hR.pos
  clear hk hkl hfil hK hKm h hR
  obtain ⟨i0, hi, hz0, hz1, hz2⟩ := info_parts Try.infoInt
  go_enter Try.func22, Try.ntmps22
  go_wp2_with fail
  refine HK.out.mono ?_
  rintro e w1 ⟨vk, rfl, hown, hb1⟩
  have hN1 := HN.out.below hb1
  obtain ⟨b, off, rfl, hc⟩ := hN1.at hpos
  have hrd : ReadsAs w1 vk (K.map intV) := OwnPl.reads (B := w.heap.size) hown
  obtain ⟨ka, kcap, kb, koff, rfl, hkm, hka, hkc⟩ := ints_open hrd
  have HC := Lib.hid hc
  have HKA := Lib.hid hka
  have HKC := Lib.hid hkc
  have HB1 := Lib.hid hb1
  clear hN1 hc hrd hka hkc hown hb1 HK
  go_wp2
  go_loopw [5, 7] (fun x i wr => ∃ (k : Nat) (done : List Nat), i = .int .i64 k ∧ k ≤ K.length ∧ done.length ≤ k ∧ (K.take k).filter (fun k => kd ts k == 3) = done ∧ OwnPl wr w1.heap.size x done ∧ Below w1.heap.size w1 wr)
    (fun _ i _ => K.length - (intOf i).toNat)
  case atStart => exact ⟨0, [], by go_num, by omega, by simp, rfl, World.ownsRow_nil _ _ _ _, Below.refl _ _⟩
  case round =>
    obtain ⟨k, done, rfl, hk, hdl, hdone, hown, hbel⟩ := hrel
    have HDONE := Lib.hid hdone
    have HOWN := Lib.hid hown
    have HBEL := Lib.hid hbel
    clear hdone hown hbel
    by_cases hlt : k < K.length
    · obtain rfl := HKA.out (by omega)
      have ck := cell_below HBEL.out (HKC.out k hlt)
      have hxl := HKM.out _ (getD_mem' (d := 0) hlt)
      have htk := take_snoc hlt
      obtain ⟨x, hxx⟩ : ∃ x, K.getD k 0 = x := ⟨_, rfl⟩
      rw [hxx] at ck hxl htk
      have cx := cell_below HBEL.out (HC.out x hxl).kind
      have hkI : (k : Int) < (K.length : Int) := by omega
      have hxI : (x : Int) < (len : Int) := by omega
      have hkd : kd ts x = (ts.getD x default).kind := rfl
      obtain ⟨q, hq⟩ : ∃ q, (ts.getD x default).kind = q := ⟨_, rfl⟩
      rw [hq] at cx hkd
      have hstep : (K.take (k + 1)).filter (fun k => kd ts k == 3) = if q == 3 then done ++ [x] else done := by
        rw [htk, List.filter_append, HDONE.out]
        by_cases e : q = 3
        · simp [hkd, e]
        · simp [hkd, e]
      have HST := Lib.hid hstep
      clear hxx htk hkd hq hstep
      by_cases h3 : q = 3
      · subst h3
        have hown2 : wr.ownsRow w1.heap.size 3 1 u5 done.length (done.map intV) := HOWN.out
        go_wp2_with (at_builtin; refine wpList_append_own _ rfl _ _ 32 rfl w1.heap.size 3 i0 (.int .i64 0) 1 8 Try.underlying32 hi hz0 hz1 hz2 rfl (by decide) _ _ _ rfl (hown2.alloc _) ⟨wr.heap.size, 0, none⟩ 1 1 [.int .i64 (x : Int)] rfl rfl ?c1 ?c2 ?c3 ?c4 ?c5 ?_)
        case c2 => rfl
        case c3 => unfold maxLen; omega
        case c4 => omega
        case c5 => have := HBEL.out.size; simp; omega
        intro v' w3 hown3 hgrow _
        have hbel3 : Below w1.heap.size w1 w3 := (HBEL.out.alloc HBEL.out.size _).grown hgrow (by have := HBEL.out.size; simp; omega) (fun q hq => (World.ownsRow.lt hown2 q hq).1)
        have hsn := ownInts_any_snoc (k := x) hown3
        have H3 := Lib.hid (And.intro hsn hbel3)
        clear hown3 hgrow hbel3 hsn hown2 cx ck
        go_wp2
        go_roundw
        case rel => exact ⟨k + 1, done ++ [x], by go_num, by omega, by simp; omega, HST.out, H3.out.1, H3.out.2⟩
        case measure => simp [intOf]; omega
      · have g : (q == 3) = false := by simp [h3]
        have HST2 : Hid ((K.take (k + 1)).filter (fun k => kd ts k == 3) = done) := Lib.hid (by rw [HST.out, g]; rfl)
        clear h3
        go_wp2
        go_roundw
        case rel => exact ⟨k + 1, done, by go_num, by omega, by omega, HST2.out, HOWN.out, HBEL.out⟩
        case measure => simp [intOf]; omega
    · obtain rfl : k = K.length := by omega
      have HO : Hid (OwnPl wr w.heap.size u5 (lb (elKid ts p) len)) := by
        have h1 := HDONE.out
        rw [List.take_length, HFIL.out] at h1
        rw [h1]
        exact Lib.hid (ownsRow_base HOWN.out HB1.out.size)
      have hfin := Lib.hid (HB1.out.trans (HBEL.out.mono HB1.out.size))
      clear hlt HDONE
      go_wp2
      go_ret
      exact ⟨_, rfl, HO, hfin⟩

end Go.Proofs.Ytobnglgnoflbnaa
