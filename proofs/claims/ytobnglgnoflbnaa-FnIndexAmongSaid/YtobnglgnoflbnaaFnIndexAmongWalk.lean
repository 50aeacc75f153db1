/- The walk of FnIndexAmong. -/
import Derived.Test.YtobnglgnoflbnaaIndexAmong
import Derived.Test.YtobnglgnoflbnaaSelection
namespace Go.Proofs.Ytobnglgnoflbnaa.lawFnIndexAmong
open Go.RowKit
set_option linter.unusedVariables false
set_option linter.unusedSimpArgs false

/-- Those ahead of x stand at the head. -/
theorem lb_head {P : Nat → Bool} {x n : Nat} (hx : x ≤ n) : (∀ j, j < (lb P x).length → (lb P n).getD j 0 < x) ∧ (∀ j, (lb P x).length ≤ j → j < (lb P n).length → x ≤ (lb P n).getD j 0) ∧ (lb P x).length ≤ (lb P n).length := by
  obtain ⟨r, h1, h2⟩ := lb_split (P := P) (a := x) (n - x)
  rw [show x + (n - x) = n by omega] at h1
  rw [h1]
  refine ⟨fun j hj => ?_, fun j h3 h4 => ?_, by simp⟩
  · have : (lb P x ++ r).getD j 0 = (lb P x).getD j 0 := by simp [List.getD, List.getElem?_append_left hj]
    rw [this]
    exact (lb_mem (getD_mem' hj)).1
  · have h5 : j - (lb P x).length < r.length := by simp at h4; omega
    have : (lb P x ++ r).getD j 0 = r.getD (j - (lb P x).length) 0 := by simp [List.getD, List.getElem?_append_right h3]
    rw [this]
    exact h2 _ (getD_mem' h5)

set_option maxRecDepth 100000 in
set_option maxHeartbeats 4000000 in
theorem walk {W : World} (a : Option Addr) (len cap : Nat) (ts : List NodeD) (h : Nodes W a len ts ∧ len ≤ cap ∧ cap ≤ maxLen) (a1 : Option Addr) (n1 c1 : Nat) (z1 : List Int) (h1 : Ints W a1 n1 z1 ∧ n1 ≤ c1 ∧ c1 ≤ maxLen) :
    Calls Try.prog 6 #[.slice a len cap, .slice a1 n1 c1] W (YesB W) := by
  obtain ⟨hN, hN2⟩ := h
  obtain ⟨h1, hc1⟩ := h1
  have hm1 := h1.open.2.1
  have HN := Lib.hid hN
  have H1 := Lib.hid (And.intro h1 hc1)
  clear hN hN2 h1 hc1
  go_enter Try.func6, Try.ntmps6
  go_wp2_with fail
  refine (fits1_any a len cap ts W HN.out).mono ?_
  rintro e w1 ⟨b1, _, rfl, hb1⟩
  have HB1 := Lib.hid hb1
  clear hb1
  cases b1
  · go_wp2
    go_ret
    exact ⟨rfl, HB1.out⟩
  by_cases q1 : (2147483647 : Int) < (n1 : Int)
  · have g1 : decide ((2147483647 : Int) < (n1 : Int)) = true := by simp [q1]
    clear q1
    go_wp2
    go_ret
    exact ⟨rfl, HB1.out⟩
  have g1 : decide ((2147483647 : Int) < (n1 : Int)) = false := by simp [q1]
  clear q1
  go_wp2_with fail
  refine (selection_any a len cap ts a1 n1 c1 z1 w1 (HN.out.below HB1.out) (H1.out.1.below HB1.out)).mono ?_
  rintro e w2 ⟨b2, hb2, rfl, hbel2⟩
  have HB2 := Lib.hid (HB1.out.trans (hbel2.mono HB1.out.size))
  clear hbel2 HB1
  cases b2
  · go_wp2
    go_ret
    exact ⟨rfl, HB2.out⟩
  obtain ⟨hR, hO1, hkd⟩ := hb2 rfl
  obtain ⟨l, hp1⟩ := hO1.places H1.out.1.open.1
  have hl1 : l.length = n1 := by rw [← hp1.len]; exact H1.out.1.open.1
  have HR := Lib.hid hR
  have HP1 := Lib.hid hp1
  have HKD := Lib.hid hkd
  clear hb2 hR hO1 hp1 hkd
  subst hl1
  have hle1 : l.length ≤ 200 := Nat.le_trans HP1.out.le HR.out.le
  have hpar : ∃ p, 0 < l.length → par (sz ts) (l.getD 0 0) = some p := by
    by_cases h0 : 0 < l.length
    · have hx := HP1.out.lt _ (getD_mem' (d := 0) h0)
      have hk := HKD.out 0 h0
      rw [HP1.out.get h0, Int.toNat_natCast] at hk
      have hne : 0 < l.getD 0 0 := by
        rcases Nat.eq_zero_or_pos (l.getD 0 0) with h | h
        · rw [h, HR.out.kind] at hk; exact absurd hk (by decide)
        · exact h
      obtain ⟨p, hp⟩ := par_is HR.out.root hx hne
      exact ⟨p, fun _ => hp⟩
    · exact ⟨0, fun h => absurd h h0⟩
  obtain ⟨p, hp⟩ := hpar
  have hcall := indexAmong_any w2 a len cap ts HR.out (HN.out.below HB2.out) (.slice a1 l.length c1) l (HP1.out.reads (H1.out.1.below HB2.out) H1.out.2.1 H1.out.2.2) HP1.out.lt HP1.out.once hle1 p hp
  have HP := Lib.hid hp
  clear hp
  by_cases h0 : l.length = 0
  · have hz : amongNo ts p l = -1 := by simp [amongNo, h0]
    rw [hz, h0] at hcall
    rw [h0]
    have HC := Lib.hid hcall
    clear hcall hz h0 HP1 HKD H1 HP hle1 g1 hm1
    go_wp2_with fail
    refine HC.out.mono ?_
    rintro e w3 ⟨rfl, hb3⟩
    have HB3 := Lib.hid (HB2.out.trans (hb3.out.mono HB2.out.size))
    clear hb3 HC HB2
    go_wp2
    go_ret
    exact ⟨rfl, HB3.out⟩
  · have hl : 0 < l.length := by omega
    have hz : amongNo ts p l = ((lb (elKid ts p) (l.getD 0 0)).length : Int) := by simp [amongNo, h0]
    have hx := HP1.out.lt _ (getD_mem' (d := 0) hl)
    obtain ⟨_, _, b1, off1, ha1, hk1⟩ := H1.out.1.open
    have hk0 := hk1 0 hl
    obtain rfl := ha1 hl
    rw [HP1.out.get hl, Nat.add_zero] at hk0
    have hpp := HP.out hl
    obtain ⟨q1, q2, q3⟩ := lb_head (P := elKid ts p) (x := l.getD 0 0) (n := len) (by omega)
    obtain ⟨x, hxx⟩ : ∃ x, l.getD 0 0 = x := ⟨_, rfl⟩
    rw [hxx] at hz hk0 hx hpp q1 q2 q3
    rw [hz] at hcall
    have hplt := (par_some hpp).1
    have hKn : (lb (elKid ts p) len).length ≤ 200 := Nat.le_trans (lb_length_le _) HR.out.le
    have hpar := fun (w : World) (hb : Below W.heap.size W w) => parent_any _ len cap ts x w (HN.out.below hb) HR.out.sizes (fun j hj => HR.out.nest.fit j hj) hx
    have hel := fun (w : World) (hb : Below W.heap.size W w) => elements_any _ len cap ts p w (HN.out.below hb) HR.out (by omega)
    have hk0' := fun (w : World) (hb : Below W.heap.size W w) => (hb.cell (p := ⟨b1, off1, none⟩) (World.block_lt_of_cell? _ _ hk0)).trans hk0
    rw [hpp] at hpar
    obtain ⟨m, hm⟩ : ∃ m, (lb (elKid ts p) x).length = m := ⟨_, rfl⟩
    obtain ⟨L, hL⟩ : ∃ L, lb (elKid ts p) len = L := ⟨_, rfl⟩
    rw [hm] at hcall q1 q2 q3
    rw [hL] at q1 q2 q3 hel hKn
    have HC := Lib.hid hcall
    have HPAR := Lib.hid hpar
    have HEL := Lib.hid hel
    have HK0 := Lib.hid hk0'
    have HQ := Lib.hid (And.intro q1 q2)
    have gl : ((l.length : Int) == 0) = false := by rw [beq_eq_false_iff_ne]; omega
    have glI : (0 : Int) < (l.length : Int) := by omega
    clear hcall hpar hel hk0' q1 q2 hz h0 hxx hm hL hk0 hk1 ha1 HP hpp HKD
    go_wp2_with fail
    refine HC.out.mono ?_
    rintro e w3 ⟨rfl, hb3⟩
    have hb03 : Below W.heap.size W w3 := HB2.out.trans (hb3.out.mono HB2.out.size)
    have k0 := HK0.out w3 hb03
    have hpr := HPAR.out w3 hb03
    have HPR := Lib.hid hpr
    have HB3 := Lib.hid hb03
    clear hb03 hpr hb3 HC HB2 HPAR
    go_wp2_with fail
    refine HPR.out.mono ?_
    rintro e w4 ⟨rfl, rfl⟩
    have hee := HEL.out w3 HB3.out
    have HEE := Lib.hid hee
    clear hee HEL HPR
    simp only [parI]
    go_wp2_with fail
    refine HEE.out.mono ?_
    rintro e w5 ⟨v5, rfl, ho5, hb5⟩
    have hB5 : Below W.heap.size W w5 := HB3.out.trans (hb5.out.mono HB3.out.size)
    have k5 := HK0.out w5 hB5
    obtain ⟨ka, kcap, kb, koff, rfl, hkm, hka, hkc⟩ := ints_open ho5.out.reads
    have HKA := Lib.hid hka
    have HKC := Lib.hid hkc
    have HB5 := Lib.hid hB5
    have HK5 := Lib.hid k5
    clear hka hkc hB5 k5 k0 HEE ho5 hb5 HB3 HK0
    go_wp2
    go_loopw [8] (fun i wr => ∃ k : Nat, k ≤ m ∧ i = .int .i64 (k : Int) ∧ Below w5.heap.size w5 wr) (fun i _ => m - (intOf i).toNat)
    case atStart => exact ⟨0, by omega, by go_num, Below.refl _ _⟩
    case round =>
      obtain ⟨k, hk, rfl, hbel⟩ := hrel
      have HBEL := Lib.hid hbel
      clear hbel
      have c0 := cell_below HBEL.out HK5.out
      by_cases hkL : k < L.length
      · obtain rfl := HKA.out (by omega)
        have ck := cell_below HBEL.out (HKC.out k hkL)
        have hkI : (k : Int) < (L.length : Int) := by omega
        have gk : decide ((k : Int) < (L.length : Int)) = true := decide_eq_true hkI
        have gkn : decide (k < L.length) = true := decide_eq_true hkL
        by_cases hkm : k < m
        · have hy := HQ.out.1 k hkm
          obtain ⟨y, hye⟩ : ∃ y, L.getD k 0 = y := ⟨_, rfl⟩
          rw [hye] at ck hy
          have gy : decide ((y : Int) < (x : Int)) = true := decide_eq_true (by omega)
          have gyn : decide (y < x) = true := decide_eq_true hy
          clear hye
          go_wp2
          go_quiet (fail)
          go_wp2
          go_roundw
          case rel => exact ⟨k + 1, by omega, by go_num, below_drewN HBEL.out _⟩
          case measure => simp [intOf]; omega
        · obtain rfl : k = m := by omega
          have hy := HQ.out.2 k (Nat.le_refl _) hkL
          obtain ⟨y, hye⟩ : ∃ y, L.getD k 0 = y := ⟨_, rfl⟩
          rw [hye] at ck hy
          have gy : decide ((y : Int) < (x : Int)) = false := by simp; omega
          have gyn : decide (y < x) = false := by simp; omega
          have gm : ((k : Int) == (k : Int)) = true := by simp
          clear hye
          go_wp2
          go_quiet (fail)
          go_wp2
          go_ret
          exact ⟨rfl, below_drewN (HB5.out.trans (HBEL.out.mono HB5.out.size)) _⟩
      · obtain rfl : k = L.length := by omega
        obtain rfl : L.length = m := by omega
        have gk : decide ((L.length : Int) < (L.length : Int)) = false := by simp
        have gkn : decide (L.length < L.length) = false := by simp
        have gm : ((L.length : Int) == (L.length : Int)) = true := by simp
        go_wp2
        go_quiet (fail)
        go_wp2
        go_ret
        exact ⟨rfl, below_drewN (HB5.out.trans (HBEL.out.mono HB5.out.size)) _⟩

end Go.Proofs.Ytobnglgnoflbnaa.lawFnIndexAmong
