/- spec's reader.escape: what it takes is what the function pn takes. -/
import Derived.Test.YtbikpalfhlgnoaaGreatDoorAskBytes
namespace Go.Proofs.YtbikpalfhlgnoaaGreatDoor
open Go.RowKit
set_option linter.unusedVariables false
set_option linter.unusedSimpArgs false

theorem encode_pos (i : Int) : 0 < (Utf8.encode i).size := by
  unfold Utf8.encode
  simp only
  repeat' split
  all_goals simp [ByteArray.size]

theorem encoded_int (a : Int) (w : World) (h0 : 0 ≤ a) (h1 : a < 16777216) : Calls Tryz.prog 29 #[.int .i64 a] w (fun e w' => e = .returned (.string (Utf8.encode a)) ∧ Below w.heap.size w w') := by
  obtain ⟨n, rfl⟩ := Int.eq_ofNat_of_zero_le h0
  exact encoded_any n w (by omega)

theorem escF_parts {s : ByteArray} {i : Nat} (h : escF s i = true) : i + 1 < s.size ∧ nx s i = 92 ∧ ¬ (nx s (i + 1) = 13 ∨ nx s (i + 1) = 10 ∨ nx s (i + 1) = 12) := by
  unfold escF at h
  simp only [decide_eq_true_eq] at h
  omega

/-- An escape that is no number: the code point itself. -/
theorem pn_literal {s : ByteArray} {i : Nat} (h : escF s i = true) (hx : isHx (nx s (i + 1)) = false) (hk : 0 < ptK s (i + 1)) (o : ByteArray) :
    pn s i o = pn s (i + 1 + ptK s (i + 1)) (o ++ s.extract (i + 1) (i + 1 + ptK s (i + 1))) := by
  obtain ⟨h1, h2, h3⟩ := escF_parts h
  have hle := ptK_le s (i + 1) h1
  rw [pn_some (by omega) h2 (esc_lit (by omega) h3 hx)]
  by_cases h4 : ptK s (i + 1) = 1
  · rw [h4]
  · have hh := ptK_high (s := s) (p := i + 1) (by omega)
    rw [pn_run (i + 1 + ptK s (i + 1)) (by omega) hle (fun j hj1 hj2 => by
      have := hh.2 (j - (i + 2)) (by omega)
      rw [show i + 1 + 1 + (j - (i + 2)) = j by omega] at this
      simp only [isNc, decide_eq_true_eq]
      omega), ByteArray.append_assoc, ByteArray.extract_append_extract]
    congr 3 <;> omega

/-- What escape does. -/
def EscSPost (s : ByteArray) (B i : Nat) (u : Bool) (w : World) (e : Ending) (w' : World) : Prop :=
  ∃ (out : ByteArray) (k : Nat) (u' : Bool), e = .returned (.string out) ∧ Rdr w' B s k false u' false ∧ Below B w w' ∧ i < k ∧ k ≤ s.size ∧ out.size ≤ 4 ∧
    (u' = false → u = false ∧ (0 < ptK s (i + 1) → 0 < out.size ∧ ∀ o, pn s i o = pn s k (o ++ out)))

theorem esc_unsure {s : ByteArray} {B i k : Nat} {u : Bool} {w w2 w' : World} {e : Ending} (he : e = .returned (.string ⟨#[]⟩)) (hw : w' = w2.setCell ⟨B, 3, none⟩ (.bool true)) (hr : Rdr w2 B s k false u false) (hb : Below B w w2) (hi : i < k) (hk : k ≤ s.size) :
    EscSPost s B i u w e w' := by
  subst he
  subst hw
  exact ⟨ByteArray.empty, k, true, rfl, hr.doubt true, World.objAt.setBelow hr 3 _ hb (Nat.le_refl _), hi, hk, by simp, fun h => by cases h⟩

theorem esc_number {s : ByteArray} {B i k : Nat} {v : Int} {u : Bool} {w w2 w3 : World} {e : Ending} (he : e = .returned (.string (Utf8.encode v))) (hr : Rdr w2 B s k false u false) (hb : Below B w w2) (hb3 : Below w2.heap.size w2 w3) (hi : i < k) (hk : k ≤ s.size)
    (h92 : nx s i = 92) (hes : esc s i = some (Utf8.encode v, k)) : EscSPost s B i u w e w3 := by
  subst he
  exact ⟨_, k, u, rfl, World.objAt.below hr hb3 (World.objAt.lt hr), hb.trans (hb3.mono (Nat.le_of_lt (World.objAt.lt hr))), hi, hk, encode_size_le _,
    fun hu => ⟨hu, fun _ => ⟨encode_pos _, fun o => pn_some (by omega) h92 hes⟩⟩⟩

theorem ws_crlf {s : ByteArray} {p : Nat} (h : crlf s p = true) : wsSkip s p = p + 2 := by
  unfold crlf at h
  simp only [decide_eq_true_eq] at h
  unfold wsSkip
  rw [if_pos h.1, if_pos h.2]
theorem ws_space {s : ByteArray} {p : Nat} (h : crlf s p = false) (hs : isSpc (nx s p) = true) : wsSkip s p = p + 1 := by
  unfold crlf at h
  simp only [decide_eq_false_iff_not] at h
  simp only [isSpc, decide_eq_true_eq] at hs
  unfold wsSkip
  by_cases h13 : nx s p = 13
  · rw [if_pos h13, if_neg (fun h10 => h ⟨h13, h10⟩)]
  · rw [if_neg h13, if_pos (by omega)]
theorem ws_none {s : ByteArray} {p : Nat} (hs : isSpc (nx s p) = false) : wsSkip s p = p := by
  simp only [isSpc, decide_eq_false_iff_not] at hs
  unfold wsSkip
  rw [if_neg (by omega), if_neg (by omega)]

theorem crlf_end {s : ByteArray} {p : Nat} (h : crlf s p = true) : p + 2 ≤ s.size := by
  unfold crlf at h
  simp only [decide_eq_true_eq] at h
  rcases Nat.lt_or_ge (p + 1) s.size with h1 | h1
  · omega
  · rw [nx_end h1] at h
    omega

theorem isSpace_is {n : Int} {b : Bool} (h : isSpc n = b) (w : World) : Calls Tryz.prog 28 #[.int .u8 n] w (IsBool b w) :=
  (isSpace_any n w).mono fun e w' ⟨b', h', he, hw⟩ => ⟨by rw [he, h', h], hw.symm⟩

theorem ptK_four (s : ByteArray) (p : Nat) : ptK s p ≤ 4 := by
  unfold ptK
  repeat' split
  all_goals omega

theorem isSpc_end {s : ByteArray} {p : Nat} (hs : isSpc (nx s p) = true) : p < s.size := by
  apply Nat.lt_of_not_le
  intro h
  rw [nx_end h] at hs
  cases hs

set_option maxRecDepth 100000 in
set_option maxHeartbeats 8000000 in
theorem escape_spec (s : ByteArray) (B i : Nat) (u : Bool) (w : World) (hs : s.size ≤ 4000) (hesc : escF s i = true) (h : Rdr w B s i false u false) :
    Calls Tryz.prog 18 #[.pointer (some ⟨B, 0, none⟩)] w (EscSPost s B i u w) := by
  have c1 : w.cell? ⟨B, 1, none⟩ = some (.int .i64 (i : Int)) := h.cell (i := 1) rfl
  have f1 : w.frozen? ⟨B, 1, none⟩ = false := h.free 1
  have hparts := escF_parts hesc
  have hi1 := hparts.1
  have HE := Lib.hid (And.intro hesc hparts)
  have HW := Lib.hid h
  clear hesc hparts h
  go_enter Tryz.func18, Tryz.ntmps18
  go_wp2
  go_loopw [3, 4] (fun n m wr => ∃ j : Nat, n = .int .i64 (hexVal s (i + 1) j : Int) ∧ m = .int .i64 (j : Int) ∧ j ≤ 6 ∧ (∀ q, q < j → isHx (nx s (i + 1 + q)) = true) ∧ Rdr wr B s (i + 1 + j) false u false ∧ Below B w wr) (fun _ m _ => 6 - (intOf m).toNat)
  case atStart => exact ⟨0, rfl, by go_num, by omega, fun q hq => absurd hq (by omega), HW.out.step, World.objAt.setBelow HW.out 1 _ (Below.refl _ _) (Nat.le_refl _)⟩
  case round =>
    obtain ⟨j, rfl, rfl, hj6, hall, hr, hb⟩ := hrel
    have c0' : wr.cell? ⟨B, 0, none⟩ = some (.string s) := hr.cell (i := 0) rfl
    have c1' : wr.cell? ⟨B, 1, none⟩ = some (.int .i64 ((i + 1 + j : Nat) : Int)) := hr.cell (i := 1) rfl
    have f1' : wr.frozen? ⟨B, 1, none⟩ = false := hr.free 1
    have hvlt := hexVal_lt s (i + 1) j hall
    have hpow : (16 : Nat) ^ j ≤ 16 ^ 6 := Nat.pow_le_pow_right (by decide) hj6
    have hv6 : hexVal s (i + 1) j < 16777216 := Nat.lt_of_lt_of_le hvlt (by simpa using hpow)
    have hjs : i + 1 + j ≤ s.size := by
      rcases Nat.eq_zero_or_pos j with h0 | h0
      · omega
      · have h1 := hall (j - 1) (by omega)
        rw [show i + 1 + (j - 1) = i + j by omega] at h1
        rcases Nat.lt_or_ge (i + j) s.size with h2 | h2
        · omega
        · rw [nx_end h2] at h1
          cases h1
    have HALL := Lib.hid hall
    have HR := Lib.hid hr
    have HB := Lib.hid hb
    clear hall hr hb hvlt hpow
    have hN := fun w' h' => next_any s (i + 1 + j) B false u false w' h'
    obtain ⟨x, hx⟩ : ∃ x, nx s (i + 1 + j) = x := ⟨_, rfl⟩
    rw [hx] at hN
    have HN := Lib.hid hN
    have HX := Lib.hid hx
    clear hN hx
    by_cases h6 : j < 6
    · have g6 : decide ((j : Int) < 6) = true := by simp; omega
      cases hhx : isHx x
      · have hxi : hxi x = -1 := by unfold hxi; rw [if_neg (by simp [hhx])]
        have hst : hexN s (i + 1) 6 = j := by
          have h1 := hexN_of (s := s) (st := i + 1) j HALL.out
          have h2 := hexN_stop h1 (by rw [HX.out]; exact hhx) (6 - j)
          rwa [show j + (6 - j) = 6 by omega] at h2
        have HST := Lib.hid (And.intro hst hhx)
        have hhexa := fun w' => hexa_any x w'
        rw [hxi] at hhexa
        have HH := Lib.hid hhexa
        clear hst hhx hxi hhexa
        rcases Nat.eq_zero_or_pos j with rfl | hj0
        · skip
          obtain ⟨p, hp⟩ : ∃ p, i + 1 = p := ⟨_, rfl⟩
          have c1z : wr.cell? ⟨B, 1, none⟩ = some (.int .i64 (p : Int)) := by rw [← hp]; exact c1'
          have hr' : Rdr wr B s p false u false := by rw [← hp]; exact HR.out
          have hip : p < s.size := by omega
          clear c1'
          have hle := ptK_le s p hip
          have hpt := fun w' => pt_any s p w' hs hip
          unfold PtPost at hpt
          obtain ⟨n, hn⟩ : ∃ n, ptK s p = n := ⟨_, rfl⟩
          obtain ⟨c, hc⟩ : ∃ c, ptC s p = c := ⟨_, rfl⟩
          rw [hn, hc] at hpt
          rw [hn] at hle
          clear hc
          have HPT := Lib.hid hpt
          have HNN := Lib.hid (And.intro hn (And.intro hp hr'))
          have hpi : i < p := by omega
          clear hpt hn hp hr'
          have z3 : (p : Int) + (n : Int) ≤ (s.size : Int) := by omega
          have z4 : (0 : Int) ≤ (p : Int) + (n : Int) := by omega
          have y3 : decide ((p : Int) + (n : Int) ≤ (s.size : Int)) = true := decide_eq_true z3
          go_wp2_with (first
            | (go_at_call 12; refine (HN.out _ (by first | exact HR.out | exact HR.out.drew _)).mono ?_; rintro e w' ⟨rfl, m, rfl⟩)
            | (go_at_call 26; refine (HH.out _).mono ?_; rintro e w' ⟨rfl, rfl⟩))
          obtain ⟨wz, hwz⟩ : ∃ wz, wr.drewN m = wz := ⟨_, rfl⟩
          have hrz : Rdr wz B s p false u false := by rw [← hwz]; exact HNN.out.2.2.drew _
          have hbz : Below B w wz := by rw [← hwz]; exact below_drewN HB.out _
          rw [hwz]
          clear hwz c1z c0' f1'
          have c0z : wz.cell? ⟨B, 0, none⟩ = some (.string s) := hrz.cell (i := 0) rfl
          have c1z : wz.cell? ⟨B, 1, none⟩ = some (.int .i64 (p : Int)) := hrz.cell (i := 1) rfl
          have f1z : wz.frozen? ⟨B, 1, none⟩ = false := hrz.free 1
          have HZ := Lib.hid (And.intro hrz hbz)
          clear hrz hbz
          go_quiet (exact Calls.quiet_of_same (HPT.out _))
          go_wp2
          go_quiet (fail)
          go_wp2
          go_ret
          exact ⟨s.extract p (p + n), p + n, u, rfl, World.objAt.set (HZ.out.1.drew _) 1 _, World.objAt.setBelow (HZ.out.1.drew _) 1 _ (below_drewN HZ.out.2 _) (Nat.le_refl _), by omega, by omega,
            by rw [ByteArray.size_extract]; have h1 := ptK_four s p; rw [HNN.out.1] at h1; omega,
            fun hu => ⟨hu, fun hk => by
              have e := HNN.out.2.1
              have hx1 : isHx (nx s (i + 1)) = false := by have h1 := HX.out; rw [Nat.add_zero] at h1; rw [h1]; exact HST.out.2
              have hl := pn_literal HE.out.1 hx1 hk
              rw [e, HNN.out.1] at hl hk
              exact ⟨by rw [ByteArray.size_extract]; omega, hl⟩⟩⟩
        · skip
          have hes0 := esc_hex (by omega) HE.out.2.2.2 (by have := HALL.out 0 (by omega); rwa [Nat.add_zero] at this) HST.out.1
          obtain ⟨v, hv⟩ : ∃ v : Int, (hexVal s (i + 1) j : Int) = v := ⟨_, rfl⟩
          rw [hv] at hes0 ⊢
          have hv0 : 0 ≤ v := by omega
          have hv7 : v < 16777216 := by omega
          clear hv6
          have gm : (((j : Nat) : Int) == 0) = false := by simp; omega
          have HES0 := Lib.hid hes0
          clear hv hes0
          have htk := fun w' h' => taken_any s (i + 1 + j) B u w' hs (by omega) h'
          unfold TakenPost at htk
          obtain ⟨c, hc⟩ : ∃ c, crlf s (i + 1 + j) = c := ⟨_, rfl⟩
          rw [hc] at htk
          have HTK := Lib.hid htk
          have HC := Lib.hid hc
          clear htk hc
          go_wp2_with (first | (go_at_call 12; refine (HN.out _ (by first | exact HR.out | exact HR.out.drew _)).mono ?_; rintro e w' ⟨rfl, m, rfl⟩) | (go_at_call 26; refine (HH.out _).mono ?_; rintro e w' ⟨rfl, rfl⟩))
          refine (HTK.out _ (by first | exact HR.out | exact HR.out.drew _)).mono ?_
          rintro e w2 ⟨rfl, hr2, hb2⟩
          cases c
          · have hr2' : Rdr w2 B s (i + 1 + j) false u false := by simpa using hr2
            have c1'' : w2.cell? ⟨B, 1, none⟩ = some (.int .i64 ((i + 1 + j : Nat) : Int)) := hr2'.cell (i := 1) rfl
            have f1'' : w2.frozen? ⟨B, 1, none⟩ = false := hr2'.free 1
            have f3'' : w2.frozen? ⟨B, 3, none⟩ = false := hr2'.free 3
            have c3'' : w2.cell? ⟨B, 3, none⟩ = some (.bool u) := hr2'.cell (i := 3) rfl
            have HR2 := Lib.hid (And.intro hr2' (show Below B w w2 by first | exact HB.out.trans hb2 | exact (below_drewN HB.out _).trans hb2))
            clear hr2 hr2' hb2
            have hN2 := fun w' h' => next_any s (i + 1 + j) B false u false w' h'
            obtain ⟨y, hy⟩ : ∃ y, nx s (i + 1 + j) = y := ⟨_, rfl⟩
            rw [hy] at hN2
            have HN2 := Lib.hid hN2
            have hsp := fun w' => isSpace_is (n := y) rfl w'
            clear hN2
            cases hsy : isSpc y
            · rw [hsy] at hsp
              have HSP := Lib.hid hsp
              have hes := HES0.out
              rw [ws_none (by rw [hy]; exact hsy)] at hes
              have HES := Lib.hid hes
              clear hsp hes hsy hy
              go_wp2_with (first
                | (go_at_call 12; refine (HN2.out _ (by first | exact HR2.out.1 | exact HR2.out.1.drew _)).mono ?_; rintro e w' ⟨rfl, m2, rfl⟩)
                | (go_at_call 28; refine (HSP.out _).mono ?_; rintro e w' ⟨rfl, rfl⟩)
                | (go_at_call 29; refine (encoded_int v _ hv0 hv7).mono ?_; rintro e w3 ⟨rfl, hb3⟩))
              all_goals go_ret
              all_goals first
                | (have h3 := hb3; exact esc_number rfl (k := i + 1 + j) (HR2.out.1.drew _) (below_drewN HR2.out.2 _) h3 (by omega) (by omega) HE.out.2.2.1 HES.out)
                | exact esc_unsure rfl rfl (k := i + 1 + j) (HR2.out.1.drew _) (below_drewN HR2.out.2 _) (by omega) (by omega)
            · rw [hsy] at hsp
              have hpl : i + 1 + j < s.size := isSpc_end (by rw [hy]; exact hsy)
              have HSP := Lib.hid hsp
              have hes := HES0.out
              rw [ws_space HC.out (by rw [hy]; exact hsy)] at hes
              have HES := Lib.hid hes
              clear hsp hes hsy hy
              go_wp2_with (first
                | (go_at_call 12; refine (HN2.out _ (by first | exact HR2.out.1 | exact HR2.out.1.drew _)).mono ?_; rintro e w' ⟨rfl, m2, rfl⟩)
                | (go_at_call 28; refine (HSP.out _).mono ?_; rintro e w' ⟨rfl, rfl⟩)
                | (go_at_call 29; refine (encoded_int v _ hv0 hv7).mono ?_; rintro e w3 ⟨rfl, hb3⟩))
              all_goals go_ret
              all_goals first
                | (have h3 := hb3; exact esc_number rfl (k := i + 1 + j + 1) (HR2.out.1.drew _).step (World.objAt.setBelow (HR2.out.1.drew _) 1 _ (below_drewN HR2.out.2 _) (Nat.le_refl _)) h3 (by omega) (by omega) HE.out.2.2.1 HES.out)
                | exact esc_unsure rfl rfl (k := i + 1 + j + 1) (HR2.out.1.drew _).step (World.objAt.setBelow (HR2.out.1.drew _) 1 _ (below_drewN HR2.out.2 _) (Nat.le_refl _)) (by omega) (by omega)
          · have hr2' : Rdr w2 B s (i + 1 + j + 2) false u false := by simpa using hr2
            have c1'' : w2.cell? ⟨B, 1, none⟩ = some (.int .i64 ((i + 1 + j + 2 : Nat) : Int)) := hr2'.cell (i := 1) rfl
            have f1'' : w2.frozen? ⟨B, 1, none⟩ = false := hr2'.free 1
            have f3'' : w2.frozen? ⟨B, 3, none⟩ = false := hr2'.free 3
            have c3'' : w2.cell? ⟨B, 3, none⟩ = some (.bool u) := hr2'.cell (i := 3) rfl
            have hpl := crlf_end HC.out
            have HR2 := Lib.hid (And.intro hr2' (show Below B w w2 by first | exact HB.out.trans hb2 | exact (below_drewN HB.out _).trans hb2))
            clear hr2 hr2' hb2
            have hes := HES0.out
            rw [ws_crlf HC.out] at hes
            have HES := Lib.hid hes
            clear hes
            go_wp2_with (go_at_call 29; refine (encoded_int v _ hv0 hv7).mono ?_; rintro e w3 ⟨rfl, hb3⟩)
            all_goals go_ret
            all_goals first
              | (have h3 := hb3; exact esc_number rfl (k := i + 1 + j + 2) HR2.out.1 HR2.out.2 h3 (by omega) (by omega) HE.out.2.2.1 HES.out)
              | exact esc_unsure rfl rfl (k := i + 1 + j + 2) HR2.out.1 HR2.out.2 (by omega) (by omega)
      · have hxi : hxi x = (hxv x : Int) := by unfold hxi; rw [if_pos hhx]
        have hxv16 : (hxv x : Int) < 16 := by
          simp only [isHx, decide_eq_true_eq] at hhx
          unfold hxv
          split
          · omega
          · split <;> omega
        have hstep : (hexVal s (i + 1) (j + 1) : Int) = 16 * (hexVal s (i + 1) j : Int) + (hxv x : Int) := by
          simp only [hexVal, HX.out]
          omega
        have hlt : i + 1 + j < s.size := by
          rcases Nat.lt_or_ge (i + 1 + j) s.size with h2 | h2
          · exact h2
          · have := HX.out
            rw [nx_end h2] at this
            rw [← this] at hhx
            cases hhx
        have hhexa := fun w' => hexa_any x w'
        rw [hxi] at hhexa
        have HH := Lib.hid hhexa
        have HST := Lib.hid (And.intro hstep hhx)
        have hx0 : (0 : Int) ≤ (hxv x : Int) := by omega
        have gx : decide ((0 : Int) ≤ (hxv x : Int)) = true := by simp
        clear hxi hhexa hstep hhx
        go_wp2_with (first
          | (go_at_call 12; refine (HN.out _ (by first | exact HR.out | exact HR.out.drew _)).mono ?_; rintro e w' ⟨rfl, m, rfl⟩)
          | (go_at_call 26; refine (HH.out _).mono ?_; rintro e w' ⟨rfl, rfl⟩))
        go_roundw
        case rel => exact ⟨j + 1, by rw [HST.out.1], by go_num, by omega, (fun q hq => by
          by_cases hqj : q < j
          · exact HALL.out q hqj
          · obtain rfl : q = j := by omega
            rw [HX.out]; exact HST.out.2), (HR.out.drew _).step, World.objAt.setBelow (HR.out.drew _) 1 _ (below_drewN HB.out _) (Nat.le_refl _)⟩
        case measure => simp [intOf]; omega
    · obtain rfl : j = 6 := by omega
      have g6 : decide (((6 : Nat) : Int) < 6) = false := by simp
      have hst : hexN s (i + 1) 6 = 6 := hexN_of (s := s) (st := i + 1) 6 HALL.out
      have HST := Lib.hid (And.intro hst hst)
      clear hst
      have hes0 := esc_hex (by omega) HE.out.2.2.2 (by have := HALL.out 0 (by omega); rwa [Nat.add_zero] at this) HST.out.1
      obtain ⟨v, hv⟩ : ∃ v : Int, (hexVal s (i + 1) 6 : Int) = v := ⟨_, rfl⟩
      rw [hv] at hes0 ⊢
      have hv0 : 0 ≤ v := by omega
      have hv7 : v < 16777216 := by omega
      clear hv6
      have gm : (((6 : Nat) : Int) == 0) = false := by simp
      have HES0 := Lib.hid hes0
      clear hv hes0
      have htk := fun w' h' => taken_any s (i + 1 + 6) B u w' hs (by omega) h'
      unfold TakenPost at htk
      obtain ⟨c, hc⟩ : ∃ c, crlf s (i + 1 + 6) = c := ⟨_, rfl⟩
      rw [hc] at htk
      have HTK := Lib.hid htk
      have HC := Lib.hid hc
      clear htk hc
      go_wp2_with fail
      refine (HTK.out _ (by first | exact HR.out | exact HR.out.drew _)).mono ?_
      rintro e w2 ⟨rfl, hr2, hb2⟩
      cases c
      · have hr2' : Rdr w2 B s (i + 1 + 6) false u false := by simpa using hr2
        have c1'' : w2.cell? ⟨B, 1, none⟩ = some (.int .i64 ((i + 1 + 6 : Nat) : Int)) := hr2'.cell (i := 1) rfl
        have f1'' : w2.frozen? ⟨B, 1, none⟩ = false := hr2'.free 1
        have f3'' : w2.frozen? ⟨B, 3, none⟩ = false := hr2'.free 3
        have c3'' : w2.cell? ⟨B, 3, none⟩ = some (.bool u) := hr2'.cell (i := 3) rfl
        have HR2 := Lib.hid (And.intro hr2' (show Below B w w2 by first | exact HB.out.trans hb2 | exact (below_drewN HB.out _).trans hb2))
        clear hr2 hr2' hb2
        have hN2 := fun w' h' => next_any s (i + 1 + 6) B false u false w' h'
        obtain ⟨y, hy⟩ : ∃ y, nx s (i + 1 + 6) = y := ⟨_, rfl⟩
        rw [hy] at hN2
        have HN2 := Lib.hid hN2
        have hsp := fun w' => isSpace_is (n := y) rfl w'
        clear hN2
        cases hsy : isSpc y
        · rw [hsy] at hsp
          have HSP := Lib.hid hsp
          have hes := HES0.out
          rw [ws_none (by rw [hy]; exact hsy)] at hes
          have HES := Lib.hid hes
          clear hsp hes hsy hy
          go_wp2_with (first
            | (go_at_call 12; refine (HN2.out _ (by first | exact HR2.out.1 | exact HR2.out.1.drew _)).mono ?_; rintro e w' ⟨rfl, m2, rfl⟩)
            | (go_at_call 28; refine (HSP.out _).mono ?_; rintro e w' ⟨rfl, rfl⟩)
            | (go_at_call 29; refine (encoded_int v _ hv0 hv7).mono ?_; rintro e w3 ⟨rfl, hb3⟩))
          all_goals go_ret
          all_goals first
            | (have h3 := hb3; exact esc_number rfl (k := i + 1 + 6) (HR2.out.1.drew _) (below_drewN HR2.out.2 _) h3 (by omega) (by omega) HE.out.2.2.1 HES.out)
            | exact esc_unsure rfl rfl (k := i + 1 + 6) (HR2.out.1.drew _) (below_drewN HR2.out.2 _) (by omega) (by omega)
        · rw [hsy] at hsp
          have hpl : i + 1 + 6 < s.size := isSpc_end (by rw [hy]; exact hsy)
          have HSP := Lib.hid hsp
          have hes := HES0.out
          rw [ws_space HC.out (by rw [hy]; exact hsy)] at hes
          have HES := Lib.hid hes
          clear hsp hes hsy hy
          go_wp2_with (first
            | (go_at_call 12; refine (HN2.out _ (by first | exact HR2.out.1 | exact HR2.out.1.drew _)).mono ?_; rintro e w' ⟨rfl, m2, rfl⟩)
            | (go_at_call 28; refine (HSP.out _).mono ?_; rintro e w' ⟨rfl, rfl⟩)
            | (go_at_call 29; refine (encoded_int v _ hv0 hv7).mono ?_; rintro e w3 ⟨rfl, hb3⟩))
          all_goals go_ret
          all_goals first
            | (have h3 := hb3; exact esc_number rfl (k := i + 1 + 6 + 1) (HR2.out.1.drew _).step (World.objAt.setBelow (HR2.out.1.drew _) 1 _ (below_drewN HR2.out.2 _) (Nat.le_refl _)) h3 (by omega) (by omega) HE.out.2.2.1 HES.out)
            | exact esc_unsure rfl rfl (k := i + 1 + 6 + 1) (HR2.out.1.drew _).step (World.objAt.setBelow (HR2.out.1.drew _) 1 _ (below_drewN HR2.out.2 _) (Nat.le_refl _)) (by omega) (by omega)
      · have hr2' : Rdr w2 B s (i + 1 + 6 + 2) false u false := by simpa using hr2
        have c1'' : w2.cell? ⟨B, 1, none⟩ = some (.int .i64 ((i + 1 + 6 + 2 : Nat) : Int)) := hr2'.cell (i := 1) rfl
        have f1'' : w2.frozen? ⟨B, 1, none⟩ = false := hr2'.free 1
        have f3'' : w2.frozen? ⟨B, 3, none⟩ = false := hr2'.free 3
        have c3'' : w2.cell? ⟨B, 3, none⟩ = some (.bool u) := hr2'.cell (i := 3) rfl
        have hpl := crlf_end HC.out
        have HR2 := Lib.hid (And.intro hr2' (show Below B w w2 by first | exact HB.out.trans hb2 | exact (below_drewN HB.out _).trans hb2))
        clear hr2 hr2' hb2
        have hes := HES0.out
        rw [ws_crlf HC.out] at hes
        have HES := Lib.hid hes
        clear hes
        go_wp2_with (go_at_call 29; refine (encoded_int v _ hv0 hv7).mono ?_; rintro e w3 ⟨rfl, hb3⟩)
        all_goals go_ret
        all_goals first
          | (have h3 := hb3; exact esc_number rfl (k := i + 1 + 6 + 2) HR2.out.1 HR2.out.2 h3 (by omega) (by omega) HE.out.2.2.1 HES.out)
          | exact esc_unsure rfl rfl (k := i + 1 + 6 + 2) HR2.out.1 HR2.out.2 (by omega) (by omega)

end Go.Proofs.YtbikpalfhlgnoaaGreatDoor
