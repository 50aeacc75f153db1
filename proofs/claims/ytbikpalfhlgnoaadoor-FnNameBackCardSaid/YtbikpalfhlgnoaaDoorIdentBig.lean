/- The parser's names and identifiers in texts of up to 5,000 bytes. -/
import Derived.Test.YtbikpalfhlgnoaaDoorReadIdents
namespace Go.Proofs.YtbikpalfhlgnoaaDoor
open Go.RowKit
set_option linter.unusedVariables false
set_option linter.unusedSimpArgs false

set_option maxRecDepth 100000 in
set_option maxHeartbeats 8000000 in
theorem parseName_big (s : ByteArray) (B k0 : Nat) (w : World) (hs : s.size ≤ 5000) (hk0 : k0 ≤ s.size) (h : Prs w B s k0) (hesc : EscAnswers s B) :
    Calls Tryd.prog 34 #[.pointer (some ⟨B, 0, none⟩)] w (NamePost s B k0 w) := by
  have c1 : w.cell? ⟨B, 1, none⟩ = some (.int .i64 (k0 : Int)) := h.cell (i := 1) rfl
  have HW := Lib.hid h
  have HESC := Lib.hid hesc
  clear h hesc
  go_enter Tryd.func34, Tryd.ntmps34
  go_wp2
  go_step3
  go_wp2
  go_step3
  go_wp2
  go_loopw [2, 4] (fun r i wr => ∃ (k q : Nat) (out : ByteArray), r = .string out ∧ i = .int .i64 (k : Int) ∧ k ≤ s.size ∧ pn s k0 ByteArray.empty = pn s k out ∧ Prs wr B s q ∧ Below B w wr ∧ out.size ≤ 4 * k) (fun _ i _ => s.size - (intOf i).toNat)
  case atStart => exact ⟨k0, k0, ByteArray.empty, rfl, by go_num, hk0, rfl, HW.out, Below.refl _ _, by simp⟩
  case round =>
    obtain ⟨k, q, out, rfl, rfl, hk, hpn, hp, hb, hos⟩ := hrel
    have c0 : wr.cell? ⟨B, 0, none⟩ = some (.string s) := hp.cell (i := 0) rfl
    have c1 : wr.cell? ⟨B, 1, none⟩ = some (.int .i64 (q : Int)) := hp.cell (i := 1) rfl
    have f1 : wr.frozen? ⟨B, 1, none⟩ = false := hp.free 1
    have HPN := Lib.hid hpn
    have HP := Lib.hid hp
    have HB := Lib.hid hb
    clear hpn hp hb
    by_cases hlt : k < s.size
    · have g0 : decide ((k : Int) < (s.size : Int)) = true := by simp [hlt]
      have g0n : decide (k < s.size) = true := by simp [hlt]
      obtain ⟨b, hbc⟩ : ∃ b, isNc (nx s k) = b := ⟨_, rfl⟩
      have hbc' : isNc (s[k].toNat : Int) = b := by rw [← nx_lt hlt]; exact hbc
      have HBC := Lib.hid (And.intro hbc hbc')
      clear hbc hbc'
      cases b
      · by_cases h92 : nx s k = 92
        · have g92 : ((s[k].toNat : Int) == 92) = true := by rw [← nx_lt hlt]; simp [h92]
          have hes := HESC.out k (wr.setCell ⟨B, 1, none⟩ (.int .i64 (k : Int))) hlt h92 (HP.out.at k)
          have HES := Lib.hid hes
          have H92 := Lib.hid h92
          clear hes h92
          go_wp2_with (go_at_call 41; refine (nameChar_is HBC.out.2 _).mono ?_; rintro e w2 ⟨rfl, rfl⟩)
          refine HES.out.mono ?_
          rintro e w3 ⟨hb3, ⟨he, ⟨v, ty, qq, rfl⟩, kk, hk3⟩ | ⟨a, j, he, rfl, hp3, hj⟩⟩
          · have HE := Lib.hid (And.intro he (And.intro hb3 hk3))
            clear he hb3 hk3
            go_wp2
            rw [Exit.noGoto_ret]
            go_ret2
            exact ⟨(World.objAt.setBelow HP.out 1 _ HB.out (Nat.le_refl _)).trans HE.out.2.1, .inl ⟨.inl (HPN.out.trans (pn_none hlt H92.out HE.out.1)), ⟨_, _, _, rfl⟩, kk, HE.out.2.2⟩⟩
          · have c1' : w3.cell? ⟨B, 1, none⟩ = some (.int .i64 (j : Int)) := hp3.cell (i := 1) rfl
            have hkj := esc_lt he
            have has := esc_size he
            have hcat : out.size + a.size ≤ 9223372036854775807 := by omega
            have HE := Lib.hid (And.intro he (And.intro hb3 hp3))
            clear he hb3 hp3
            go_wp2
            refine ⟨?rel, ?measure⟩
            case rel => exact ⟨j, j, out ++ a, rfl, by go_num, hj, HPN.out.trans (pn_some hlt H92.out HE.out.1), HE.out.2.2, (World.objAt.setBelow HP.out 1 _ HB.out (Nat.le_refl _)).trans HE.out.2.1, by rw [ByteArray.size_append]; omega⟩
            case measure => simp [intOf]; omega
        · have g92 : ((s[k].toNat : Int) == 92) = false := by rw [← nx_lt hlt]; simp [h92]
          have H92 := Lib.hid h92
          clear h92
          cases hoe : out.toList.isEmpty
          · have HOE := Lib.hid (not_empty_of hoe)
            go_wp2_with (go_at_call 41; refine (nameChar_is HBC.out.2 _).mono ?_; rintro e w2 ⟨rfl, rfl⟩)
            rw [Exit.noGoto_ret]
            go_ret2
            exact ⟨World.objAt.setBelow HP.out 1 _ HB.out (Nat.le_refl _), .inr ⟨out, k, HPN.out.trans (pn_stop HBC.out.1 H92.out), HOE.out, hk, rfl, HP.out.at k⟩⟩
          · have HOE := Lib.hid (empty_of hoe)
            go_wp2_with (first | (go_at_call 41; refine (nameChar_is HBC.out.2 _).mono ?_; rintro e w2 ⟨rfl, rfl⟩) | go_in)
            rw [Exit.noGoto_ret]
            go_ret2
            exact ⟨HB.out.trans (prs_err HP.out _).1, .inl ⟨.inr ⟨k, by rw [HPN.out, (pn_stop HBC.out.1 H92.out), HOE.out]⟩, ⟨_, _, _, rfl⟩, q, (prs_err HP.out _).2⟩⟩
      · go_wp2_with (go_at_call 41; refine (nameChar_is HBC.out.2 _).mono ?_; rintro e w2 ⟨rfl, rfl⟩)
        go_loopw [4] (fun i wr' => ∃ j : Nat, i = .int .i64 (j : Int) ∧ k ≤ j ∧ j ≤ s.size ∧ (∀ m, k ≤ m → m < j → isNc (nx s m) = true) ∧ Prs wr' B s q ∧ Below B w wr') (fun i _ => s.size - (intOf i).toNat)
        case atStart => exact ⟨k, by go_num, by omega, by omega, fun m h1 h2 => absurd h2 (by omega), HP.out, HB.out⟩
        case round =>
          obtain ⟨j, rfl, hkj, hj, hall, hp', hb'⟩ := hrel
          have c0' := World.objAt.cell hp' (i := 0) (v := .string s) rfl
          have HALL := Lib.hid hall
          have HP' := Lib.hid hp'
          have HB' := Lib.hid hb'
          clear hall hp' hb'
          by_cases hjl : j < s.size
          · have g1 : decide ((j : Int) < (s.size : Int)) = true := by simp [hjl]
            have g1n : decide (j < s.size) = true := by simp [hjl]
            obtain ⟨b, hbj⟩ : ∃ b, isNc (nx s j) = b := ⟨_, rfl⟩
            have hbj' : isNc (s[j].toNat : Int) = b := by rw [← nx_lt hjl]; exact hbj
            have HBJ := Lib.hid (And.intro hbj hbj')
            clear hbj hbj'
            cases b
            · have hkne : k < j := by
                rcases Nat.lt_or_ge k j with h | h
                · exact h
                · obtain rfl : k = j := by omega
                  have h1 := HBJ.out.1
                  rw [HBC.out.1] at h1
                  cases h1
              have hcat : out.size + (s.extract k j).size ≤ 9223372036854775807 := by rw [ByteArray.size_extract]; omega
              go_wp2_with (go_at_call 41; refine (nameChar_is HBJ.out.2 _).mono ?_; rintro e w2 ⟨rfl, rfl⟩)
              refine ⟨?rel, ?measure⟩
              case rel => exact ⟨j, q, out ++ s.extract k j, rfl, by go_num, by omega, HPN.out.trans (pn_run j (by omega) (by omega) HALL.out), HP'.out, HB'.out, by rw [ByteArray.size_append, ByteArray.size_extract]; omega⟩
              case measure => simp [intOf]; omega
            · go_wp2_with (go_at_call 41; refine (nameChar_is HBJ.out.2 _).mono ?_; rintro e w2 ⟨rfl, rfl⟩)
              go_roundw
              case rel => exact ⟨j + 1, by go_num, by omega, by omega, (fun m h1 h2 => by
                by_cases hm : m < j
                · exact HALL.out m h1 hm
                · obtain rfl : m = j := by omega
                  exact HBJ.out.1), HP'.out, HB'.out⟩
              case measure => simp [intOf]; omega
          · have g1 : decide ((j : Int) < (s.size : Int)) = false := by simp; omega
            have g1n : decide (j < s.size) = false := by simp; omega
            have hcat : out.size + (s.extract k j).size ≤ 9223372036854775807 := by rw [ByteArray.size_extract]; omega
            go_wp2_with fail
            refine ⟨?rel, ?measure⟩
            case rel => exact ⟨j, q, out ++ s.extract k j, rfl, by go_num, by omega, HPN.out.trans (pn_run j (by omega) (by omega) HALL.out), HP'.out, HB'.out, by rw [ByteArray.size_append, ByteArray.size_extract]; omega⟩
            case measure => simp [intOf]; omega
    · have g0 : decide ((k : Int) < (s.size : Int)) = false := by simp; omega
      have g0n : decide (k < s.size) = false := by simp; omega
      cases hoe : out.toList.isEmpty
      · have HOE := Lib.hid (not_empty_of hoe)
        go_wp2_with fail
        rw [Exit.noGoto_ret]
        go_ret2
        exact ⟨World.objAt.setBelow HP.out 1 _ HB.out (Nat.le_refl _), .inr ⟨out, k, HPN.out.trans (pn_end (show s.size ≤ k by omega)), HOE.out, hk, rfl, HP.out.at k⟩⟩
      · have HOE := Lib.hid (empty_of hoe)
        go_wp2
        rw [Exit.noGoto_ret]
        go_ret2
        exact ⟨HB.out.trans (prs_err HP.out _).1, .inl ⟨.inr ⟨k, by rw [HPN.out, (pn_end (show s.size ≤ k by omega)), HOE.out]⟩, ⟨_, _, _, rfl⟩, q, (prs_err HP.out _).2⟩⟩

set_option maxRecDepth 100000 in
set_option maxHeartbeats 8000000 in
theorem parseEscape_big (s : ByteArray) (B : Nat) (hs : s.size ≤ 5000) : EscAnswers s B := by
  intro i w hi h92 hp
  have c0 : w.cell? ⟨B, 0, none⟩ = some (.string s) := World.objAt.cell hp (i := 0) rfl
  have c1 : w.cell? ⟨B, 1, none⟩ = some (.int .i64 (i : Int)) := World.objAt.cell hp (i := 1) rfl
  have f1 : w.frozen? ⟨B, 1, none⟩ = false := World.objAt.free hp 1
  have g92 : ((s[i].toNat : Int) != 92) = false := by rw [← nx_lt hi, h92]; decide
  have HP := Lib.hid hp
  clear hp h92
  by_cases h2 : s.size < i + 2
  · have g2 : decide ((s.size : Int) < (i : Int) + 2) = true := by simp; omega
    go_enter Tryd.func42, Tryd.ntmps42
    go_wp2_with fail
    go_quiet (fail)
    go_wp2
    go_ret2
    exact ⟨below_drewN (Below.refl B w) _ |>.trans (prs_err (HP.out.drew _) _).1, .inl ⟨esc_short h2, ⟨_, _, _, rfl⟩, i, (prs_err (HP.out.drew _) _).2⟩⟩
  have g2 : decide ((s.size : Int) < (i : Int) + 2) = false := by simp; omega
  have hi1 : i + 1 < s.size := by omega
  obtain ⟨x, hxe⟩ : ∃ x, nx s (i + 1) = x := ⟨_, rfl⟩
  have hxl : (s[i + 1].toNat : Int) = x := by rw [← nx_lt hi1]; exact hxe
  by_cases hnl : x = 13 ∨ x = 10 ∨ x = 12
  · have HX := Lib.hid hxe
    have hel : esc s i = none := esc_line h2 (by rw [hxe]; exact hnl)
    have HE := Lib.hid hel
    clear hel hxe
    rcases hnl with h | h | h
    all_goals subst h
    all_goals go_enter Tryd.func42, Tryd.ntmps42
    all_goals go_wp2_with fail
    all_goals go_quiet (fail)
    all_goals go_wp2
    all_goals go_ret2
    all_goals exact ⟨below_drewN (Below.refl B w) _ |>.trans (prs_err (HP.out.drew _) _).1, .inl ⟨HE.out, ⟨_, _, _, rfl⟩, i, (prs_err (HP.out.drew _) _).2⟩⟩
  have g13 : (x == 13) = false := by simp; omega
  have g10 : (x == 10) = false := by simp; omega
  have g12 : (x == 12) = false := by simp; omega
  have hnl' : ¬ (nx s (i + 1) = 13 ∨ nx s (i + 1) = 10 ∨ nx s (i + 1) = 12) := by rw [hxe]; exact hnl
  clear hnl
  cases hhx : isHx x
  · have hel := esc_lit h2 hnl' (by rw [hxe]; exact hhx)
    have HE := Lib.hid (And.intro hel hhx)
    clear hel hhx hnl' hxe
    go_enter Tryd.func42, Tryd.ntmps42
    go_wp2_with fail
    go_quiet (fail)
    go_wp2_with (go_at_call 55; refine (hexDigit_is HE.out.2 _).mono ?_; rintro e w2 ⟨rfl, rfl⟩)
    go_ret2
    exact ⟨World.objAt.setBelow (HP.out.drew _) 1 _ (below_drewN (Below.refl B w) _) (Nat.le_refl _), .inr ⟨_, _, HE.out.1, rfl, (HP.out.drew _).at (i + 2), by omega⟩⟩
  · have hx' : isHx (nx s (i + 1)) = true := by rw [hxe]; exact hhx
    have HC := Lib.hid (And.intro hnl' (And.intro hx' hhx))
    clear hnl' hx' hxe hhx
    go_enter Tryd.func42, Tryd.ntmps42
    go_wp2_with fail
    go_quiet (fail)
    go_wp2_with (go_at_call 55; refine (hexDigit_is HC.out.2.2 _).mono ?_; rintro e w2 ⟨rfl, rfl⟩)
    go_loopw [6] (fun v wr => ∃ j : Nat, v = .int .i64 (j : Int) ∧ i + 1 ≤ j ∧ j ≤ i + 7 ∧ j ≤ s.size ∧ (∀ m, m < j - (i + 1) → isHx (nx s (i + 1 + m)) = true) ∧ Prs wr B s i ∧ Below B w wr) (fun v _ => i + 7 - (intOf v).toNat)
    case atStart => exact ⟨i + 1, by go_num, by omega, by omega, by omega, fun m hm => absurd hm (by omega), HP.out.drew _, below_drewN (Below.refl B w) _⟩
    case round =>
      obtain ⟨j, rfl, hj1, hj7, hjs, hall, hp', hb'⟩ := hrel
      have c0' : wr.cell? ⟨B, 0, none⟩ = some (.string s) := World.objAt.cell hp' (i := 0) rfl
      have c1' : wr.cell? ⟨B, 1, none⟩ = some (.int .i64 (i : Int)) := World.objAt.cell hp' (i := 1) rfl
      have f1' : wr.frozen? ⟨B, 1, none⟩ = false := World.objAt.free hp' 1
      have HALL := Lib.hid hall
      have HP' := Lib.hid hp'
      have HB' := Lib.hid hb'
      clear hall hp' hb'
      by_cases h7 : j < i + 7
      · have g7 : decide ((j : Int) < (i : Int) + 1 + 6) = true := by simp; omega
        by_cases hjz : j < s.size
        · have gz : decide ((j : Int) < (s.size : Int)) = true := by simp [hjz]
          have gzn : decide (j < s.size) = true := by simp [hjz]
          obtain ⟨b, hbj⟩ : ∃ b, isHx (nx s j) = b := ⟨_, rfl⟩
          have hbj' : isHx (s[j].toNat : Int) = b := by rw [← nx_lt hjz]; exact hbj
          have HBJ := Lib.hid (And.intro hbj hbj')
          clear hbj hbj'
          cases b
          · skip
            have hN : hexN s (i + 1) 6 = j - (i + 1) := (by
              have h1 := hexN_of (s := s) (st := i + 1) (j - (i + 1)) HALL.out
              have h2 := hexN_stop h1 (by rw [show i + 1 + (j - (i + 1)) = j by omega]; exact HBJ.out.1) (6 - (j - (i + 1)))
              rwa [show j - (i + 1) + (6 - (j - (i + 1))) = 6 by omega] at h2)
            have hjl : i + 1 < j := by
              rcases Nat.lt_or_ge (i + 1) j with h | h
              · exact h
              · obtain rfl : j = i + 1 := by omega
                rw [Nat.sub_self] at hN
                have h1 := hexN_of (s := s) (st := i + 1) 1 (fun m hm => by rw [show i + 1 + m = i + 1 by omega]; exact HC.out.2.1)
                have h2 := hexN_mono s (i + 1) 1 5
                rw [h1, show 1 + 5 = 6 from rfl, hN] at h2
                omega
            have he := esc_hex (by omega) HC.out.1 HC.out.2.1 hN
            have hle : hexVal s (i + 1) (j - (i + 1)) < 16777216 := Nat.lt_of_lt_of_le (hexVal_lt s (i + 1) (j - (i + 1)) HALL.out) (by
              have : (16 : Nat) ^ (j - (i + 1)) ≤ 16 ^ 6 := Nat.pow_le_pow_right (by decide) (by omega)
              simpa using this)
            rw [show i + 1 + (j - (i + 1)) = j by omega] at he
            obtain ⟨v, hv⟩ : ∃ v, hexVal s (i + 1) (j - (i + 1)) = v := ⟨_, rfl⟩
            rw [hv] at he hle
            have hpu := fun w' => parseUint_is s (i + 1) j (by omega) hjl (by omega) HALL.out w'
            rw [hv] at hpu
            have HPU := Lib.hid hpu
            have HE := Lib.hid he
            clear hN hv hpu he
            go_wp2_with (first | (go_at_call 55; refine (hexDigit_is HBJ.out.2 _).mono ?_; rintro e w2 ⟨rfl, rfl⟩) | (go_at_call 56; refine (HPU.out _).mono ?_; rintro e w' ⟨rfl, hb⟩; have hp' : Prs w' B s i := World.objAt.below HP'.out hb (World.objAt.lt HP'.out); have c0' : w'.cell? ⟨B, 0, none⟩ = some (.string s) := World.objAt.cell hp' (i := 0) rfl; have c1' : w'.cell? ⟨B, 1, none⟩ = some (.int .i64 (i : Int)) := World.objAt.cell hp' (i := 1) rfl; have f1' : w'.frozen? ⟨B, 1, none⟩ = false := World.objAt.free hp' 1; have HQ := Lib.hid (And.intro hp' (HB'.out.trans (hb.mono (Nat.le_of_lt (World.objAt.lt HP'.out))))); clear hp' hb))
            all_goals go_ret2
            all_goals first
              | exact esc_fin (k := j + 2) HQ.out HE.out (ws_2 (by assumption) (by assumption) (by assumption) (by assumption)) (by omega)
              | exact esc_fin (k := j + 1) HQ.out HE.out (ws_1a (by assumption) (by assumption) (by assumption) (by assumption)) (by omega)
              | exact esc_fin (k := j + 1) HQ.out HE.out (ws_1b (by assumption) (by assumption) (by assumption)) (by omega)
              | exact esc_fin (k := j + 1) HQ.out HE.out (ws_1 (by assumption) (.inl (by assumption))) (by omega)
              | exact esc_fin (k := j + 1) HQ.out HE.out (ws_1 (by assumption) (.inr (.inl (by assumption)))) (by omega)
              | exact esc_fin (k := j + 1) HQ.out HE.out (ws_1 (by assumption) (.inr (.inr (.inl (by assumption))))) (by omega)
              | exact esc_fin (k := j + 1) HQ.out HE.out (ws_1 (by assumption) (.inr (.inr (.inr (by assumption))))) (by omega)
              | exact esc_fin (k := j) HQ.out HE.out (ws_0 (by assumption) (by assumption) (by assumption) (by assumption) (by assumption) (by assumption)) (by omega)
              | exact esc_fin (k := j) HQ.out HE.out (ws_end (by omega)) (by omega)
          · go_wp2_with (go_at_call 55; refine (hexDigit_is HBJ.out.2 _).mono ?_; rintro e w2 ⟨rfl, rfl⟩)
            go_roundw
            case rel => exact ⟨j + 1, by go_num, by omega, by omega, by omega, (fun m hm => by
              by_cases hmj : m < j - (i + 1)
              · exact HALL.out m hmj
              · obtain rfl : m = j - (i + 1) := by omega
                rw [show i + 1 + (j - (i + 1)) = j by omega]
                exact HBJ.out.1), HP'.out, HB'.out⟩
            case measure => simp [intOf]; omega
        · have gz : decide ((j : Int) < (s.size : Int)) = false := by simp; omega
          have gzn : decide (j < s.size) = false := by simp; omega
          have hN : hexN s (i + 1) 6 = j - (i + 1) := (by
            have h1 := hexN_of (s := s) (st := i + 1) (j - (i + 1)) HALL.out
            have h2 := hexN_stop h1 (by rw [show i + 1 + (j - (i + 1)) = j by omega]; exact (by rw [nx_end (show s.size ≤ j by omega)]; decide)) (6 - (j - (i + 1)))
            rwa [show j - (i + 1) + (6 - (j - (i + 1))) = 6 by omega] at h2)
          have hjl : i + 1 < j := by
            rcases Nat.lt_or_ge (i + 1) j with h | h
            · exact h
            · obtain rfl : j = i + 1 := by omega
              rw [Nat.sub_self] at hN
              have h1 := hexN_of (s := s) (st := i + 1) 1 (fun m hm => by rw [show i + 1 + m = i + 1 by omega]; exact HC.out.2.1)
              have h2 := hexN_mono s (i + 1) 1 5
              rw [h1, show 1 + 5 = 6 from rfl, hN] at h2
              omega
          have he := esc_hex (by omega) HC.out.1 HC.out.2.1 hN
          have hle : hexVal s (i + 1) (j - (i + 1)) < 16777216 := Nat.lt_of_lt_of_le (hexVal_lt s (i + 1) (j - (i + 1)) HALL.out) (by
            have : (16 : Nat) ^ (j - (i + 1)) ≤ 16 ^ 6 := Nat.pow_le_pow_right (by decide) (by omega)
            simpa using this)
          rw [show i + 1 + (j - (i + 1)) = j by omega] at he
          obtain ⟨v, hv⟩ : ∃ v, hexVal s (i + 1) (j - (i + 1)) = v := ⟨_, rfl⟩
          rw [hv] at he hle
          have hpu := fun w' => parseUint_is s (i + 1) j (by omega) hjl (by omega) HALL.out w'
          rw [hv] at hpu
          have HPU := Lib.hid hpu
          have HE := Lib.hid he
          clear hN hv hpu he
          go_wp2_with (go_at_call 56; refine (HPU.out _).mono ?_; rintro e w' ⟨rfl, hb⟩; have hp' : Prs w' B s i := World.objAt.below HP'.out hb (World.objAt.lt HP'.out); have c0' : w'.cell? ⟨B, 0, none⟩ = some (.string s) := World.objAt.cell hp' (i := 0) rfl; have c1' : w'.cell? ⟨B, 1, none⟩ = some (.int .i64 (i : Int)) := World.objAt.cell hp' (i := 1) rfl; have f1' : w'.frozen? ⟨B, 1, none⟩ = false := World.objAt.free hp' 1; have HQ := Lib.hid (And.intro hp' (HB'.out.trans (hb.mono (Nat.le_of_lt (World.objAt.lt HP'.out))))); clear hp' hb)
          all_goals go_ret2
          all_goals first
            | exact esc_fin (k := j + 2) HQ.out HE.out (ws_2 (by assumption) (by assumption) (by assumption) (by assumption)) (by omega)
            | exact esc_fin (k := j + 1) HQ.out HE.out (ws_1a (by assumption) (by assumption) (by assumption) (by assumption)) (by omega)
            | exact esc_fin (k := j + 1) HQ.out HE.out (ws_1b (by assumption) (by assumption) (by assumption)) (by omega)
            | exact esc_fin (k := j + 1) HQ.out HE.out (ws_1 (by assumption) (.inl (by assumption))) (by omega)
            | exact esc_fin (k := j + 1) HQ.out HE.out (ws_1 (by assumption) (.inr (.inl (by assumption)))) (by omega)
            | exact esc_fin (k := j + 1) HQ.out HE.out (ws_1 (by assumption) (.inr (.inr (.inl (by assumption))))) (by omega)
            | exact esc_fin (k := j + 1) HQ.out HE.out (ws_1 (by assumption) (.inr (.inr (.inr (by assumption))))) (by omega)
            | exact esc_fin (k := j) HQ.out HE.out (ws_0 (by assumption) (by assumption) (by assumption) (by assumption) (by assumption) (by assumption)) (by omega)
            | exact esc_fin (k := j) HQ.out HE.out (ws_end (by omega)) (by omega)
      · have g7 : decide ((j : Int) < (i : Int) + 1 + 6) = false := by simp; omega
        have hN : hexN s (i + 1) 6 = j - (i + 1) := (by
          have h1 := hexN_of (s := s) (st := i + 1) (j - (i + 1)) HALL.out
          rwa [show j - (i + 1) = 6 by omega] at h1 ⊢)
        have hjl : i + 1 < j := by
          rcases Nat.lt_or_ge (i + 1) j with h | h
          · exact h
          · obtain rfl : j = i + 1 := by omega
            rw [Nat.sub_self] at hN
            have h1 := hexN_of (s := s) (st := i + 1) 1 (fun m hm => by rw [show i + 1 + m = i + 1 by omega]; exact HC.out.2.1)
            have h2 := hexN_mono s (i + 1) 1 5
            rw [h1, show 1 + 5 = 6 from rfl, hN] at h2
            omega
        have he := esc_hex (by omega) HC.out.1 HC.out.2.1 hN
        have hle : hexVal s (i + 1) (j - (i + 1)) < 16777216 := Nat.lt_of_lt_of_le (hexVal_lt s (i + 1) (j - (i + 1)) HALL.out) (by
          have : (16 : Nat) ^ (j - (i + 1)) ≤ 16 ^ 6 := Nat.pow_le_pow_right (by decide) (by omega)
          simpa using this)
        rw [show i + 1 + (j - (i + 1)) = j by omega] at he
        obtain ⟨v, hv⟩ : ∃ v, hexVal s (i + 1) (j - (i + 1)) = v := ⟨_, rfl⟩
        rw [hv] at he hle
        have hpu := fun w' => parseUint_is s (i + 1) j (by omega) hjl (by omega) HALL.out w'
        rw [hv] at hpu
        have HPU := Lib.hid hpu
        have HE := Lib.hid he
        clear hN hv hpu he
        go_wp2_with (go_at_call 56; refine (HPU.out _).mono ?_; rintro e w' ⟨rfl, hb⟩; have hp' : Prs w' B s i := World.objAt.below HP'.out hb (World.objAt.lt HP'.out); have c0' : w'.cell? ⟨B, 0, none⟩ = some (.string s) := World.objAt.cell hp' (i := 0) rfl; have c1' : w'.cell? ⟨B, 1, none⟩ = some (.int .i64 (i : Int)) := World.objAt.cell hp' (i := 1) rfl; have f1' : w'.frozen? ⟨B, 1, none⟩ = false := World.objAt.free hp' 1; have HQ := Lib.hid (And.intro hp' (HB'.out.trans (hb.mono (Nat.le_of_lt (World.objAt.lt HP'.out))))); clear hp' hb)
        all_goals go_ret2
        all_goals first
          | exact esc_fin (k := j + 2) HQ.out HE.out (ws_2 (by assumption) (by assumption) (by assumption) (by assumption)) (by omega)
          | exact esc_fin (k := j + 1) HQ.out HE.out (ws_1a (by assumption) (by assumption) (by assumption) (by assumption)) (by omega)
          | exact esc_fin (k := j + 1) HQ.out HE.out (ws_1b (by assumption) (by assumption) (by assumption)) (by omega)
          | exact esc_fin (k := j + 1) HQ.out HE.out (ws_1 (by assumption) (.inl (by assumption))) (by omega)
          | exact esc_fin (k := j + 1) HQ.out HE.out (ws_1 (by assumption) (.inr (.inl (by assumption)))) (by omega)
          | exact esc_fin (k := j + 1) HQ.out HE.out (ws_1 (by assumption) (.inr (.inr (.inl (by assumption))))) (by omega)
          | exact esc_fin (k := j + 1) HQ.out HE.out (ws_1 (by assumption) (.inr (.inr (.inr (by assumption))))) (by omega)
          | exact esc_fin (k := j) HQ.out HE.out (ws_0 (by assumption) (by assumption) (by assumption) (by assumption) (by assumption) (by assumption)) (by omega)
          | exact esc_fin (k := j) HQ.out HE.out (ws_end (by omega)) (by omega)

set_option maxRecDepth 100000 in
set_option maxHeartbeats 8000000 in
theorem parseIdent_big (s : ByteArray) (B : Nat) (w : World) (hs : s.size ≤ 5000) (h : Prs w B s 0) :
    Calls Tryd.prog 33 #[.pointer (some ⟨B, 0, none⟩)] w (IdentPost s B w) := by
  have HW := Lib.hid h
  clear h
  go_enter Tryd.func33, Tryd.ntmps33
  go_wp2
  go_loopw [4] (fun n wr => ∃ k : Nat, n = .int .i64 (k : Int) ∧ k ≤ s.size ∧ (∀ i, i < k → nx s i = 45) ∧ Prs wr B s k ∧ Below B w wr) (fun n _ => s.size - (intOf n).toNat)
  case atStart => exact ⟨0, by go_num, by omega, fun i hi => absurd hi (by omega), HW.out, Below.refl _ _⟩
  case round =>
    obtain ⟨k, rfl, hk, hall, hp, hb⟩ := hrel
    have c0 : wr.cell? ⟨B, 0, none⟩ = some (.string s) := hp.cell (i := 0) rfl
    have c1 : wr.cell? ⟨B, 1, none⟩ = some (.int .i64 (k : Int)) := hp.cell (i := 1) rfl
    have f1 : wr.frozen? ⟨B, 1, none⟩ = false := hp.free 1
    have HALL := Lib.hid hall
    have HP := Lib.hid hp
    have HB := Lib.hid hb
    clear hall hp hb
    by_cases hlt : k < s.size
    · have g0 : decide ((k : Int) < (s.size : Int)) = true := by simp [hlt]
      have g0n : decide (k < s.size) = true := by simp [hlt]
      have gle : decide ((s.size : Int) ≤ (k : Int)) = false := by simp; omega
      obtain ⟨x, hx⟩ : ∃ x, (s[k].toNat : Int) = x := ⟨_, rfl⟩
      have hxn : nx s k = x := by rw [nx_lt hlt, hx]
      by_cases h45 : x = 45
      · have g1 : (x == 45) = true := by simp [h45]
        have HX := Lib.hid (hxn.trans h45)
        clear h45 hxn
        go_wp2_with fail
        go_quiet (fail)
        go_wp2_with fail
        refine ⟨?rel, ?measure⟩
        case rel => exact ⟨k + 1, by go_num, by omega, (fun i hi => by
          by_cases hik : i < k
          · exact HALL.out i hik
          · obtain rfl : i = k := by omega
            exact HX.out), (HP.out.drew _).at (k + 1), World.objAt.setBelow (HP.out.drew _) 1 _ (below_drewN HB.out _) (Nat.le_refl _)⟩
        case measure => simp [intOf]; omega
      · have g1 : (x == 45) = false := by simp [h45]
        have hy : Hyph s k := ⟨hk, HALL.out, by rw [hxn]; exact h45⟩
        have HY := Lib.hid (And.intro hy hxn)
        clear hy h45 hxn
        obtain ⟨b, hbs⟩ : ∃ b, isNs x = b := ⟨_, rfl⟩
        have HBS := Lib.hid hbs
        obtain ⟨b2, hb2⟩ : ∃ b2, (x == 92) = b2 := ⟨_, rfl⟩
        have HB2 := Lib.hid hb2
        clear hbs
        have hst : startOk s k ↔ (b = true ∨ b2 = true) := by
          unfold startOk
          rw [HY.out.2, HBS.out, ← HB2.out, beq_iff_eq]
          exact ⟨fun h => h.2, fun h => ⟨hlt, h⟩⟩
        have HST := Lib.hid hst
        clear hst
        go_wp2_with fail
        go_quiet (fail)
        go_wp2_with fail
        obtain ⟨wz, hwz⟩ : ∃ wz, wr.drewN nq = wz := ⟨_, rfl⟩
        have hrz : Prs wz B s k := by rw [← hwz]; exact HP.out.drew _
        have hbz : Below B w wz := by rw [← hwz]; exact below_drewN HB.out _
        rw [hwz]
        clear hwz c0 c1 f1
        have c0z : wz.cell? ⟨B, 0, none⟩ = some (.string s) := hrz.cell (i := 0) rfl
        have c1z : wz.cell? ⟨B, 1, none⟩ = some (.int .i64 (k : Int)) := hrz.cell (i := 1) rfl
        have HZ := Lib.hid (And.intro hrz hbz)
        clear hrz hbz nq
        go_quiet (fail)
        go_wp2_with fail
        obtain ⟨wy, hwy⟩ : ∃ wy, wz.drewN nq = wy := ⟨_, rfl⟩
        have hry : Prs wy B s k := by rw [← hwy]; exact HZ.out.1.drew _
        have hby : Below B w wy := by rw [← hwy]; exact below_drewN HZ.out.2 _
        rw [hwy]
        clear hwy c0z c1z
        have c0y : wy.cell? ⟨B, 0, none⟩ = some (.string s) := hry.cell (i := 0) rfl
        have c1y : wy.cell? ⟨B, 1, none⟩ = some (.int .i64 (k : Int)) := hry.cell (i := 1) rfl
        have HQ := Lib.hid (And.intro hry hby)
        clear hry hby nq
        go_quiet (fail)
        go_wp2_with fail
        refine (nameStart_is HBS.out _).mono ?_
        rintro e w2 ⟨rfl, rfl⟩
        have hzz := Nat.eq_zero_or_pos k
        by_cases hor : b = true ∨ b2 = true
        · have HOR := Lib.hid (HST.out.2 hor)
          have hpn := fun w' h' => parseName_big s B k w' (by omega) hk h' (parseEscape_big s B (by omega))
          have HPN := Lib.hid hpn
          have hrep : ∀ w', Calls Tryd.prog 40 #[.string ⟨#[45]⟩, .int .i64 (k : Int)] w' (fun e w'' => e = .returned (.string (s.extract 0 k)) ∧ Below w'.heap.size w' w'') := fun w' => by
            have h1 := Tryd.strings_Repeat ⟨#[45]⟩ k w' (by omega) (by show 1 * k ≤ _; omega)
            rw [repeat_hyphens HY.out.1] at h1
            exact h1
          have HREP := Lib.hid hrep
          clear hpn hrep
          rcases hzz with h0 | h0
          · subst h0
            cases b <;> cases b2
            all_goals (first | (exfalso; revert hor; simp; done) | skip)
            all_goals clear hor
            all_goals go_wp2_with fail
            all_goals refine (HPN.out _ (HQ.out.1.drew _)).mono ?_
            all_goals rintro e w3 ⟨hb3, ⟨hf, ⟨v, ty, qq, rfl⟩, kk, hr⟩ | ⟨out, j, ho, hne, hj, rfl, hr⟩⟩
            all_goals have HB3 := Lib.hid ((below_drewN HQ.out.2 _).trans hb3)
            all_goals clear hb3
            all_goals go_wp2_with fail
            all_goals go_ret2
            all_goals first
              | exact ⟨0, HY.out.1, HB3.out, .inl ⟨.inr hf, ⟨_, _, _, rfl⟩, kk, hr⟩⟩
              | exact ⟨0, HY.out.1, HB3.out, .inr ⟨HOR.out, out, j, ho, hne, hj, by rw [ext00]; rfl, hr⟩⟩
          · have gk : decide ((0 : Int) < (k : Int)) = true := by simp; omega
            cases b <;> cases b2
            all_goals (first | (exfalso; revert hor; simp; done) | skip)
            all_goals clear hor
            all_goals go_wp2_with fail
            all_goals refine (HPN.out _ (HQ.out.1.drew _)).mono ?_
            all_goals rintro e w3 ⟨hb3, ⟨hf, ⟨v, ty, qq, rfl⟩, kk, hr⟩ | ⟨out, j, ho, hne, hj, rfl, hr⟩⟩
            all_goals have HB3 := Lib.hid ((below_drewN HQ.out.2 _).trans hb3)
            all_goals have HR3 := Lib.hid hr
            all_goals clear hb3 hr
            all_goals first
              | (have hos := pn_size s s.size k j _ out (by omega) ho
                 have hcat : (s.extract 0 k).size + out.size ≤ 9223372036854775807 := by
                   rw [ByteArray.size_extract]
                   have h00 : ByteArray.empty.size = 0 := rfl
                   omega
                 have HO := Lib.hid (And.intro ho hne)
                 clear ho hne hos
                 go_wp2_with (go_at_call 40; refine (HREP.out _).mono ?_; rintro e w4 ⟨rfl, hb4⟩)
                 go_ret2
                 exact ⟨k, HY.out.1, HB3.out.trans (hb4.mono (Nat.le_of_lt (World.objAt.lt HR3.out))), .inr ⟨HOR.out, out, j, HO.out.1, HO.out.2, hj, rfl, World.objAt.below HR3.out hb4 (World.objAt.lt HR3.out)⟩⟩)
              | (go_wp2_with fail
                 go_ret2
                 exact ⟨k, HY.out.1, HB3.out, .inl ⟨.inr hf, ⟨_, _, _, rfl⟩, kk, HR3.out⟩⟩)
        · have HOR := Lib.hid (fun h => hor (HST.out.1 h))
          cases b <;> cases b2
          all_goals (first | (exfalso; apply hor; simp; done) | skip)
          all_goals clear hor
          all_goals go_wp2
          all_goals go_ret2
          all_goals exact ⟨k, HY.out.1, (below_drewN HQ.out.2 _).trans (prs_err (HQ.out.1.drew _) _).1, .inl ⟨.inl HOR.out, ⟨_, _, _, rfl⟩, k, (prs_err (HQ.out.1.drew _) _).2⟩⟩
    · have g0 : decide ((k : Int) < (s.size : Int)) = false := by simp; omega
      have g0n : decide (k < s.size) = false := by simp; omega
      have gle : decide ((s.size : Int) ≤ (k : Int)) = true := by simp; omega
      have hy : Hyph s k := ⟨hk, HALL.out, by rw [nx_end (show s.size ≤ k by omega)]; decide⟩
      have HY := Lib.hid hy
      clear hy
      go_wp2_with fail
      go_quiet (fail)
      go_wp2_with fail
      go_quiet (fail)
      go_wp2
      go_ret2
      exact ⟨k, HY.out, (below_drewN HB.out _).trans (prs_err (HP.out.drew _) _).1, .inl ⟨.inl (fun h => hlt h.1), ⟨_, _, _, rfl⟩, k, (prs_err (HP.out.drew _) _).2⟩⟩

set_option maxRecDepth 100000 in
set_option maxHeartbeats 1000000 in
theorem casIdent_big (s : ByteArray) (w : World) (hs : s.size ≤ 5000) : Calls Tryd.prog 23 #[.string s] w (CasIdentPost s w) := by
  have hb0 : Below w.heap.size w (w.alloc (.cells #[.string s, .int .i64 0, .int .i64 0, .bool false] 51)) := (Below.refl _ _).alloc (Nat.le_refl _) _
  have hr0 := prs_new w s
  obtain ⟨w0, hw0⟩ : ∃ w0, w.alloc (.cells #[.string s, .int .i64 0, .int .i64 0, .bool false] 51) = w0 := ⟨_, rfl⟩
  rw [hw0] at hb0 hr0
  have HP := Lib.hid (parseIdent_big s w.heap.size w0 hs hr0)
  have HB := Lib.hid hb0
  clear hb0 hr0
  go_enter Tryd.func23, Tryd.ntmps23
  go_wp2_with fail
  refine HP.out.mono ?_
  rintro e w1 ⟨m, hy, hb, ⟨hf, ⟨v, t, q, rfl⟩, k, hr⟩ | ⟨hst, out, j, ho, hne, hj, rfl, hr⟩⟩
  · have c1 : w1.cell? ⟨w.heap.size, 1, none⟩ = some (.int .i64 (k : Int)) := hr.cell (i := 1) rfl
    have HE := Lib.hid (And.intro hy (And.intro hf (HB.out.trans hb)))
    clear hy hf hb hr
    go_wp2
    go_quiet (fail)
    go_wp2
    go_ret3
    exact ⟨m, HE.out.1, below_drewN HE.out.2.2 _, .inl ⟨HE.out.2.1, _, _, _, _, rfl⟩⟩
  · have c1 : w1.cell? ⟨w.heap.size, 1, none⟩ = some (.int .i64 (j : Int)) := hr.cell (i := 1) rfl
    have HE := Lib.hid (And.intro (And.intro hy hst) (And.intro ho (And.intro hne (HB.out.trans hb))))
    clear hy hst ho hne hb hr
    go_wp2
    go_quiet (fail)
    go_wp2
    go_ret3
    exact ⟨m, HE.out.1.1, below_drewN HE.out.2.2.2 _, .inr ⟨HE.out.1.2, out, j, HE.out.2.1, HE.out.2.2.1, hj, rfl⟩⟩

set_option maxRecDepth 100000 in
set_option maxHeartbeats 1000000 in
theorem implIdent_big (s : ByteArray) (w : World) (hs : s.size ≤ 5000) : Calls Tryd.prog 10 #[.string s] w (ReadIdentPost s w) := by
  have HP := Lib.hid (casIdent_big s w hs)
  go_enter Tryd.func10, Tryd.ntmps10
  go_wp2_with fail
  refine HP.out.mono ?_
  rintro e w1 ⟨m, hy, hb, ⟨hf, v, k, t, q, rfl⟩ | ⟨hst, out, j, ho, hne, hj, rfl⟩⟩
  · have HE := Lib.hid (And.intro hy (And.intro hf hb))
    clear hy hf hb
    go_wp2
    go_ret3
    exact ⟨m, HE.out.1, HE.out.2.2, .inl ⟨HE.out.2.1, rfl⟩⟩
  · have HE := Lib.hid (And.intro (And.intro hy hst) (And.intro ho (And.intro hne hb)))
    clear hy hst ho hne hb
    go_wp2
    go_ret3
    exact ⟨m, HE.out.1.1, HE.out.2.2.2, .inr ⟨HE.out.1.2, out, j, HE.out.2.1, HE.out.2.2.1, hj, rfl⟩⟩

end Go.Proofs.YtbikpalfhlgnoaaDoor
