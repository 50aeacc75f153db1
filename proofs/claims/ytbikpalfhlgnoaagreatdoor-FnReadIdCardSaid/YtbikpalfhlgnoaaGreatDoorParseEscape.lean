/- cascadia's parser.parseEscape: it answers as the function esc says. -/
import Derived.Test.YtbikpalfhlgnoaaGreatDoorParseName
import Derived.Test.YtbikpalfhlgnoaaGreatDoorHexNum
namespace Go.Proofs.YtbikpalfhlgnoaaGreatDoor
open Go.RowKit
set_option linter.unusedVariables false
set_option linter.unusedSimpArgs false

theorem hexN_of {s : ByteArray} {st : Nat} : ∀ n, (∀ m, m < n → isHx (nx s (st + m)) = true) → hexN s st n = n
  | 0, _ => rfl
  | n + 1, h => by
    have h1 := hexN_of n (fun m hm => h m (by omega))
    simp only [hexN]
    rw [if_pos ⟨h1, h n (by omega)⟩]

theorem hexN_stop {s : ByteArray} {st n : Nat} (hn : hexN s st n = n) (hx : isHx (nx s (st + n)) = false) : ∀ d, hexN s st (n + d) = n
  | 0 => hn
  | d + 1 => by
    have h1 := hexN_stop hn hx d
    have he : hexN s st (n + (d + 1)) = if hexN s st (n + d) = n + d ∧ isHx (nx s (st + (n + d))) = true then n + d + 1 else hexN s st (n + d) := rfl
    rw [he, h1]
    split
    · rename_i h
      obtain ⟨h2, h3⟩ := h
      obtain rfl : d = 0 := by omega
      simp only [Nat.add_zero] at h3
      rw [hx] at h3
      cases h3
    · rfl

theorem nx_extract {s : ByteArray} {a b i : Nat} (h : a + i < b) (hb : b ≤ s.size) : nx (s.extract a b) i = nx s (a + i) := by
  have h1 : i < (s.extract a b).size := by rw [ByteArray.size_extract]; omega
  rw [nx_lt h1, nx_lt (show a + i < s.size by omega), ByteArray.getElem_extract]

theorem hexVal_extract {s : ByteArray} {a b : Nat} (hb : b ≤ s.size) : ∀ n, a + n ≤ b → hexVal (s.extract a b) 0 n = hexVal s a n
  | 0, _ => rfl
  | n + 1, h => by
    simp only [hexVal, Nat.zero_add]
    rw [hexVal_extract hb n (by omega), nx_extract (by omega) hb]

theorem esc_short {s : ByteArray} {i : Nat} (h : s.size < i + 2) : esc s i = none := by
  unfold esc; rw [if_pos h]
theorem esc_line {s : ByteArray} {i : Nat} (h : ¬ s.size < i + 2) (h2 : nx s (i + 1) = 13 ∨ nx s (i + 1) = 10 ∨ nx s (i + 1) = 12) : esc s i = none := by
  unfold esc; rw [if_neg h, if_pos h2]
theorem esc_lit {s : ByteArray} {i : Nat} (h : ¬ s.size < i + 2) (h2 : ¬ (nx s (i + 1) = 13 ∨ nx s (i + 1) = 10 ∨ nx s (i + 1) = 12)) (h3 : isHx (nx s (i + 1)) = false) : esc s i = some (s.extract (i + 1) (i + 2), i + 2) := by
  unfold esc; rw [if_neg h, if_neg h2, if_neg (by simp [h3])]
theorem esc_hex {s : ByteArray} {i n : Nat} (h : ¬ s.size < i + 2) (h2 : ¬ (nx s (i + 1) = 13 ∨ nx s (i + 1) = 10 ∨ nx s (i + 1) = 12)) (h3 : isHx (nx s (i + 1)) = true) (hn : hexN s (i + 1) 6 = n) :
    esc s i = some (Utf8.encode (hexVal s (i + 1) n), wsSkip s (i + 1 + n)) := by
  unfold esc; rw [if_neg h, if_neg h2, if_pos h3, hn]

theorem hexDigit_is {n : Int} {b : Bool} (h : isHx n = b) (w : World) : Calls Tryz.prog 33 #[.int .u8 n] w (IsBool b w) :=
  (hexDigit_any n w).mono fun e w' ⟨b', h', he, hw⟩ => ⟨by rw [he, h', h], hw.symm⟩

def PuPost (v : Nat) (w : World) (e : Ending) (w' : World) : Prop := e = .returned (.tuple #[.int .u64 (v : Int), .nilIface]) ∧ Below w.heap.size w w'

theorem parseUint_is (s : ByteArray) (st j : Nat) (hj : j ≤ s.size) (h1 : st < j) (h6 : j ≤ st + 6) (hx : ∀ m, m < j - st → isHx (nx s (st + m)) = true) (w : World) :
    Calls Tryz.prog 34 #[.string (s.extract st j), .int .i64 16, .int .i64 64] w (PuPost (hexVal s st (j - st)) w) := by
  have hz : (s.extract st j).size = j - st := by rw [ByteArray.size_extract]; omega
  have hp := fun w' => parseHex_any (s.extract st j) w' (by omega) (by omega) (fun i hi => by rw [hz] at hi; rw [nx_extract (by omega) hj]; exact hx i hi)
  unfold HexPost at hp
  rw [hz, hexVal_extract hj _ (by omega)] at hp
  have HP := Lib.hid hp
  clear hp hz hx
  go_enter Tryz.func34, Tryz.ntmps34
  go_wp2_with (go_at_call 35; refine (HP.out _).mono ?_; rintro e w' ⟨rfl, hb⟩)
  go_ret2
  exact ⟨rfl, hb⟩


theorem hexN_mono (s : ByteArray) (st n : Nat) : ∀ d, hexN s st n ≤ hexN s st (n + d)
  | 0 => Nat.le_refl _
  | d + 1 => by
    have h1 := hexN_mono s st n d
    have h2 := hexN_le s st (n + d)
    rw [← Nat.add_assoc]
    simp only [hexN]
    split <;> omega

theorem ws_2 {s : ByteArray} {j : Nat} (hj : j < s.size) (h13 : ((s[j].toNat : Int) == 13) = true) (h1 : (j : Int) + 1 < (s.size : Int)) (h10 : ((s[j + 1]'(by omega)).toNat == (10 : Int)) = true) : wsSkip s j = j + 2 := by
  have e1 := nx_lt hj
  have e2 := nx_lt (show j + 1 < s.size by omega)
  have := of_decide_eq_true h13
  have := of_decide_eq_true h10
  unfold wsSkip
  rw [if_pos (by omega), if_pos (by omega)]
theorem ws_1a {s : ByteArray} {j : Nat} (hj : j < s.size) (h13 : ((s[j].toNat : Int) == 13) = true) (h1 : (j : Int) + 1 < (s.size : Int)) (h10 : ((s[j + 1]'(by omega)).toNat == (10 : Int)) = false) : wsSkip s j = j + 1 := by
  have e1 := nx_lt hj
  have e2 := nx_lt (show j + 1 < s.size by omega)
  have := of_decide_eq_true h13
  have := of_decide_eq_false h10
  unfold wsSkip
  rw [if_pos (by omega), if_neg (by omega)]
theorem ws_1b {s : ByteArray} {j : Nat} (hj : j < s.size) (h13 : ((s[j].toNat : Int) == 13) = true) (h1 : (s.size : Int) ≤ (j : Int) + 1) : wsSkip s j = j + 1 := by
  have e1 := nx_lt hj
  have e2 := nx_end (show s.size ≤ j + 1 by omega)
  have := of_decide_eq_true h13
  unfold wsSkip
  rw [if_pos (by omega), if_neg (by omega)]
theorem ws_1 {s : ByteArray} {j : Nat} (hj : j < s.size) (h : ((s[j].toNat : Int) == 32) = true ∨ ((s[j].toNat : Int) == 9) = true ∨ ((s[j].toNat : Int) == 10) = true ∨ ((s[j].toNat : Int) == 12) = true) : wsSkip s j = j + 1 := by
  have e1 := nx_lt hj
  have : nx s j = 32 ∨ nx s j = 9 ∨ nx s j = 10 ∨ nx s j = 12 := by
    rw [e1]
    rcases h with h | h | h | h
    · exact .inl (of_decide_eq_true h)
    · exact .inr (.inl (of_decide_eq_true h))
    · exact .inr (.inr (.inl (of_decide_eq_true h)))
    · exact .inr (.inr (.inr (of_decide_eq_true h)))
  unfold wsSkip
  rw [if_neg (by omega), if_pos this]
theorem ws_0 {s : ByteArray} {j : Nat} (hj : j < s.size) (h13 : ((s[j].toNat : Int) == 13) = false) (h2 : ((s[j].toNat : Int) == 32) = false) (h3 : ((s[j].toNat : Int) == 9) = false) (h4 : ((s[j].toNat : Int) == 10) = false) (h5 : ((s[j].toNat : Int) == 12) = false) : wsSkip s j = j := by
  have e1 := nx_lt hj
  have := of_decide_eq_false h13
  have := of_decide_eq_false h2
  have := of_decide_eq_false h3
  have := of_decide_eq_false h4
  have := of_decide_eq_false h5
  unfold wsSkip
  rw [if_neg (by omega), if_neg (by omega)]
theorem ws_end {s : ByteArray} {j : Nat} (hj : s.size ≤ j) : wsSkip s j = j := by
  have e1 := nx_end hj
  unfold wsSkip
  rw [if_neg (by omega), if_neg (by omega)]

theorem esc_fin {s : ByteArray} {B i j k v : Nat} {w w' : World} (hq : Prs w' B s i ∧ Below B w w') (he : esc s i = some (Utf8.encode (v : Int), wsSkip s j)) (hk : wsSkip s j = k) (hks : k ≤ s.size) :
    EscPost s B i w (.returned (.tuple #[.string (Utf8.encode (v : Int)), .nilIface])) (w'.setCell ⟨B, 1, none⟩ (.int .i64 (k : Int))) :=
  ⟨World.objAt.setBelow hq.1 1 _ hq.2 (Nat.le_refl _), .inr ⟨_, k, by rw [he, hk], rfl, hq.1.at k, hks⟩⟩

set_option maxRecDepth 100000 in
set_option maxHeartbeats 8000000 in
theorem parseEscape_any (s : ByteArray) (B : Nat) (hs : s.size ≤ 4000) : EscAnswers s B := by
  intro i w hi h92 hp
  have c0 : w.cell? ⟨B, 0, none⟩ = some (.string s) := World.objAt.cell hp (i := 0) rfl
  have c1 : w.cell? ⟨B, 1, none⟩ = some (.int .i64 (i : Int)) := World.objAt.cell hp (i := 1) rfl
  have f1 : w.frozen? ⟨B, 1, none⟩ = false := World.objAt.free hp 1
  have g92 : ((s[i].toNat : Int) != 92) = false := by rw [← nx_lt hi, h92]; decide
  have HP := Lib.hid hp
  clear hp h92
  by_cases h2 : s.size < i + 2
  · have g2 : decide ((s.size : Int) < (i : Int) + 2) = true := by simp; omega
    go_enter Tryz.func31, Tryz.ntmps31
    go_wp2_with fail
    go_quiet (fail)
    go_wp2
    go_ret2
    exact ⟨below_drewN (Below.refl B w) _ |>.trans (prs_err (HP.out.drew _) _).1, .inl ⟨esc_short h2, ⟨_, _, _, rfl⟩, i, (prs_err (HP.out.drew _) _).2⟩⟩
  have g2 : decide ((s.size : Int) < (i : Int) + 2) = false := by simp; omega
  have hi1 : i + 1 < s.size := by omega
  obtain ⟨x, hxe⟩ : ∃ x, nx s (i + 1) = x := ⟨_, rfl⟩
  have hxl : (s[i + 1].toNat : Int) = x := by rw [← nx_lt hi1]; exact hxe
  by_cases hnl : x = 13 ∨ x = 10 ∨ x = 12
  · have HX := Lib.hid hxe
    have hel : esc s i = none := esc_line h2 (by rw [hxe]; exact hnl)
    have HE := Lib.hid hel
    clear hel hxe
    rcases hnl with h | h | h
    all_goals subst h
    all_goals go_enter Tryz.func31, Tryz.ntmps31
    all_goals go_wp2_with fail
    all_goals go_quiet (fail)
    all_goals go_wp2
    all_goals go_ret2
    all_goals exact ⟨below_drewN (Below.refl B w) _ |>.trans (prs_err (HP.out.drew _) _).1, .inl ⟨HE.out, ⟨_, _, _, rfl⟩, i, (prs_err (HP.out.drew _) _).2⟩⟩
  have g13 : (x == 13) = false := by simp; omega
  have g10 : (x == 10) = false := by simp; omega
  have g12 : (x == 12) = false := by simp; omega
  have hnl' : ¬ (nx s (i + 1) = 13 ∨ nx s (i + 1) = 10 ∨ nx s (i + 1) = 12) := by rw [hxe]; exact hnl
  clear hnl
  cases hhx : isHx x
  · have hel := esc_lit h2 hnl' (by rw [hxe]; exact hhx)
    have HE := Lib.hid (And.intro hel hhx)
    clear hel hhx hnl' hxe
    go_enter Tryz.func31, Tryz.ntmps31
    go_wp2_with fail
    go_quiet (fail)
    go_wp2_with (go_at_call 33; refine (hexDigit_is HE.out.2 _).mono ?_; rintro e w2 ⟨rfl, rfl⟩)
    go_ret2
    exact ⟨World.objAt.setBelow (HP.out.drew _) 1 _ (below_drewN (Below.refl B w) _) (Nat.le_refl _), .inr ⟨_, _, HE.out.1, rfl, (HP.out.drew _).at (i + 2), by omega⟩⟩
  · have hx' : isHx (nx s (i + 1)) = true := by rw [hxe]; exact hhx
    have HC := Lib.hid (And.intro hnl' (And.intro hx' hhx))
    clear hnl' hx' hxe hhx
    go_enter Tryz.func31, Tryz.ntmps31
    go_wp2_with fail
    go_quiet (fail)
    go_wp2_with (go_at_call 33; refine (hexDigit_is HC.out.2.2 _).mono ?_; rintro e w2 ⟨rfl, rfl⟩)
    go_loopw [6] (fun v wr => ∃ j : Nat, v = .int .i64 (j : Int) ∧ i + 1 ≤ j ∧ j ≤ i + 7 ∧ j ≤ s.size ∧ (∀ m, m < j - (i + 1) → isHx (nx s (i + 1 + m)) = true) ∧ Prs wr B s i ∧ Below B w wr) (fun v _ => i + 7 - (intOf v).toNat)
    case atStart => exact ⟨i + 1, by go_num, by omega, by omega, by omega, fun m hm => absurd hm (by omega), HP.out.drew _, below_drewN (Below.refl B w) _⟩
    case round =>
      obtain ⟨j, rfl, hj1, hj7, hjs, hall, hp', hb'⟩ := hrel
      have c0' : wr.cell? ⟨B, 0, none⟩ = some (.string s) := World.objAt.cell hp' (i := 0) rfl
      have c1' : wr.cell? ⟨B, 1, none⟩ = some (.int .i64 (i : Int)) := World.objAt.cell hp' (i := 1) rfl
      have f1' : wr.frozen? ⟨B, 1, none⟩ = false := World.objAt.free hp' 1
      have HALL := Lib.hid hall
      have HP' := Lib.hid hp'
      have HB' := Lib.hid hb'
      clear hall hp' hb'
      by_cases h7 : j < i + 7
      · have g7 : decide ((j : Int) < (i : Int) + 1 + 6) = true := by simp; omega
        by_cases hjz : j < s.size
        · have gz : decide ((j : Int) < (s.size : Int)) = true := by simp [hjz]
          have gzn : decide (j < s.size) = true := by simp [hjz]
          obtain ⟨b, hbj⟩ : ∃ b, isHx (nx s j) = b := ⟨_, rfl⟩
          have hbj' : isHx (s[j].toNat : Int) = b := by rw [← nx_lt hjz]; exact hbj
          have HBJ := Lib.hid (And.intro hbj hbj')
          clear hbj hbj'
          cases b
          · skip
            have hN : hexN s (i + 1) 6 = j - (i + 1) := (by
              have h1 := hexN_of (s := s) (st := i + 1) (j - (i + 1)) HALL.out
              have h2 := hexN_stop h1 (by rw [show i + 1 + (j - (i + 1)) = j by omega]; exact HBJ.out.1) (6 - (j - (i + 1)))
              rwa [show j - (i + 1) + (6 - (j - (i + 1))) = 6 by omega] at h2)
            have hjl : i + 1 < j := by
              rcases Nat.lt_or_ge (i + 1) j with h | h
              · exact h
              · obtain rfl : j = i + 1 := by omega
                rw [Nat.sub_self] at hN
                have h1 := hexN_of (s := s) (st := i + 1) 1 (fun m hm => by rw [show i + 1 + m = i + 1 by omega]; exact HC.out.2.1)
                have h2 := hexN_mono s (i + 1) 1 5
                rw [h1, show 1 + 5 = 6 from rfl, hN] at h2
                omega
            have he := esc_hex (by omega) HC.out.1 HC.out.2.1 hN
            have hle : hexVal s (i + 1) (j - (i + 1)) < 16777216 := Nat.lt_of_lt_of_le (hexVal_lt s (i + 1) (j - (i + 1)) HALL.out) (by
              have : (16 : Nat) ^ (j - (i + 1)) ≤ 16 ^ 6 := Nat.pow_le_pow_right (by decide) (by omega)
              simpa using this)
            rw [show i + 1 + (j - (i + 1)) = j by omega] at he
            obtain ⟨v, hv⟩ : ∃ v, hexVal s (i + 1) (j - (i + 1)) = v := ⟨_, rfl⟩
            rw [hv] at he hle
            have hpu := fun w' => parseUint_is s (i + 1) j (by omega) hjl (by omega) HALL.out w'
            rw [hv] at hpu
            have HPU := Lib.hid hpu
            have HE := Lib.hid he
            clear hN hv hpu he
            go_wp2_with (first | (go_at_call 33; refine (hexDigit_is HBJ.out.2 _).mono ?_; rintro e w2 ⟨rfl, rfl⟩) | (go_at_call 34; refine (HPU.out _).mono ?_; rintro e w' ⟨rfl, hb⟩; have hp' : Prs w' B s i := World.objAt.below HP'.out hb (World.objAt.lt HP'.out); have c0' : w'.cell? ⟨B, 0, none⟩ = some (.string s) := World.objAt.cell hp' (i := 0) rfl; have c1' : w'.cell? ⟨B, 1, none⟩ = some (.int .i64 (i : Int)) := World.objAt.cell hp' (i := 1) rfl; have f1' : w'.frozen? ⟨B, 1, none⟩ = false := World.objAt.free hp' 1; have HQ := Lib.hid (And.intro hp' (HB'.out.trans (hb.mono (Nat.le_of_lt (World.objAt.lt HP'.out))))); clear hp' hb))
            all_goals go_ret2
            all_goals first
              | exact esc_fin (k := j + 2) HQ.out HE.out (ws_2 (by assumption) (by assumption) (by assumption) (by assumption)) (by omega)
              | exact esc_fin (k := j + 1) HQ.out HE.out (ws_1a (by assumption) (by assumption) (by assumption) (by assumption)) (by omega)
              | exact esc_fin (k := j + 1) HQ.out HE.out (ws_1b (by assumption) (by assumption) (by assumption)) (by omega)
              | exact esc_fin (k := j + 1) HQ.out HE.out (ws_1 (by assumption) (.inl (by assumption))) (by omega)
              | exact esc_fin (k := j + 1) HQ.out HE.out (ws_1 (by assumption) (.inr (.inl (by assumption)))) (by omega)
              | exact esc_fin (k := j + 1) HQ.out HE.out (ws_1 (by assumption) (.inr (.inr (.inl (by assumption))))) (by omega)
              | exact esc_fin (k := j + 1) HQ.out HE.out (ws_1 (by assumption) (.inr (.inr (.inr (by assumption))))) (by omega)
              | exact esc_fin (k := j) HQ.out HE.out (ws_0 (by assumption) (by assumption) (by assumption) (by assumption) (by assumption) (by assumption)) (by omega)
              | exact esc_fin (k := j) HQ.out HE.out (ws_end (by omega)) (by omega)
          · go_wp2_with (go_at_call 33; refine (hexDigit_is HBJ.out.2 _).mono ?_; rintro e w2 ⟨rfl, rfl⟩)
            go_roundw
            case rel => exact ⟨j + 1, by go_num, by omega, by omega, by omega, (fun m hm => by
              by_cases hmj : m < j - (i + 1)
              · exact HALL.out m hmj
              · obtain rfl : m = j - (i + 1) := by omega
                rw [show i + 1 + (j - (i + 1)) = j by omega]
                exact HBJ.out.1), HP'.out, HB'.out⟩
            case measure => simp [intOf]; omega
        · have gz : decide ((j : Int) < (s.size : Int)) = false := by simp; omega
          have gzn : decide (j < s.size) = false := by simp; omega
          have hN : hexN s (i + 1) 6 = j - (i + 1) := (by
            have h1 := hexN_of (s := s) (st := i + 1) (j - (i + 1)) HALL.out
            have h2 := hexN_stop h1 (by rw [show i + 1 + (j - (i + 1)) = j by omega]; exact (by rw [nx_end (show s.size ≤ j by omega)]; decide)) (6 - (j - (i + 1)))
            rwa [show j - (i + 1) + (6 - (j - (i + 1))) = 6 by omega] at h2)
          have hjl : i + 1 < j := by
            rcases Nat.lt_or_ge (i + 1) j with h | h
            · exact h
            · obtain rfl : j = i + 1 := by omega
              rw [Nat.sub_self] at hN
              have h1 := hexN_of (s := s) (st := i + 1) 1 (fun m hm => by rw [show i + 1 + m = i + 1 by omega]; exact HC.out.2.1)
              have h2 := hexN_mono s (i + 1) 1 5
              rw [h1, show 1 + 5 = 6 from rfl, hN] at h2
              omega
          have he := esc_hex (by omega) HC.out.1 HC.out.2.1 hN
          have hle : hexVal s (i + 1) (j - (i + 1)) < 16777216 := Nat.lt_of_lt_of_le (hexVal_lt s (i + 1) (j - (i + 1)) HALL.out) (by
            have : (16 : Nat) ^ (j - (i + 1)) ≤ 16 ^ 6 := Nat.pow_le_pow_right (by decide) (by omega)
            simpa using this)
          rw [show i + 1 + (j - (i + 1)) = j by omega] at he
          obtain ⟨v, hv⟩ : ∃ v, hexVal s (i + 1) (j - (i + 1)) = v := ⟨_, rfl⟩
          rw [hv] at he hle
          have hpu := fun w' => parseUint_is s (i + 1) j (by omega) hjl (by omega) HALL.out w'
          rw [hv] at hpu
          have HPU := Lib.hid hpu
          have HE := Lib.hid he
          clear hN hv hpu he
          go_wp2_with (go_at_call 34; refine (HPU.out _).mono ?_; rintro e w' ⟨rfl, hb⟩; have hp' : Prs w' B s i := World.objAt.below HP'.out hb (World.objAt.lt HP'.out); have c0' : w'.cell? ⟨B, 0, none⟩ = some (.string s) := World.objAt.cell hp' (i := 0) rfl; have c1' : w'.cell? ⟨B, 1, none⟩ = some (.int .i64 (i : Int)) := World.objAt.cell hp' (i := 1) rfl; have f1' : w'.frozen? ⟨B, 1, none⟩ = false := World.objAt.free hp' 1; have HQ := Lib.hid (And.intro hp' (HB'.out.trans (hb.mono (Nat.le_of_lt (World.objAt.lt HP'.out))))); clear hp' hb)
          all_goals go_ret2
          all_goals first
            | exact esc_fin (k := j + 2) HQ.out HE.out (ws_2 (by assumption) (by assumption) (by assumption) (by assumption)) (by omega)
            | exact esc_fin (k := j + 1) HQ.out HE.out (ws_1a (by assumption) (by assumption) (by assumption) (by assumption)) (by omega)
            | exact esc_fin (k := j + 1) HQ.out HE.out (ws_1b (by assumption) (by assumption) (by assumption)) (by omega)
            | exact esc_fin (k := j + 1) HQ.out HE.out (ws_1 (by assumption) (.inl (by assumption))) (by omega)
            | exact esc_fin (k := j + 1) HQ.out HE.out (ws_1 (by assumption) (.inr (.inl (by assumption)))) (by omega)
            | exact esc_fin (k := j + 1) HQ.out HE.out (ws_1 (by assumption) (.inr (.inr (.inl (by assumption))))) (by omega)
            | exact esc_fin (k := j + 1) HQ.out HE.out (ws_1 (by assumption) (.inr (.inr (.inr (by assumption))))) (by omega)
            | exact esc_fin (k := j) HQ.out HE.out (ws_0 (by assumption) (by assumption) (by assumption) (by assumption) (by assumption) (by assumption)) (by omega)
            | exact esc_fin (k := j) HQ.out HE.out (ws_end (by omega)) (by omega)
      · have g7 : decide ((j : Int) < (i : Int) + 1 + 6) = false := by simp; omega
        have hN : hexN s (i + 1) 6 = j - (i + 1) := (by
          have h1 := hexN_of (s := s) (st := i + 1) (j - (i + 1)) HALL.out
          rwa [show j - (i + 1) = 6 by omega] at h1 ⊢)
        have hjl : i + 1 < j := by
          rcases Nat.lt_or_ge (i + 1) j with h | h
          · exact h
          · obtain rfl : j = i + 1 := by omega
            rw [Nat.sub_self] at hN
            have h1 := hexN_of (s := s) (st := i + 1) 1 (fun m hm => by rw [show i + 1 + m = i + 1 by omega]; exact HC.out.2.1)
            have h2 := hexN_mono s (i + 1) 1 5
            rw [h1, show 1 + 5 = 6 from rfl, hN] at h2
            omega
        have he := esc_hex (by omega) HC.out.1 HC.out.2.1 hN
        have hle : hexVal s (i + 1) (j - (i + 1)) < 16777216 := Nat.lt_of_lt_of_le (hexVal_lt s (i + 1) (j - (i + 1)) HALL.out) (by
          have : (16 : Nat) ^ (j - (i + 1)) ≤ 16 ^ 6 := Nat.pow_le_pow_right (by decide) (by omega)
          simpa using this)
        rw [show i + 1 + (j - (i + 1)) = j by omega] at he
        obtain ⟨v, hv⟩ : ∃ v, hexVal s (i + 1) (j - (i + 1)) = v := ⟨_, rfl⟩
        rw [hv] at he hle
        have hpu := fun w' => parseUint_is s (i + 1) j (by omega) hjl (by omega) HALL.out w'
        rw [hv] at hpu
        have HPU := Lib.hid hpu
        have HE := Lib.hid he
        clear hN hv hpu he
        go_wp2_with (go_at_call 34; refine (HPU.out _).mono ?_; rintro e w' ⟨rfl, hb⟩; have hp' : Prs w' B s i := World.objAt.below HP'.out hb (World.objAt.lt HP'.out); have c0' : w'.cell? ⟨B, 0, none⟩ = some (.string s) := World.objAt.cell hp' (i := 0) rfl; have c1' : w'.cell? ⟨B, 1, none⟩ = some (.int .i64 (i : Int)) := World.objAt.cell hp' (i := 1) rfl; have f1' : w'.frozen? ⟨B, 1, none⟩ = false := World.objAt.free hp' 1; have HQ := Lib.hid (And.intro hp' (HB'.out.trans (hb.mono (Nat.le_of_lt (World.objAt.lt HP'.out))))); clear hp' hb)
        all_goals go_ret2
        all_goals first
          | exact esc_fin (k := j + 2) HQ.out HE.out (ws_2 (by assumption) (by assumption) (by assumption) (by assumption)) (by omega)
          | exact esc_fin (k := j + 1) HQ.out HE.out (ws_1a (by assumption) (by assumption) (by assumption) (by assumption)) (by omega)
          | exact esc_fin (k := j + 1) HQ.out HE.out (ws_1b (by assumption) (by assumption) (by assumption)) (by omega)
          | exact esc_fin (k := j + 1) HQ.out HE.out (ws_1 (by assumption) (.inl (by assumption))) (by omega)
          | exact esc_fin (k := j + 1) HQ.out HE.out (ws_1 (by assumption) (.inr (.inl (by assumption)))) (by omega)
          | exact esc_fin (k := j + 1) HQ.out HE.out (ws_1 (by assumption) (.inr (.inr (.inl (by assumption))))) (by omega)
          | exact esc_fin (k := j + 1) HQ.out HE.out (ws_1 (by assumption) (.inr (.inr (.inr (by assumption))))) (by omega)
          | exact esc_fin (k := j) HQ.out HE.out (ws_0 (by assumption) (by assumption) (by assumption) (by assumption) (by assumption) (by assumption)) (by omega)
          | exact esc_fin (k := j) HQ.out HE.out (ws_end (by omega)) (by omega)

end Go.Proofs.YtbikpalfhlgnoaaGreatDoor
