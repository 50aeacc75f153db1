/- parseName, parseEscape once more: all blocks but the parser's own are kept. (Printed by gen_namek.py.) -/
import Derived.Test.YtbikpalfhlgnoaaGreatDoorParseEscape
namespace Go.Proofs.YtbikpalfhlgnoaaGreatDoor
open Go.RowKit
set_option linter.unusedVariables false
set_option linter.unusedSimpArgs false

/-- Only block B, and what is new, may differ. -/
structure Keep (B : Nat) (w w' : World) : Prop where
  below : Below B w w'
  rest : ∀ b, B < b → b < w.heap.size → w'.heap[b]? = w.heap[b]?

theorem Keep.refl (B : Nat) (w : World) : Keep B w w := ⟨Below.refl _ _, fun _ _ _ => rfl⟩
theorem Keep.trans {B : Nat} {a b c : World} (h : Keep B a b) (k : Keep B b c) : Keep B a c :=
  ⟨h.below.trans k.below, fun i h1 h2 => (k.rest i h1 (Nat.lt_of_lt_of_le h2 h.below.size)).trans (h.rest i h1 h2)⟩
theorem Keep.of {B : Nat} {w w' : World} (h : Below w.heap.size w w') (hB : B ≤ w.heap.size) : Keep B w w' :=
  ⟨h.mono hB, fun b _ hb => h.block b hb⟩
theorem keep_drewN {B : Nat} {a w : World} (h : Keep B a w) (n : Nat) : Keep B a (w.drewN n) :=
  ⟨below_drewN h.below n, fun b h1 h2 => by rw [World.heap_drewN]; exact h.rest b h1 h2⟩
theorem World.objAt.setKeep {w : World} {b : Nat} {cs : Array Value} {t : TypeId} (h : World.objAt w b cs t) (i : Nat) (v : Value) {a : World} (ha : Keep b a w) (hb : b ≤ b) : Keep b a (w.setCell ⟨b, i, none⟩ v) :=
  ⟨World.objAt.setBelow h i v ha.below hb, fun k h1 h2 => by
    rw [setCell_heap h]
    exact (Array.getElem?_setIfInBounds_ne (by omega)).trans (ha.rest k h1 h2)⟩
/-- An object behind is kept. -/
theorem World.objAt.keep {w w' : World} {B b : Nat} {cs : Array Value} {t : TypeId} (h : World.objAt w b cs t) (hk : Keep B w w') (hb : B < b) : World.objAt w' b cs t := by
  have hlt := World.objAt.lt h
  unfold World.objAt at h ⊢
  rw [hk.rest b hb hlt]
  exact h

/-- What parseEscape answers. -/
def EscPostK (s : ByteArray) (B i : Nat) (w : World) (e : Ending) (w' : World) : Prop :=
  Keep B w w' ∧ ((esc s i = none ∧ Fails e ∧ ∃ k, Prs w' B s k) ∨ ∃ a j, esc s i = some (a, j) ∧ e = .returned (.tuple #[.string a, .nilIface]) ∧ Prs w' B s j ∧ j ≤ s.size)

/-- parseEscape answers so, at every escape. -/
def EscAnswersK (s : ByteArray) (B : Nat) : Prop := ∀ i w, i < s.size → nx s i = 92 → Prs w B s i → Calls Tryz.prog 31 #[.pointer (some ⟨B, 0, none⟩)] w (EscPostK s B i w)

/-- What parseName answers. -/
def NamePostK (s : ByteArray) (B k0 : Nat) (w : World) (e : Ending) (w' : World) : Prop :=
  Keep B w w' ∧ (((pn s k0 ByteArray.empty = none ∨ ∃ j, pn s k0 ByteArray.empty = some (ByteArray.empty, j)) ∧ Fails e ∧ ∃ k, Prs w' B s k) ∨
    ∃ out j, pn s k0 ByteArray.empty = some (out, j) ∧ out ≠ ByteArray.empty ∧ j ≤ s.size ∧ e = .returned (.tuple #[.string out, .nilIface]) ∧ Prs w' B s j)

theorem prs_errK {w : World} {B : Nat} {s : ByteArray} {k : Nat} (h : Prs w B s k) (o : Obj) : Keep B w (w.alloc o) ∧ Prs (w.alloc o) B s k := by
  have hlt := World.objAt.lt h
  have hb : Below w.heap.size w (w.alloc o) := (Below.refl w.heap.size w).alloc (Nat.le_refl _) o
  exact ⟨Keep.of hb (Nat.le_of_lt hlt), World.objAt.below h hb hlt⟩

set_option maxRecDepth 100000 in
set_option maxHeartbeats 8000000 in
theorem parseName_ofK (s : ByteArray) (B k0 : Nat) (w : World) (hs : s.size ≤ 4000) (hk0 : k0 ≤ s.size) (h : Prs w B s k0) (hesc : EscAnswersK s B) :
    Calls Tryz.prog 24 #[.pointer (some ⟨B, 0, none⟩)] w (NamePostK s B k0 w) := by
  have c1 : w.cell? ⟨B, 1, none⟩ = some (.int .i64 (k0 : Int)) := h.cell (i := 1) rfl
  have HW := Lib.hid h
  have HESC := Lib.hid hesc
  clear h hesc
  go_enter Tryz.func24, Tryz.ntmps24
  go_wp2
  go_step3
  go_wp2
  go_step3
  go_wp2
  go_loopw [2, 4] (fun r i wr => ∃ (k q : Nat) (out : ByteArray), r = .string out ∧ i = .int .i64 (k : Int) ∧ k ≤ s.size ∧ pn s k0 ByteArray.empty = pn s k out ∧ Prs wr B s q ∧ Keep B w wr ∧ out.size ≤ 4 * k) (fun _ i _ => s.size - (intOf i).toNat)
  case atStart => exact ⟨k0, k0, ByteArray.empty, rfl, by go_num, hk0, rfl, HW.out, Keep.refl _ _, by simp⟩
  case round =>
    obtain ⟨k, q, out, rfl, rfl, hk, hpn, hp, hb, hos⟩ := hrel
    have c0 : wr.cell? ⟨B, 0, none⟩ = some (.string s) := hp.cell (i := 0) rfl
    have c1 : wr.cell? ⟨B, 1, none⟩ = some (.int .i64 (q : Int)) := hp.cell (i := 1) rfl
    have f1 : wr.frozen? ⟨B, 1, none⟩ = false := hp.free 1
    have HPN := Lib.hid hpn
    have HP := Lib.hid hp
    have HB := Lib.hid hb
    clear hpn hp hb
    by_cases hlt : k < s.size
    · have g0 : decide ((k : Int) < (s.size : Int)) = true := by simp [hlt]
      have g0n : decide (k < s.size) = true := by simp [hlt]
      obtain ⟨b, hbc⟩ : ∃ b, isNc (nx s k) = b := ⟨_, rfl⟩
      have hbc' : isNc (s[k].toNat : Int) = b := by rw [← nx_lt hlt]; exact hbc
      have HBC := Lib.hid (And.intro hbc hbc')
      clear hbc hbc'
      cases b
      · by_cases h92 : nx s k = 92
        · have g92 : ((s[k].toNat : Int) == 92) = true := by rw [← nx_lt hlt]; simp [h92]
          have hes := HESC.out k (wr.setCell ⟨B, 1, none⟩ (.int .i64 (k : Int))) hlt h92 (HP.out.at k)
          have HES := Lib.hid hes
          have H92 := Lib.hid h92
          clear hes h92
          go_wp2_with (go_at_call 30; refine (nameChar_is HBC.out.2 _).mono ?_; rintro e w2 ⟨rfl, rfl⟩)
          refine HES.out.mono ?_
          rintro e w3 ⟨hb3, ⟨he, ⟨v, ty, qq, rfl⟩, kk, hk3⟩ | ⟨a, j, he, rfl, hp3, hj⟩⟩
          · have HE := Lib.hid (And.intro he (And.intro hb3 hk3))
            clear he hb3 hk3
            go_wp2
            rw [Exit.noGoto_ret]
            go_ret2
            exact ⟨(World.objAt.setKeep HP.out 1 _ HB.out (Nat.le_refl _)).trans HE.out.2.1, .inl ⟨.inl (HPN.out.trans (pn_none hlt H92.out HE.out.1)), ⟨_, _, _, rfl⟩, kk, HE.out.2.2⟩⟩
          · have c1' : w3.cell? ⟨B, 1, none⟩ = some (.int .i64 (j : Int)) := hp3.cell (i := 1) rfl
            have hkj := esc_lt he
            have has := esc_size he
            have hcat : out.size + a.size ≤ 9223372036854775807 := by omega
            have HE := Lib.hid (And.intro he (And.intro hb3 hp3))
            clear he hb3 hp3
            go_wp2
            refine ⟨?rel, ?measure⟩
            case rel => exact ⟨j, j, out ++ a, rfl, by go_num, hj, HPN.out.trans (pn_some hlt H92.out HE.out.1), HE.out.2.2, (World.objAt.setKeep HP.out 1 _ HB.out (Nat.le_refl _)).trans HE.out.2.1, by rw [ByteArray.size_append]; omega⟩
            case measure => simp [intOf]; omega
        · have g92 : ((s[k].toNat : Int) == 92) = false := by rw [← nx_lt hlt]; simp [h92]
          have H92 := Lib.hid h92
          clear h92
          cases hoe : out.toList.isEmpty
          · have HOE := Lib.hid (not_empty_of hoe)
            go_wp2_with (go_at_call 30; refine (nameChar_is HBC.out.2 _).mono ?_; rintro e w2 ⟨rfl, rfl⟩)
            rw [Exit.noGoto_ret]
            go_ret2
            exact ⟨World.objAt.setKeep HP.out 1 _ HB.out (Nat.le_refl _), .inr ⟨out, k, HPN.out.trans (pn_stop HBC.out.1 H92.out), HOE.out, hk, rfl, HP.out.at k⟩⟩
          · have HOE := Lib.hid (empty_of hoe)
            go_wp2_with (first | (go_at_call 30; refine (nameChar_is HBC.out.2 _).mono ?_; rintro e w2 ⟨rfl, rfl⟩) | go_in)
            rw [Exit.noGoto_ret]
            go_ret2
            exact ⟨HB.out.trans (prs_errK HP.out _).1, .inl ⟨.inr ⟨k, by rw [HPN.out, (pn_stop HBC.out.1 H92.out), HOE.out]⟩, ⟨_, _, _, rfl⟩, q, (prs_errK HP.out _).2⟩⟩
      · go_wp2_with (go_at_call 30; refine (nameChar_is HBC.out.2 _).mono ?_; rintro e w2 ⟨rfl, rfl⟩)
        go_loopw [4] (fun i wr' => ∃ j : Nat, i = .int .i64 (j : Int) ∧ k ≤ j ∧ j ≤ s.size ∧ (∀ m, k ≤ m → m < j → isNc (nx s m) = true) ∧ Prs wr' B s q ∧ Keep B w wr') (fun i _ => s.size - (intOf i).toNat)
        case atStart => exact ⟨k, by go_num, by omega, by omega, fun m h1 h2 => absurd h2 (by omega), HP.out, HB.out⟩
        case round =>
          obtain ⟨j, rfl, hkj, hj, hall, hp', hb'⟩ := hrel
          have c0' := World.objAt.cell hp' (i := 0) (v := .string s) rfl
          have HALL := Lib.hid hall
          have HP' := Lib.hid hp'
          have HB' := Lib.hid hb'
          clear hall hp' hb'
          by_cases hjl : j < s.size
          · have g1 : decide ((j : Int) < (s.size : Int)) = true := by simp [hjl]
            have g1n : decide (j < s.size) = true := by simp [hjl]
            obtain ⟨b, hbj⟩ : ∃ b, isNc (nx s j) = b := ⟨_, rfl⟩
            have hbj' : isNc (s[j].toNat : Int) = b := by rw [← nx_lt hjl]; exact hbj
            have HBJ := Lib.hid (And.intro hbj hbj')
            clear hbj hbj'
            cases b
            · have hkne : k < j := by
                rcases Nat.lt_or_ge k j with h | h
                · exact h
                · obtain rfl : k = j := by omega
                  have h1 := HBJ.out.1
                  rw [HBC.out.1] at h1
                  cases h1
              have hcat : out.size + (s.extract k j).size ≤ 9223372036854775807 := by rw [ByteArray.size_extract]; omega
              go_wp2_with (go_at_call 30; refine (nameChar_is HBJ.out.2 _).mono ?_; rintro e w2 ⟨rfl, rfl⟩)
              refine ⟨?rel, ?measure⟩
              case rel => exact ⟨j, q, out ++ s.extract k j, rfl, by go_num, by omega, HPN.out.trans (pn_run j (by omega) (by omega) HALL.out), HP'.out, HB'.out, by rw [ByteArray.size_append, ByteArray.size_extract]; omega⟩
              case measure => simp [intOf]; omega
            · go_wp2_with (go_at_call 30; refine (nameChar_is HBJ.out.2 _).mono ?_; rintro e w2 ⟨rfl, rfl⟩)
              go_roundw
              case rel => exact ⟨j + 1, by go_num, by omega, by omega, (fun m h1 h2 => by
                by_cases hm : m < j
                · exact HALL.out m h1 hm
                · obtain rfl : m = j := by omega
                  exact HBJ.out.1), HP'.out, HB'.out⟩
              case measure => simp [intOf]; omega
          · have g1 : decide ((j : Int) < (s.size : Int)) = false := by simp; omega
            have g1n : decide (j < s.size) = false := by simp; omega
            have hcat : out.size + (s.extract k j).size ≤ 9223372036854775807 := by rw [ByteArray.size_extract]; omega
            go_wp2_with fail
            refine ⟨?rel, ?measure⟩
            case rel => exact ⟨j, q, out ++ s.extract k j, rfl, by go_num, by omega, HPN.out.trans (pn_run j (by omega) (by omega) HALL.out), HP'.out, HB'.out, by rw [ByteArray.size_append, ByteArray.size_extract]; omega⟩
            case measure => simp [intOf]; omega
    · have g0 : decide ((k : Int) < (s.size : Int)) = false := by simp; omega
      have g0n : decide (k < s.size) = false := by simp; omega
      cases hoe : out.toList.isEmpty
      · have HOE := Lib.hid (not_empty_of hoe)
        go_wp2_with fail
        rw [Exit.noGoto_ret]
        go_ret2
        exact ⟨World.objAt.setKeep HP.out 1 _ HB.out (Nat.le_refl _), .inr ⟨out, k, HPN.out.trans (pn_end (show s.size ≤ k by omega)), HOE.out, hk, rfl, HP.out.at k⟩⟩
      · have HOE := Lib.hid (empty_of hoe)
        go_wp2
        rw [Exit.noGoto_ret]
        go_ret2
        exact ⟨HB.out.trans (prs_errK HP.out _).1, .inl ⟨.inr ⟨k, by rw [HPN.out, (pn_end (show s.size ≤ k by omega)), HOE.out]⟩, ⟨_, _, _, rfl⟩, q, (prs_errK HP.out _).2⟩⟩

theorem esc_finK {s : ByteArray} {B i j k v : Nat} {w w' : World} (hq : Prs w' B s i ∧ Keep B w w') (he : esc s i = some (Utf8.encode (v : Int), wsSkip s j)) (hk : wsSkip s j = k) (hks : k ≤ s.size) :
    EscPostK s B i w (.returned (.tuple #[.string (Utf8.encode (v : Int)), .nilIface])) (w'.setCell ⟨B, 1, none⟩ (.int .i64 (k : Int))) :=
  ⟨World.objAt.setKeep hq.1 1 _ hq.2 (Nat.le_refl _), .inr ⟨_, k, by rw [he, hk], rfl, hq.1.at k, hks⟩⟩

set_option maxRecDepth 100000 in
set_option maxHeartbeats 8000000 in
theorem parseEscape_anyK (s : ByteArray) (B : Nat) (hs : s.size ≤ 4000) : EscAnswersK s B := by
  intro i w hi h92 hp
  have c0 : w.cell? ⟨B, 0, none⟩ = some (.string s) := World.objAt.cell hp (i := 0) rfl
  have c1 : w.cell? ⟨B, 1, none⟩ = some (.int .i64 (i : Int)) := World.objAt.cell hp (i := 1) rfl
  have f1 : w.frozen? ⟨B, 1, none⟩ = false := World.objAt.free hp 1
  have g92 : ((s[i].toNat : Int) != 92) = false := by rw [← nx_lt hi, h92]; decide
  have HP := Lib.hid hp
  clear hp h92
  by_cases h2 : s.size < i + 2
  · have g2 : decide ((s.size : Int) < (i : Int) + 2) = true := by simp; omega
    go_enter Tryz.func31, Tryz.ntmps31
    go_wp2_with fail
    go_quiet (fail)
    go_wp2
    go_ret2
    exact ⟨keep_drewN (Keep.refl B w) _ |>.trans (prs_errK (HP.out.drew _) _).1, .inl ⟨esc_short h2, ⟨_, _, _, rfl⟩, i, (prs_errK (HP.out.drew _) _).2⟩⟩
  have g2 : decide ((s.size : Int) < (i : Int) + 2) = false := by simp; omega
  have hi1 : i + 1 < s.size := by omega
  obtain ⟨x, hxe⟩ : ∃ x, nx s (i + 1) = x := ⟨_, rfl⟩
  have hxl : (s[i + 1].toNat : Int) = x := by rw [← nx_lt hi1]; exact hxe
  by_cases hnl : x = 13 ∨ x = 10 ∨ x = 12
  · have HX := Lib.hid hxe
    have hel : esc s i = none := esc_line h2 (by rw [hxe]; exact hnl)
    have HE := Lib.hid hel
    clear hel hxe
    rcases hnl with h | h | h
    all_goals subst h
    all_goals go_enter Tryz.func31, Tryz.ntmps31
    all_goals go_wp2_with fail
    all_goals go_quiet (fail)
    all_goals go_wp2
    all_goals go_ret2
    all_goals exact ⟨keep_drewN (Keep.refl B w) _ |>.trans (prs_errK (HP.out.drew _) _).1, .inl ⟨HE.out, ⟨_, _, _, rfl⟩, i, (prs_errK (HP.out.drew _) _).2⟩⟩
  have g13 : (x == 13) = false := by simp; omega
  have g10 : (x == 10) = false := by simp; omega
  have g12 : (x == 12) = false := by simp; omega
  have hnl' : ¬ (nx s (i + 1) = 13 ∨ nx s (i + 1) = 10 ∨ nx s (i + 1) = 12) := by rw [hxe]; exact hnl
  clear hnl
  cases hhx : isHx x
  · have hel := esc_lit h2 hnl' (by rw [hxe]; exact hhx)
    have HE := Lib.hid (And.intro hel hhx)
    clear hel hhx hnl' hxe
    go_enter Tryz.func31, Tryz.ntmps31
    go_wp2_with fail
    go_quiet (fail)
    go_wp2_with (go_at_call 33; refine (hexDigit_is HE.out.2 _).mono ?_; rintro e w2 ⟨rfl, rfl⟩)
    go_ret2
    exact ⟨World.objAt.setKeep (HP.out.drew _) 1 _ (keep_drewN (Keep.refl B w) _) (Nat.le_refl _), .inr ⟨_, _, HE.out.1, rfl, (HP.out.drew _).at (i + 2), by omega⟩⟩
  · have hx' : isHx (nx s (i + 1)) = true := by rw [hxe]; exact hhx
    have HC := Lib.hid (And.intro hnl' (And.intro hx' hhx))
    clear hnl' hx' hxe hhx
    go_enter Tryz.func31, Tryz.ntmps31
    go_wp2_with fail
    go_quiet (fail)
    go_wp2_with (go_at_call 33; refine (hexDigit_is HC.out.2.2 _).mono ?_; rintro e w2 ⟨rfl, rfl⟩)
    go_loopw [6] (fun v wr => ∃ j : Nat, v = .int .i64 (j : Int) ∧ i + 1 ≤ j ∧ j ≤ i + 7 ∧ j ≤ s.size ∧ (∀ m, m < j - (i + 1) → isHx (nx s (i + 1 + m)) = true) ∧ Prs wr B s i ∧ Keep B w wr) (fun v _ => i + 7 - (intOf v).toNat)
    case atStart => exact ⟨i + 1, by go_num, by omega, by omega, by omega, fun m hm => absurd hm (by omega), HP.out.drew _, keep_drewN (Keep.refl B w) _⟩
    case round =>
      obtain ⟨j, rfl, hj1, hj7, hjs, hall, hp', hb'⟩ := hrel
      have c0' : wr.cell? ⟨B, 0, none⟩ = some (.string s) := World.objAt.cell hp' (i := 0) rfl
      have c1' : wr.cell? ⟨B, 1, none⟩ = some (.int .i64 (i : Int)) := World.objAt.cell hp' (i := 1) rfl
      have f1' : wr.frozen? ⟨B, 1, none⟩ = false := World.objAt.free hp' 1
      have HALL := Lib.hid hall
      have HP' := Lib.hid hp'
      have HB' := Lib.hid hb'
      clear hall hp' hb'
      by_cases h7 : j < i + 7
      · have g7 : decide ((j : Int) < (i : Int) + 1 + 6) = true := by simp; omega
        by_cases hjz : j < s.size
        · have gz : decide ((j : Int) < (s.size : Int)) = true := by simp [hjz]
          have gzn : decide (j < s.size) = true := by simp [hjz]
          obtain ⟨b, hbj⟩ : ∃ b, isHx (nx s j) = b := ⟨_, rfl⟩
          have hbj' : isHx (s[j].toNat : Int) = b := by rw [← nx_lt hjz]; exact hbj
          have HBJ := Lib.hid (And.intro hbj hbj')
          clear hbj hbj'
          cases b
          · skip
            have hN : hexN s (i + 1) 6 = j - (i + 1) := (by
              have h1 := hexN_of (s := s) (st := i + 1) (j - (i + 1)) HALL.out
              have h2 := hexN_stop h1 (by rw [show i + 1 + (j - (i + 1)) = j by omega]; exact HBJ.out.1) (6 - (j - (i + 1)))
              rwa [show j - (i + 1) + (6 - (j - (i + 1))) = 6 by omega] at h2)
            have hjl : i + 1 < j := by
              rcases Nat.lt_or_ge (i + 1) j with h | h
              · exact h
              · obtain rfl : j = i + 1 := by omega
                rw [Nat.sub_self] at hN
                have h1 := hexN_of (s := s) (st := i + 1) 1 (fun m hm => by rw [show i + 1 + m = i + 1 by omega]; exact HC.out.2.1)
                have h2 := hexN_mono s (i + 1) 1 5
                rw [h1, show 1 + 5 = 6 from rfl, hN] at h2
                omega
            have he := esc_hex (by omega) HC.out.1 HC.out.2.1 hN
            have hle : hexVal s (i + 1) (j - (i + 1)) < 16777216 := Nat.lt_of_lt_of_le (hexVal_lt s (i + 1) (j - (i + 1)) HALL.out) (by
              have : (16 : Nat) ^ (j - (i + 1)) ≤ 16 ^ 6 := Nat.pow_le_pow_right (by decide) (by omega)
              simpa using this)
            rw [show i + 1 + (j - (i + 1)) = j by omega] at he
            obtain ⟨v, hv⟩ : ∃ v, hexVal s (i + 1) (j - (i + 1)) = v := ⟨_, rfl⟩
            rw [hv] at he hle
            have hpu := fun w' => parseUint_is s (i + 1) j (by omega) hjl (by omega) HALL.out w'
            rw [hv] at hpu
            have HPU := Lib.hid hpu
            have HE := Lib.hid he
            clear hN hv hpu he
            go_wp2_with (first | (go_at_call 33; refine (hexDigit_is HBJ.out.2 _).mono ?_; rintro e w2 ⟨rfl, rfl⟩) | (go_at_call 34; refine (HPU.out _).mono ?_; rintro e w' ⟨rfl, hb⟩; have hp' : Prs w' B s i := World.objAt.below HP'.out hb (World.objAt.lt HP'.out); have c0' : w'.cell? ⟨B, 0, none⟩ = some (.string s) := World.objAt.cell hp' (i := 0) rfl; have c1' : w'.cell? ⟨B, 1, none⟩ = some (.int .i64 (i : Int)) := World.objAt.cell hp' (i := 1) rfl; have f1' : w'.frozen? ⟨B, 1, none⟩ = false := World.objAt.free hp' 1; have HQ := Lib.hid (And.intro hp' (HB'.out.trans (Keep.of hb (Nat.le_of_lt (World.objAt.lt HP'.out))))); clear hp' hb))
            all_goals go_ret2
            all_goals first
              | exact esc_finK (k := j + 2) HQ.out HE.out (ws_2 (by assumption) (by assumption) (by assumption) (by assumption)) (by omega)
              | exact esc_finK (k := j + 1) HQ.out HE.out (ws_1a (by assumption) (by assumption) (by assumption) (by assumption)) (by omega)
              | exact esc_finK (k := j + 1) HQ.out HE.out (ws_1b (by assumption) (by assumption) (by assumption)) (by omega)
              | exact esc_finK (k := j + 1) HQ.out HE.out (ws_1 (by assumption) (.inl (by assumption))) (by omega)
              | exact esc_finK (k := j + 1) HQ.out HE.out (ws_1 (by assumption) (.inr (.inl (by assumption)))) (by omega)
              | exact esc_finK (k := j + 1) HQ.out HE.out (ws_1 (by assumption) (.inr (.inr (.inl (by assumption))))) (by omega)
              | exact esc_finK (k := j + 1) HQ.out HE.out (ws_1 (by assumption) (.inr (.inr (.inr (by assumption))))) (by omega)
              | exact esc_finK (k := j) HQ.out HE.out (ws_0 (by assumption) (by assumption) (by assumption) (by assumption) (by assumption) (by assumption)) (by omega)
              | exact esc_finK (k := j) HQ.out HE.out (ws_end (by omega)) (by omega)
          · go_wp2_with (go_at_call 33; refine (hexDigit_is HBJ.out.2 _).mono ?_; rintro e w2 ⟨rfl, rfl⟩)
            go_roundw
            case rel => exact ⟨j + 1, by go_num, by omega, by omega, by omega, (fun m hm => by
              by_cases hmj : m < j - (i + 1)
              · exact HALL.out m hmj
              · obtain rfl : m = j - (i + 1) := by omega
                rw [show i + 1 + (j - (i + 1)) = j by omega]
                exact HBJ.out.1), HP'.out, HB'.out⟩
            case measure => simp [intOf]; omega
        · have gz : decide ((j : Int) < (s.size : Int)) = false := by simp; omega
          have gzn : decide (j < s.size) = false := by simp; omega
          have hN : hexN s (i + 1) 6 = j - (i + 1) := (by
            have h1 := hexN_of (s := s) (st := i + 1) (j - (i + 1)) HALL.out
            have h2 := hexN_stop h1 (by rw [show i + 1 + (j - (i + 1)) = j by omega]; exact (by rw [nx_end (show s.size ≤ j by omega)]; decide)) (6 - (j - (i + 1)))
            rwa [show j - (i + 1) + (6 - (j - (i + 1))) = 6 by omega] at h2)
          have hjl : i + 1 < j := by
            rcases Nat.lt_or_ge (i + 1) j with h | h
            · exact h
            · obtain rfl : j = i + 1 := by omega
              rw [Nat.sub_self] at hN
              have h1 := hexN_of (s := s) (st := i + 1) 1 (fun m hm => by rw [show i + 1 + m = i + 1 by omega]; exact HC.out.2.1)
              have h2 := hexN_mono s (i + 1) 1 5
              rw [h1, show 1 + 5 = 6 from rfl, hN] at h2
              omega
          have he := esc_hex (by omega) HC.out.1 HC.out.2.1 hN
          have hle : hexVal s (i + 1) (j - (i + 1)) < 16777216 := Nat.lt_of_lt_of_le (hexVal_lt s (i + 1) (j - (i + 1)) HALL.out) (by
            have : (16 : Nat) ^ (j - (i + 1)) ≤ 16 ^ 6 := Nat.pow_le_pow_right (by decide) (by omega)
            simpa using this)
          rw [show i + 1 + (j - (i + 1)) = j by omega] at he
          obtain ⟨v, hv⟩ : ∃ v, hexVal s (i + 1) (j - (i + 1)) = v := ⟨_, rfl⟩
          rw [hv] at he hle
          have hpu := fun w' => parseUint_is s (i + 1) j (by omega) hjl (by omega) HALL.out w'
          rw [hv] at hpu
          have HPU := Lib.hid hpu
          have HE := Lib.hid he
          clear hN hv hpu he
          go_wp2_with (go_at_call 34; refine (HPU.out _).mono ?_; rintro e w' ⟨rfl, hb⟩; have hp' : Prs w' B s i := World.objAt.below HP'.out hb (World.objAt.lt HP'.out); have c0' : w'.cell? ⟨B, 0, none⟩ = some (.string s) := World.objAt.cell hp' (i := 0) rfl; have c1' : w'.cell? ⟨B, 1, none⟩ = some (.int .i64 (i : Int)) := World.objAt.cell hp' (i := 1) rfl; have f1' : w'.frozen? ⟨B, 1, none⟩ = false := World.objAt.free hp' 1; have HQ := Lib.hid (And.intro hp' (HB'.out.trans (Keep.of hb (Nat.le_of_lt (World.objAt.lt HP'.out))))); clear hp' hb)
          all_goals go_ret2
          all_goals first
            | exact esc_finK (k := j + 2) HQ.out HE.out (ws_2 (by assumption) (by assumption) (by assumption) (by assumption)) (by omega)
            | exact esc_finK (k := j + 1) HQ.out HE.out (ws_1a (by assumption) (by assumption) (by assumption) (by assumption)) (by omega)
            | exact esc_finK (k := j + 1) HQ.out HE.out (ws_1b (by assumption) (by assumption) (by assumption)) (by omega)
            | exact esc_finK (k := j + 1) HQ.out HE.out (ws_1 (by assumption) (.inl (by assumption))) (by omega)
            | exact esc_finK (k := j + 1) HQ.out HE.out (ws_1 (by assumption) (.inr (.inl (by assumption)))) (by omega)
            | exact esc_finK (k := j + 1) HQ.out HE.out (ws_1 (by assumption) (.inr (.inr (.inl (by assumption))))) (by omega)
            | exact esc_finK (k := j + 1) HQ.out HE.out (ws_1 (by assumption) (.inr (.inr (.inr (by assumption))))) (by omega)
            | exact esc_finK (k := j) HQ.out HE.out (ws_0 (by assumption) (by assumption) (by assumption) (by assumption) (by assumption) (by assumption)) (by omega)
            | exact esc_finK (k := j) HQ.out HE.out (ws_end (by omega)) (by omega)
      · have g7 : decide ((j : Int) < (i : Int) + 1 + 6) = false := by simp; omega
        have hN : hexN s (i + 1) 6 = j - (i + 1) := (by
          have h1 := hexN_of (s := s) (st := i + 1) (j - (i + 1)) HALL.out
          rwa [show j - (i + 1) = 6 by omega] at h1 ⊢)
        have hjl : i + 1 < j := by
          rcases Nat.lt_or_ge (i + 1) j with h | h
          · exact h
          · obtain rfl : j = i + 1 := by omega
            rw [Nat.sub_self] at hN
            have h1 := hexN_of (s := s) (st := i + 1) 1 (fun m hm => by rw [show i + 1 + m = i + 1 by omega]; exact HC.out.2.1)
            have h2 := hexN_mono s (i + 1) 1 5
            rw [h1, show 1 + 5 = 6 from rfl, hN] at h2
            omega
        have he := esc_hex (by omega) HC.out.1 HC.out.2.1 hN
        have hle : hexVal s (i + 1) (j - (i + 1)) < 16777216 := Nat.lt_of_lt_of_le (hexVal_lt s (i + 1) (j - (i + 1)) HALL.out) (by
          have : (16 : Nat) ^ (j - (i + 1)) ≤ 16 ^ 6 := Nat.pow_le_pow_right (by decide) (by omega)
          simpa using this)
        rw [show i + 1 + (j - (i + 1)) = j by omega] at he
        obtain ⟨v, hv⟩ : ∃ v, hexVal s (i + 1) (j - (i + 1)) = v := ⟨_, rfl⟩
        rw [hv] at he hle
        have hpu := fun w' => parseUint_is s (i + 1) j (by omega) hjl (by omega) HALL.out w'
        rw [hv] at hpu
        have HPU := Lib.hid hpu
        have HE := Lib.hid he
        clear hN hv hpu he
        go_wp2_with (go_at_call 34; refine (HPU.out _).mono ?_; rintro e w' ⟨rfl, hb⟩; have hp' : Prs w' B s i := World.objAt.below HP'.out hb (World.objAt.lt HP'.out); have c0' : w'.cell? ⟨B, 0, none⟩ = some (.string s) := World.objAt.cell hp' (i := 0) rfl; have c1' : w'.cell? ⟨B, 1, none⟩ = some (.int .i64 (i : Int)) := World.objAt.cell hp' (i := 1) rfl; have f1' : w'.frozen? ⟨B, 1, none⟩ = false := World.objAt.free hp' 1; have HQ := Lib.hid (And.intro hp' (HB'.out.trans (Keep.of hb (Nat.le_of_lt (World.objAt.lt HP'.out))))); clear hp' hb)
        all_goals go_ret2
        all_goals first
          | exact esc_finK (k := j + 2) HQ.out HE.out (ws_2 (by assumption) (by assumption) (by assumption) (by assumption)) (by omega)
          | exact esc_finK (k := j + 1) HQ.out HE.out (ws_1a (by assumption) (by assumption) (by assumption) (by assumption)) (by omega)
          | exact esc_finK (k := j + 1) HQ.out HE.out (ws_1b (by assumption) (by assumption) (by assumption)) (by omega)
          | exact esc_finK (k := j + 1) HQ.out HE.out (ws_1 (by assumption) (.inl (by assumption))) (by omega)
          | exact esc_finK (k := j + 1) HQ.out HE.out (ws_1 (by assumption) (.inr (.inl (by assumption)))) (by omega)
          | exact esc_finK (k := j + 1) HQ.out HE.out (ws_1 (by assumption) (.inr (.inr (.inl (by assumption))))) (by omega)
          | exact esc_finK (k := j + 1) HQ.out HE.out (ws_1 (by assumption) (.inr (.inr (.inr (by assumption))))) (by omega)
          | exact esc_finK (k := j) HQ.out HE.out (ws_0 (by assumption) (by assumption) (by assumption) (by assumption) (by assumption) (by assumption)) (by omega)
          | exact esc_finK (k := j) HQ.out HE.out (ws_end (by omega)) (by omega)

end Go.Proofs.YtbikpalfhlgnoaaGreatDoor
