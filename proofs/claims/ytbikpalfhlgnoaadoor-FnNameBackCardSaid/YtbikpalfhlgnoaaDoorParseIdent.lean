/- cascadia's parser.parseIdentifier; impl.ReadIdentifier. -/
import Derived.Test.YtbikpalfhlgnoaaDoorParseEscape
import Derived.Test.YtbikpalfhlgnoaaDoorSigned
import Derived.Test.YtbikpalfhlgnoaaDoorNameStart
import Derived.Test.YtbikpalfhlgnoaaDoorRepeat
namespace Go.Proofs.YtbikpalfhlgnoaaDoor
open Go.RowKit
set_option linter.unusedVariables false
set_option linter.unusedSimpArgs false

/-- The hyphens at the beginning end at m. -/
def Hyph (s : ByteArray) (m : Nat) : Prop := m ≤ s.size ∧ (∀ i, i < m → nx s i = 45) ∧ nx s m ≠ 45

theorem Hyph.unique {s : ByteArray} {m n : Nat} (h : Hyph s m) (h' : Hyph s n) : m = n := by
  rcases Nat.lt_trichotomy m n with hl | rfl | hl
  · exact absurd (h'.2.1 m hl) h.2.2
  · rfl
  · exact absurd (h.2.1 n hl) h'.2.2

/-- A name may begin at a place. -/
def startOk (s : ByteArray) (m : Nat) : Prop := m < s.size ∧ (isNs (nx s m) = true ∨ nx s m = 92)

def IdentBad (s : ByteArray) (m : Nat) : Prop := ¬ startOk s m ∨ pn s m ByteArray.empty = none ∨ ∃ j, pn s m ByteArray.empty = some (ByteArray.empty, j)

theorem repeat_hyphens {s : ByteArray} {m : Nat} (h : Hyph s m) : (⟨(Lib.repeatL ((⟨#[45]⟩ : ByteArray).data.toList) m).toArray⟩ : ByteArray) = s.extract 0 m := by
  have hr : ∀ k, Lib.repeatL [45] k = List.replicate k 45 := by
    intro k
    induction k with
    | zero => rfl
    | succ k ih => simp only [Lib.repeatL, ih, List.replicate_succ]; rfl
  have hl : s.data.toList.take m = List.replicate m 45 := by
    apply List.ext_getElem
    · have := h.1
      simp
      omega
    · intro i h1 h2
      simp at h2
      have hx := h.2.1 i h2
      have hm := h.1
      rw [nx_lt (show i < s.size by omega)] at hx
      simp
      exact UInt8.toNat.inj (show s[i].toNat = (45 : UInt8).toNat from Int.ofNat.inj hx)
  apply ByteArray.ext
  rw [ByteArray.data_extract]
  apply Array.toList_inj.1
  show Lib.repeatL [45] m = _
  rw [hr, ← hl]
  simp

theorem ext00 (s out : ByteArray) : s.extract 0 0 ++ out = out := by
  apply ByteArray.ext
  simp

def IdentPost (s : ByteArray) (B : Nat) (w : World) (e : Ending) (w' : World) : Prop :=
  ∃ m, Hyph s m ∧ Below B w w' ∧ ((IdentBad s m ∧ Fails e ∧ ∃ k, Prs w' B s k) ∨
    (startOk s m ∧ ∃ out j, pn s m ByteArray.empty = some (out, j) ∧ out ≠ ByteArray.empty ∧ j ≤ s.size ∧ e = .returned (.tuple #[.string (s.extract 0 m ++ out), .nilIface]) ∧ Prs w' B s j))

theorem pn_size (s : ByteArray) : ∀ (m i j : Nat) (o out : ByteArray), s.size - i ≤ m → pn s i o = some (out, j) → out.size ≤ o.size + 4 * (s.size - i)
  | m, i, j, o, out, hm, h => by
    by_cases hi : i < s.size
    · match m, hm with
      | 0, hm => omega
      | m + 1, hm =>
        by_cases hn : isNc (nx s i) = true
        · rw [pn_nc hi hn] at h
          have := pn_size s m (i + 1) j _ out (by omega) h
          rw [ByteArray.size_append, ByteArray.size_extract] at this
          omega
        · by_cases h92 : nx s i = 92
          · cases he : esc s i with
            | none => rw [pn_none hi h92 he] at h; cases h
            | some p =>
              obtain ⟨a, j'⟩ := p
              rw [pn_some hi h92 he] at h
              have h1 := pn_size s m j' j _ out (by have := esc_lt he; omega) h
              have h2 := esc_size he
              have h3 := esc_lt he
              rw [ByteArray.size_append] at h1
              omega
          · rw [pn_stop (by simpa using hn) h92] at h
            simp only [Option.some.injEq, Prod.mk.injEq] at h
            rw [← h.1]
            omega
    · rw [pn_end (by omega)] at h
      simp only [Option.some.injEq, Prod.mk.injEq] at h
      rw [← h.1]
      omega

theorem nameStart_is {n : Int} {b : Bool} (h : isNs n = b) (w : World) : Calls Tryd.prog 39 #[.int .u8 n] w (IsBool b w) :=
  (nameStart_any n w).mono fun e w' ⟨b', h', he, hw⟩ => ⟨by rw [he, h', h], hw.symm⟩

set_option maxRecDepth 100000 in
set_option maxHeartbeats 8000000 in
theorem parseIdent_any (s : ByteArray) (B : Nat) (w : World) (hs : s.size ≤ 1000) (h : Prs w B s 0) :
    Calls Tryd.prog 33 #[.pointer (some ⟨B, 0, none⟩)] w (IdentPost s B w) := by
  have HW := Lib.hid h
  clear h
  go_enter Tryd.func33, Tryd.ntmps33
  go_wp2
  go_loopw [4] (fun n wr => ∃ k : Nat, n = .int .i64 (k : Int) ∧ k ≤ s.size ∧ (∀ i, i < k → nx s i = 45) ∧ Prs wr B s k ∧ Below B w wr) (fun n _ => s.size - (intOf n).toNat)
  case atStart => exact ⟨0, by go_num, by omega, fun i hi => absurd hi (by omega), HW.out, Below.refl _ _⟩
  case round =>
    obtain ⟨k, rfl, hk, hall, hp, hb⟩ := hrel
    have c0 : wr.cell? ⟨B, 0, none⟩ = some (.string s) := hp.cell (i := 0) rfl
    have c1 : wr.cell? ⟨B, 1, none⟩ = some (.int .i64 (k : Int)) := hp.cell (i := 1) rfl
    have f1 : wr.frozen? ⟨B, 1, none⟩ = false := hp.free 1
    have HALL := Lib.hid hall
    have HP := Lib.hid hp
    have HB := Lib.hid hb
    clear hall hp hb
    by_cases hlt : k < s.size
    · have g0 : decide ((k : Int) < (s.size : Int)) = true := by simp [hlt]
      have g0n : decide (k < s.size) = true := by simp [hlt]
      have gle : decide ((s.size : Int) ≤ (k : Int)) = false := by simp; omega
      obtain ⟨x, hx⟩ : ∃ x, (s[k].toNat : Int) = x := ⟨_, rfl⟩
      have hxn : nx s k = x := by rw [nx_lt hlt, hx]
      by_cases h45 : x = 45
      · have g1 : (x == 45) = true := by simp [h45]
        have HX := Lib.hid (hxn.trans h45)
        clear h45 hxn
        go_wp2_with fail
        go_quiet (fail)
        go_wp2_with fail
        refine ⟨?rel, ?measure⟩
        case rel => exact ⟨k + 1, by go_num, by omega, (fun i hi => by
          by_cases hik : i < k
          · exact HALL.out i hik
          · obtain rfl : i = k := by omega
            exact HX.out), (HP.out.drew _).at (k + 1), World.objAt.setBelow (HP.out.drew _) 1 _ (below_drewN HB.out _) (Nat.le_refl _)⟩
        case measure => simp [intOf]; omega
      · have g1 : (x == 45) = false := by simp [h45]
        have hy : Hyph s k := ⟨hk, HALL.out, by rw [hxn]; exact h45⟩
        have HY := Lib.hid (And.intro hy hxn)
        clear hy h45 hxn
        obtain ⟨b, hbs⟩ : ∃ b, isNs x = b := ⟨_, rfl⟩
        have HBS := Lib.hid hbs
        obtain ⟨b2, hb2⟩ : ∃ b2, (x == 92) = b2 := ⟨_, rfl⟩
        have HB2 := Lib.hid hb2
        clear hbs
        have hst : startOk s k ↔ (b = true ∨ b2 = true) := by
          unfold startOk
          rw [HY.out.2, HBS.out, ← HB2.out, beq_iff_eq]
          exact ⟨fun h => h.2, fun h => ⟨hlt, h⟩⟩
        have HST := Lib.hid hst
        clear hst
        go_wp2_with fail
        go_quiet (fail)
        go_wp2_with fail
        obtain ⟨wz, hwz⟩ : ∃ wz, wr.drewN nq = wz := ⟨_, rfl⟩
        have hrz : Prs wz B s k := by rw [← hwz]; exact HP.out.drew _
        have hbz : Below B w wz := by rw [← hwz]; exact below_drewN HB.out _
        rw [hwz]
        clear hwz c0 c1 f1
        have c0z : wz.cell? ⟨B, 0, none⟩ = some (.string s) := hrz.cell (i := 0) rfl
        have c1z : wz.cell? ⟨B, 1, none⟩ = some (.int .i64 (k : Int)) := hrz.cell (i := 1) rfl
        have HZ := Lib.hid (And.intro hrz hbz)
        clear hrz hbz nq
        go_quiet (fail)
        go_wp2_with fail
        obtain ⟨wy, hwy⟩ : ∃ wy, wz.drewN nq = wy := ⟨_, rfl⟩
        have hry : Prs wy B s k := by rw [← hwy]; exact HZ.out.1.drew _
        have hby : Below B w wy := by rw [← hwy]; exact below_drewN HZ.out.2 _
        rw [hwy]
        clear hwy c0z c1z
        have c0y : wy.cell? ⟨B, 0, none⟩ = some (.string s) := hry.cell (i := 0) rfl
        have c1y : wy.cell? ⟨B, 1, none⟩ = some (.int .i64 (k : Int)) := hry.cell (i := 1) rfl
        have HQ := Lib.hid (And.intro hry hby)
        clear hry hby nq
        go_quiet (fail)
        go_wp2_with fail
        refine (nameStart_is HBS.out _).mono ?_
        rintro e w2 ⟨rfl, rfl⟩
        have hzz := Nat.eq_zero_or_pos k
        by_cases hor : b = true ∨ b2 = true
        · have HOR := Lib.hid (HST.out.2 hor)
          have hpn := fun w' h' => parseName_of s B k w' (by omega) hk h' (parseEscape_any s B (by omega))
          have HPN := Lib.hid hpn
          have hrep : ∀ w', Calls Tryd.prog 40 #[.string ⟨#[45]⟩, .int .i64 (k : Int)] w' (fun e w'' => e = .returned (.string (s.extract 0 k)) ∧ Below w'.heap.size w' w'') := fun w' => by
            have h1 := Tryd.strings_Repeat ⟨#[45]⟩ k w' (by omega) (by show 1 * k ≤ _; omega)
            rw [repeat_hyphens HY.out.1] at h1
            exact h1
          have HREP := Lib.hid hrep
          clear hpn hrep
          rcases hzz with h0 | h0
          · subst h0
            cases b <;> cases b2
            all_goals (first | (exfalso; revert hor; simp; done) | skip)
            all_goals clear hor
            all_goals go_wp2_with fail
            all_goals refine (HPN.out _ (HQ.out.1.drew _)).mono ?_
            all_goals rintro e w3 ⟨hb3, ⟨hf, ⟨v, ty, qq, rfl⟩, kk, hr⟩ | ⟨out, j, ho, hne, hj, rfl, hr⟩⟩
            all_goals have HB3 := Lib.hid ((below_drewN HQ.out.2 _).trans hb3)
            all_goals clear hb3
            all_goals go_wp2_with fail
            all_goals go_ret2
            all_goals first
              | exact ⟨0, HY.out.1, HB3.out, .inl ⟨.inr hf, ⟨_, _, _, rfl⟩, kk, hr⟩⟩
              | exact ⟨0, HY.out.1, HB3.out, .inr ⟨HOR.out, out, j, ho, hne, hj, by rw [ext00]; rfl, hr⟩⟩
          · have gk : decide ((0 : Int) < (k : Int)) = true := by simp; omega
            cases b <;> cases b2
            all_goals (first | (exfalso; revert hor; simp; done) | skip)
            all_goals clear hor
            all_goals go_wp2_with fail
            all_goals refine (HPN.out _ (HQ.out.1.drew _)).mono ?_
            all_goals rintro e w3 ⟨hb3, ⟨hf, ⟨v, ty, qq, rfl⟩, kk, hr⟩ | ⟨out, j, ho, hne, hj, rfl, hr⟩⟩
            all_goals have HB3 := Lib.hid ((below_drewN HQ.out.2 _).trans hb3)
            all_goals have HR3 := Lib.hid hr
            all_goals clear hb3 hr
            all_goals first
              | (have hos := pn_size s s.size k j _ out (by omega) ho
                 have hcat : (s.extract 0 k).size + out.size ≤ 9223372036854775807 := by
                   rw [ByteArray.size_extract]
                   have h00 : ByteArray.empty.size = 0 := rfl
                   omega
                 have HO := Lib.hid (And.intro ho hne)
                 clear ho hne hos
                 go_wp2_with (go_at_call 40; refine (HREP.out _).mono ?_; rintro e w4 ⟨rfl, hb4⟩)
                 go_ret2
                 exact ⟨k, HY.out.1, HB3.out.trans (hb4.mono (Nat.le_of_lt (World.objAt.lt HR3.out))), .inr ⟨HOR.out, out, j, HO.out.1, HO.out.2, hj, rfl, World.objAt.below HR3.out hb4 (World.objAt.lt HR3.out)⟩⟩)
              | (go_wp2_with fail
                 go_ret2
                 exact ⟨k, HY.out.1, HB3.out, .inl ⟨.inr hf, ⟨_, _, _, rfl⟩, kk, HR3.out⟩⟩)
        · have HOR := Lib.hid (fun h => hor (HST.out.1 h))
          cases b <;> cases b2
          all_goals (first | (exfalso; apply hor; simp; done) | skip)
          all_goals clear hor
          all_goals go_wp2
          all_goals go_ret2
          all_goals exact ⟨k, HY.out.1, (below_drewN HQ.out.2 _).trans (prs_err (HQ.out.1.drew _) _).1, .inl ⟨.inl HOR.out, ⟨_, _, _, rfl⟩, k, (prs_err (HQ.out.1.drew _) _).2⟩⟩
    · have g0 : decide ((k : Int) < (s.size : Int)) = false := by simp; omega
      have g0n : decide (k < s.size) = false := by simp; omega
      have gle : decide ((s.size : Int) ≤ (k : Int)) = true := by simp; omega
      have hy : Hyph s k := ⟨hk, HALL.out, by rw [nx_end (show s.size ≤ k by omega)]; decide⟩
      have HY := Lib.hid hy
      clear hy
      go_wp2_with fail
      go_quiet (fail)
      go_wp2_with fail
      go_quiet (fail)
      go_wp2
      go_ret2
      exact ⟨k, HY.out, (below_drewN HB.out _).trans (prs_err (HP.out.drew _) _).1, .inl ⟨.inl (fun h => hlt h.1), ⟨_, _, _, rfl⟩, k, (prs_err (HP.out.drew _) _).2⟩⟩

end Go.Proofs.YtbikpalfhlgnoaaDoor
