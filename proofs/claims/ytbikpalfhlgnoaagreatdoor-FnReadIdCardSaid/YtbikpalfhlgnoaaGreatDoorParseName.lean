/- cascadia's parser.parseName, out of what parseEscape answers. -/
import Derived.Test.YtbikpalfhlgnoaaGreatDoorNameF
import Derived.Test.YtbikpalfhlgnoaaGreatDoorPrs
import Derived.Laws.Closers25
import Derived.Laws.StructEq
namespace Go.Proofs.YtbikpalfhlgnoaaGreatDoor
open Go.RowKit
set_option linter.unusedVariables false
set_option linter.unusedSimpArgs false

/-- Two results, the second an error. -/
def Fails (e : Ending) : Prop := ∃ v t q, e = .returned (.tuple #[v, .iface t q])

/-- What parseEscape answers. -/
def EscPost (s : ByteArray) (B i : Nat) (w : World) (e : Ending) (w' : World) : Prop :=
  Below B w w' ∧ ((esc s i = none ∧ Fails e ∧ ∃ k, Prs w' B s k) ∨ ∃ a j, esc s i = some (a, j) ∧ e = .returned (.tuple #[.string a, .nilIface]) ∧ Prs w' B s j ∧ j ≤ s.size)

/-- parseEscape answers so, at every escape. -/
def EscAnswers (s : ByteArray) (B : Nat) : Prop := ∀ i w, i < s.size → nx s i = 92 → Prs w B s i → Calls Tryz.prog 31 #[.pointer (some ⟨B, 0, none⟩)] w (EscPost s B i w)

/-- What parseName answers. -/
def NamePost (s : ByteArray) (B k0 : Nat) (w : World) (e : Ending) (w' : World) : Prop :=
  Below B w w' ∧ (((pn s k0 ByteArray.empty = none ∨ ∃ j, pn s k0 ByteArray.empty = some (ByteArray.empty, j)) ∧ Fails e ∧ ∃ k, Prs w' B s k) ∨
    ∃ out j, pn s k0 ByteArray.empty = some (out, j) ∧ out ≠ ByteArray.empty ∧ j ≤ s.size ∧ e = .returned (.tuple #[.string out, .nilIface]) ∧ Prs w' B s j)

theorem empty_of {s : ByteArray} (h : s.toList.isEmpty = true) : s = ByteArray.empty := by
  rw [← decide_eq_emptyBytes] at h
  exact of_decide_eq_true h
theorem not_empty_of {s : ByteArray} (h : s.toList.isEmpty = false) : s ≠ ByteArray.empty := by
  rw [← decide_eq_emptyBytes] at h
  exact of_decide_eq_false h

theorem prs_err {w : World} {B : Nat} {s : ByteArray} {k : Nat} (h : Prs w B s k) (o : Obj) : Below B w (w.alloc o) ∧ Prs (w.alloc o) B s k := by
  have hlt := World.objAt.lt h
  have hb : Below w.heap.size w (w.alloc o) := (Below.refl w.heap.size w).alloc (Nat.le_refl _) o
  exact ⟨hb.mono (Nat.le_of_lt hlt), World.objAt.below h hb hlt⟩

def IsBool (b : Bool) (w : World) (e : Ending) (w' : World) : Prop := e = .returned (.bool b) ∧ w' = w

theorem nameChar_is {n : Int} {b : Bool} (h : isNc n = b) (w : World) : Calls Tryz.prog 30 #[.int .u8 n] w (IsBool b w) :=
  (nameChar_any n w).mono fun e w' ⟨b', h', he, hw⟩ => ⟨by rw [he, h', h], hw.symm⟩

set_option maxRecDepth 100000 in
set_option maxHeartbeats 8000000 in
theorem parseName_of (s : ByteArray) (B k0 : Nat) (w : World) (hs : s.size ≤ 4000) (hk0 : k0 ≤ s.size) (h : Prs w B s k0) (hesc : EscAnswers s B) :
    Calls Tryz.prog 24 #[.pointer (some ⟨B, 0, none⟩)] w (NamePost s B k0 w) := by
  have c1 : w.cell? ⟨B, 1, none⟩ = some (.int .i64 (k0 : Int)) := h.cell (i := 1) rfl
  have HW := Lib.hid h
  have HESC := Lib.hid hesc
  clear h hesc
  go_enter Tryz.func24, Tryz.ntmps24
  go_wp2
  go_step3
  go_wp2
  go_step3
  go_wp2
  go_loopw [2, 4] (fun r i wr => ∃ (k q : Nat) (out : ByteArray), r = .string out ∧ i = .int .i64 (k : Int) ∧ k ≤ s.size ∧ pn s k0 ByteArray.empty = pn s k out ∧ Prs wr B s q ∧ Below B w wr ∧ out.size ≤ 4 * k) (fun _ i _ => s.size - (intOf i).toNat)
  case atStart => exact ⟨k0, k0, ByteArray.empty, rfl, by go_num, hk0, rfl, HW.out, Below.refl _ _, by simp⟩
  case round =>
    obtain ⟨k, q, out, rfl, rfl, hk, hpn, hp, hb, hos⟩ := hrel
    have c0 : wr.cell? ⟨B, 0, none⟩ = some (.string s) := hp.cell (i := 0) rfl
    have c1 : wr.cell? ⟨B, 1, none⟩ = some (.int .i64 (q : Int)) := hp.cell (i := 1) rfl
    have f1 : wr.frozen? ⟨B, 1, none⟩ = false := hp.free 1
    have HPN := Lib.hid hpn
    have HP := Lib.hid hp
    have HB := Lib.hid hb
    clear hpn hp hb
    by_cases hlt : k < s.size
    · have g0 : decide ((k : Int) < (s.size : Int)) = true := by simp [hlt]
      have g0n : decide (k < s.size) = true := by simp [hlt]
      obtain ⟨b, hbc⟩ : ∃ b, isNc (nx s k) = b := ⟨_, rfl⟩
      have hbc' : isNc (s[k].toNat : Int) = b := by rw [← nx_lt hlt]; exact hbc
      have HBC := Lib.hid (And.intro hbc hbc')
      clear hbc hbc'
      cases b
      · by_cases h92 : nx s k = 92
        · have g92 : ((s[k].toNat : Int) == 92) = true := by rw [← nx_lt hlt]; simp [h92]
          have hes := HESC.out k (wr.setCell ⟨B, 1, none⟩ (.int .i64 (k : Int))) hlt h92 (HP.out.at k)
          have HES := Lib.hid hes
          have H92 := Lib.hid h92
          clear hes h92
          go_wp2_with (go_at_call 30; refine (nameChar_is HBC.out.2 _).mono ?_; rintro e w2 ⟨rfl, rfl⟩)
          refine HES.out.mono ?_
          rintro e w3 ⟨hb3, ⟨he, ⟨v, ty, qq, rfl⟩, kk, hk3⟩ | ⟨a, j, he, rfl, hp3, hj⟩⟩
          · have HE := Lib.hid (And.intro he (And.intro hb3 hk3))
            clear he hb3 hk3
            go_wp2
            rw [Exit.noGoto_ret]
            go_ret2
            exact ⟨(World.objAt.setBelow HP.out 1 _ HB.out (Nat.le_refl _)).trans HE.out.2.1, .inl ⟨.inl (HPN.out.trans (pn_none hlt H92.out HE.out.1)), ⟨_, _, _, rfl⟩, kk, HE.out.2.2⟩⟩
          · have c1' : w3.cell? ⟨B, 1, none⟩ = some (.int .i64 (j : Int)) := hp3.cell (i := 1) rfl
            have hkj := esc_lt he
            have has := esc_size he
            have hcat : out.size + a.size ≤ 9223372036854775807 := by omega
            have HE := Lib.hid (And.intro he (And.intro hb3 hp3))
            clear he hb3 hp3
            go_wp2
            refine ⟨?rel, ?measure⟩
            case rel => exact ⟨j, j, out ++ a, rfl, by go_num, hj, HPN.out.trans (pn_some hlt H92.out HE.out.1), HE.out.2.2, (World.objAt.setBelow HP.out 1 _ HB.out (Nat.le_refl _)).trans HE.out.2.1, by rw [ByteArray.size_append]; omega⟩
            case measure => simp [intOf]; omega
        · have g92 : ((s[k].toNat : Int) == 92) = false := by rw [← nx_lt hlt]; simp [h92]
          have H92 := Lib.hid h92
          clear h92
          cases hoe : out.toList.isEmpty
          · have HOE := Lib.hid (not_empty_of hoe)
            go_wp2_with (go_at_call 30; refine (nameChar_is HBC.out.2 _).mono ?_; rintro e w2 ⟨rfl, rfl⟩)
            rw [Exit.noGoto_ret]
            go_ret2
            exact ⟨World.objAt.setBelow HP.out 1 _ HB.out (Nat.le_refl _), .inr ⟨out, k, HPN.out.trans (pn_stop HBC.out.1 H92.out), HOE.out, hk, rfl, HP.out.at k⟩⟩
          · have HOE := Lib.hid (empty_of hoe)
            go_wp2_with (first | (go_at_call 30; refine (nameChar_is HBC.out.2 _).mono ?_; rintro e w2 ⟨rfl, rfl⟩) | go_in)
            rw [Exit.noGoto_ret]
            go_ret2
            exact ⟨HB.out.trans (prs_err HP.out _).1, .inl ⟨.inr ⟨k, by rw [HPN.out, (pn_stop HBC.out.1 H92.out), HOE.out]⟩, ⟨_, _, _, rfl⟩, q, (prs_err HP.out _).2⟩⟩
      · go_wp2_with (go_at_call 30; refine (nameChar_is HBC.out.2 _).mono ?_; rintro e w2 ⟨rfl, rfl⟩)
        go_loopw [4] (fun i wr' => ∃ j : Nat, i = .int .i64 (j : Int) ∧ k ≤ j ∧ j ≤ s.size ∧ (∀ m, k ≤ m → m < j → isNc (nx s m) = true) ∧ Prs wr' B s q ∧ Below B w wr') (fun i _ => s.size - (intOf i).toNat)
        case atStart => exact ⟨k, by go_num, by omega, by omega, fun m h1 h2 => absurd h2 (by omega), HP.out, HB.out⟩
        case round =>
          obtain ⟨j, rfl, hkj, hj, hall, hp', hb'⟩ := hrel
          have c0' := World.objAt.cell hp' (i := 0) (v := .string s) rfl
          have HALL := Lib.hid hall
          have HP' := Lib.hid hp'
          have HB' := Lib.hid hb'
          clear hall hp' hb'
          by_cases hjl : j < s.size
          · have g1 : decide ((j : Int) < (s.size : Int)) = true := by simp [hjl]
            have g1n : decide (j < s.size) = true := by simp [hjl]
            obtain ⟨b, hbj⟩ : ∃ b, isNc (nx s j) = b := ⟨_, rfl⟩
            have hbj' : isNc (s[j].toNat : Int) = b := by rw [← nx_lt hjl]; exact hbj
            have HBJ := Lib.hid (And.intro hbj hbj')
            clear hbj hbj'
            cases b
            · have hkne : k < j := by
                rcases Nat.lt_or_ge k j with h | h
                · exact h
                · obtain rfl : k = j := by omega
                  have h1 := HBJ.out.1
                  rw [HBC.out.1] at h1
                  cases h1
              have hcat : out.size + (s.extract k j).size ≤ 9223372036854775807 := by rw [ByteArray.size_extract]; omega
              go_wp2_with (go_at_call 30; refine (nameChar_is HBJ.out.2 _).mono ?_; rintro e w2 ⟨rfl, rfl⟩)
              refine ⟨?rel, ?measure⟩
              case rel => exact ⟨j, q, out ++ s.extract k j, rfl, by go_num, by omega, HPN.out.trans (pn_run j (by omega) (by omega) HALL.out), HP'.out, HB'.out, by rw [ByteArray.size_append, ByteArray.size_extract]; omega⟩
              case measure => simp [intOf]; omega
            · go_wp2_with (go_at_call 30; refine (nameChar_is HBJ.out.2 _).mono ?_; rintro e w2 ⟨rfl, rfl⟩)
              go_roundw
              case rel => exact ⟨j + 1, by go_num, by omega, by omega, (fun m h1 h2 => by
                by_cases hm : m < j
                · exact HALL.out m h1 hm
                · obtain rfl : m = j := by omega
                  exact HBJ.out.1), HP'.out, HB'.out⟩
              case measure => simp [intOf]; omega
          · have g1 : decide ((j : Int) < (s.size : Int)) = false := by simp; omega
            have g1n : decide (j < s.size) = false := by simp; omega
            have hcat : out.size + (s.extract k j).size ≤ 9223372036854775807 := by rw [ByteArray.size_extract]; omega
            go_wp2_with fail
            refine ⟨?rel, ?measure⟩
            case rel => exact ⟨j, q, out ++ s.extract k j, rfl, by go_num, by omega, HPN.out.trans (pn_run j (by omega) (by omega) HALL.out), HP'.out, HB'.out, by rw [ByteArray.size_append, ByteArray.size_extract]; omega⟩
            case measure => simp [intOf]; omega
    · have g0 : decide ((k : Int) < (s.size : Int)) = false := by simp; omega
      have g0n : decide (k < s.size) = false := by simp; omega
      cases hoe : out.toList.isEmpty
      · have HOE := Lib.hid (not_empty_of hoe)
        go_wp2_with fail
        rw [Exit.noGoto_ret]
        go_ret2
        exact ⟨World.objAt.setBelow HP.out 1 _ HB.out (Nat.le_refl _), .inr ⟨out, k, HPN.out.trans (pn_end (show s.size ≤ k by omega)), HOE.out, hk, rfl, HP.out.at k⟩⟩
      · have HOE := Lib.hid (empty_of hoe)
        go_wp2
        rw [Exit.noGoto_ret]
        go_ret2
        exact ⟨HB.out.trans (prs_err HP.out _).1, .inl ⟨.inr ⟨k, by rw [HPN.out, (pn_end (show s.size ≤ k by omega)), HOE.out]⟩, ⟨_, _, _, rfl⟩, q, (prs_err HP.out _).2⟩⟩

end Go.Proofs.YtbikpalfhlgnoaaGreatDoor
