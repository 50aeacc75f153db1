/- strconv.ParseUint at hexadecimal digits, six of them at most. -/
import Derived.Test.YtbikpalfhlgnoaaGreatDoorNameF
import Derived.Lib.ConvBytes
import Derived.Lib.AtoiErrMem
import Derived.Lib.AtoiAllMem
import Derived.Laws.Closers25
import Derived.Laws.Closers25b
import Derived.Laws.Strings3
import Derived.BigCall
import Derived.BigGuard
namespace Go.Proofs.YtbikpalfhlgnoaaGreatDoor
open Go.RowKit
set_option linter.unusedVariables false
set_option linter.unusedSimpArgs false

/-- What the first k digits of a text are worth. -/
theorem hexVal_lt (s : ByteArray) (st : Nat) : ∀ k, (∀ i, i < k → isHx (nx s (st + i)) = true) → hexVal s st k < 16 ^ k
  | 0, _ => by simp [hexVal]
  | k + 1, h => by
    have h1 := hexVal_lt s st k (fun i hi => h i (by omega))
    have h2 : hxv (nx s (st + k)) < 16 := by
      have := h k (by omega)
      simp only [isHx, decide_eq_true_eq] at this
      unfold hxv
      split
      · omega
      · split <;> omega
    simp only [hexVal, Nat.pow_succ]
    omega

def HexPost (s : ByteArray) (w : World) (e : Ending) (w' : World) : Prop := e = .returned (.tuple #[.int .u64 (hexVal s 0 s.size : Int), .nilIface]) ∧ Below w.heap.size w w'

theorem low_of (x y : Int) (h : (97 ≤ x ∧ x ≤ 102 ∧ y = x) ∨ (65 ≤ x ∧ x ≤ 70 ∧ y = x + 32)) : bits BinOp.or IntKind.u8 x 32 = y := by
  rcases h with ⟨h1, h2, h3⟩ | ⟨h1, h2, h3⟩
  all_goals rw [h3]
  all_goals clear h3
  · have : x = 97 ∨ x = 98 ∨ x = 99 ∨ x = 100 ∨ x = 101 ∨ x = 102 := by omega
    rcases this with rfl | rfl | rfl | rfl | rfl | rfl <;> decide
  · have : x = 65 ∨ x = 66 ∨ x = 67 ∨ x = 68 ∨ x = 69 ∨ x = 70 := by omega
    rcases this with rfl | rfl | rfl | rfl | rfl | rfl <;> decide

theorem lower_any (n : Int) (w : World) : Calls Tryz.prog 37 #[.int .u8 n] w (fun e w' => e = .returned (.int .u8 (bits BinOp.or IntKind.u8 n 32)) ∧ w' = w) := by
  go_enter Tryz.func37, Tryz.ntmps37
  go_wp2
  go_ret
  exact ⟨rfl, rfl⟩

theorem lower_is {x y : Int} (h : bits BinOp.or IntKind.u8 x 32 = y) (w : World) : Calls Tryz.prog 37 #[.int .u8 x] w (fun e w' => e = .returned (.int .u8 y) ∧ w' = w) :=
  (lower_any x w).mono fun e w' ⟨he, hw⟩ => ⟨by rw [he, h], hw⟩

set_option maxRecDepth 100000 in
set_option maxHeartbeats 8000000 in
theorem parseHex_any (s : ByteArray) (w : World) (h0 : 0 < s.size) (h6 : s.size ≤ 6) (hx : ∀ i, i < s.size → isHx (nx s i) = true) :
    Calls Tryz.prog 35 #[.string s, .int .i64 16, .int .i64 64] w (HexPost s w) := by
  have hemp : s.toList.isEmpty = false := by
    rw [← decide_eq_emptyBytes]
    exact decide_eq_false (fun h => by rw [h] at h0; simp at h0)
  have hcv := Lib.run_convert_string_bytes (P := Tryz.prog) w 9 112 5 s (u := .string) Tryz.underlying9 Tryz.underlying112 Tryz.underlying5
  have hB : ∀ j, j < s.size → (Lib.bytesWorld w 5 s).cell? ⟨w.heap.size, j, none⟩ = some (.int .u8 (nx s j)) := fun j hj => by
    rw [Lib.bytesWorld_cell w 5 s j hj, nx_lt hj]
    congr 3
    have : j < s.data.toList.length := by simpa using hj
    simp [List.getD, List.getElem?_eq_getElem this]
    rfl
  have hbel := Lib.bytesWorld_below w 5 s
  obtain ⟨W1, hW1⟩ : ∃ W1, W1 = Lib.bytesWorld w 5 s := ⟨_, rfl⟩
  rw [← hW1] at hcv hB hbel
  clear hW1
  have HBEL := Lib.hid hbel
  have HX := Lib.hid hx
  have HB := Lib.hid hB
  clear hbel hx hB
  have hmv : IntKind.u64.wrap (IntKind.u64.wrap 18446744073709551616 - 1) = 18446744073709551615 := by
    rw [IntKind.wrap_u64, IntKind.wrap_u64]
    decide
  go_enter Tryz.func35, Tryz.ntmps35
  go_wp2
  go_loop [12, 13, 101] (fun vu vn vi => ∃ (k : Nat) (a : Int), vu = .bool false ∧ vn = .int .u64 a ∧ vi = .int .i64 k ∧ k ≤ s.size ∧ Hid (a = (hexVal s 0 k : Int)))
    (fun _ _ vi => s.size - (intOf vi).toNat)
  case atStart => exact ⟨0, 0, rfl, rfl, rfl, by omega, Lib.hid rfl⟩
  case round =>
    obtain ⟨k, a, rfl, rfl, rfl, hk, hh⟩ := hrel
    by_cases hkn : k < s.size
    · have hc := HB.out k hkn
      have hxk := HX.out k hkn
      have hlt16 := hexVal_lt s 0 k (fun i hi => by rw [Nat.zero_add]; exact HX.out i (by omega))
      have hpow : (16 : Nat) ^ k ≤ 16 ^ 5 := Nat.pow_le_pow_right (by decide) (by omega)
      have a0 : 0 ≤ a := by rw [hh.out]; omega
      have a1 : a < 1048576 := by rw [hh.out]; omega
      clear hlt16 hpow
      have hstep : (hexVal s 0 (k + 1) : Int) = a * 16 + (hxv (nx s k) : Int) := by rw [hh.out]; simp [hexVal]
      obtain ⟨x, hxe⟩ : ∃ x, nx s k = x := ⟨_, rfl⟩
      rw [hxe] at hc hxk hstep
      have hx255 := nx_le s k
      rw [hxe] at hx255
      simp only [isHx, decide_eq_true_eq] at hxk
      have HST := Lib.hid hstep
      clear hstep hxe hh
      have h95 : (x == 95) = false := by simp; omega
      rcases hxk with ⟨h1, h2⟩ | hlet
      · have g1 : decide ((48 : Int) ≤ x) = true := by simp [h1]
        have g2 : decide (x ≤ (57 : Int)) = true := by simp [h2]
        have hval : (hxv x : Int) = x - 48 := by unfold hxv; rw [if_pos h2]; omega
        have HV := Lib.hid hval
        clear hval
        go_wp2
        go_round
        case rel => exact ⟨k + 1, a * 16 + (x - 48), rfl, rfl, by go_num, by omega, Lib.hid (by rw [HST.out, HV.out])⟩
        case measure => simp [intOf]; omega
      · obtain ⟨y, hy, hy1, hy2, hval⟩ : ∃ y : Int, bits BinOp.or IntKind.u8 x 32 = y ∧ 97 ≤ y ∧ y ≤ 102 ∧ (hxv x : Int) = y - 97 + 10 := by
          rcases hlet with ⟨h1, h2⟩ | ⟨h1, h2⟩
          · exact ⟨x, low_of x x (.inl ⟨h1, h2, rfl⟩), h1, h2, by unfold hxv; rw [if_neg (by omega), if_neg (by omega)]; omega⟩
          · exact ⟨x + 32, low_of x (x + 32) (.inr ⟨h1, h2, rfl⟩), by omega, by omega, by unfold hxv; rw [if_neg (by omega), if_pos h2]; omega⟩
        have g57 : 57 < x := by omega
        have g1 : decide ((48 : Int) ≤ x) = true := by simp; omega
        have g2 : decide (x ≤ (57 : Int)) = false := by simp; omega
        have g3 : decide ((97 : Int) ≤ y) = true := by simp [hy1]
        have g4 : decide (y ≤ (122 : Int)) = true := by simp; omega
        have HV := Lib.hid hval
        have HY := Lib.hid hy
        clear hval hy hlet
        go_wp2_with (go_at_call 37; refine (lower_is HY.out _).mono ?_; rintro e w' ⟨rfl, rfl⟩)
        go_round
        case rel => exact ⟨k + 1, a * 16 + (y - 97 + 10), rfl, rfl, by go_num, by omega, Lib.hid (by rw [HST.out, HV.out])⟩
        case measure => simp [intOf]; omega
    · have hkk : k = s.size := by omega
      subst hkk
      have HH := Lib.hid hh.out
      go_wp2
      go_ret2
      first | exact ⟨rfl, HBEL.out⟩ | exact ⟨by rw [HH.out]; rfl, HBEL.out⟩

end Go.Proofs.YtbikpalfhlgnoaaGreatDoor
