/- Parts of a proof: Digits, NameBytes, NameF, EscPlain. -/
import Derived.Test.YtoanofdomhnafaaGreatDoorG00
import Derived.Lib.AtoiAllCases
import GoSem.Core.Utf8
import Derived.Laws.Cover4
set_option linter.unusedVariables false
set_option linter.unusedSimpArgs false
namespace Go.Proofs.YtoanofdomhnafaaGreatDoor
open Go.RowKit
/-- The byte at a place; 0 at the end. -/
def nx (s : ByteArray) (k : Nat) : Int := if h : k < s.size then (s[k].toNat : Int) else 0
theorem nx_lt {s : ByteArray} {k : Nat} (h : k < s.size) : nx s k = (s[k].toNat : Int) := by simp [nx, h]
theorem nx_end {s : ByteArray} {k : Nat} (h : s.size ≤ k) : nx s k = 0 := by unfold nx; rw [dif_neg (by omega)]
theorem nx_nonneg (s : ByteArray) (k : Nat) : 0 ≤ nx s k := by unfold nx; split <;> omega
theorem nx_le (s : ByteArray) (k : Nat) : nx s k ≤ 255 := by
  unfold nx
  split
  · have := (s[k]).toNat_lt; omega
  · omega
/-- A digit stands at a place. -/
def isDg (s : ByteArray) (k : Nat) : Prop := 48 ≤ nx s k ∧ nx s k ≤ 57
theorem isDg.lt {s : ByteArray} {k : Nat} (h : isDg s k) : k < s.size := by
  apply Nat.lt_of_not_le
  intro hk
  have := h.1
  rw [nx_end hk] at this
  omega
/-- The digits at the beginning end at D. -/
def Digits (s : ByteArray) (D : Nat) : Prop := (∀ i, i < D → isDg s i) ∧ ¬ isDg s D
theorem Digits.le {s : ByteArray} {D : Nat} (h : Digits s D) : D ≤ s.size := by
  cases D with
  | zero => omega
  | succ D => have := (h.1 D (by omega)).lt; omega
/-- A byte of names. -/
def isNc (n : Int) : Bool := decide ((97 ≤ n ∧ n ≤ 122) ∨ (65 ≤ n ∧ n ≤ 90) ∨ n = 95 ∨ 127 < n ∨ n = 45 ∨ (48 ≤ n ∧ n ≤ 57))
/-- A byte at which a name may begin. -/
def isNs (n : Int) : Bool := decide ((97 ≤ n ∧ n ≤ 122) ∨ (65 ≤ n ∧ n ≤ 90) ∨ n = 95 ∨ 127 < n)
/-- A hexadecimal digit. -/
def isHx (n : Int) : Bool := decide ((48 ≤ n ∧ n ≤ 57) ∨ (97 ≤ n ∧ n ≤ 102) ∨ (65 ≤ n ∧ n ≤ 70))
set_option maxRecDepth 100000 in
set_option maxHeartbeats 4000000 in
theorem nameChar_any (n : Int) (w : World) : Calls Tryz.prog 63 #[.int .u8 n] w (SomeBool (fun b => b = isNc n) w) := by
  go_enter Tryz.func63, Tryz.ntmps63
  go_wp2
  all_goals go_ret
  all_goals refine ⟨_, ?_, rfl, rfl⟩
  all_goals (show _ = _; rw [Bool.eq_iff_iff]; simp [isNc]; try omega)
set_option maxRecDepth 100000 in
set_option maxHeartbeats 4000000 in
theorem hexDigit_any (n : Int) (w : World) : Calls Tryz.prog 72 #[.int .u8 n] w (SomeBool (fun b => b = isHx n) w) := by
  go_enter Tryz.func72, Tryz.ntmps72
  go_wp2
  all_goals go_ret
  all_goals refine ⟨_, ?_, rfl, rfl⟩
  all_goals (show _ = _; rw [Bool.eq_iff_iff]; simp [isHx]; try omega)
set_option maxRecDepth 100000 in
set_option maxHeartbeats 4000000 in
theorem nameByte_any (n : Int) (w : World) : Calls Tryz.prog 47 #[.int .u8 n] w (SomeBool (fun b => b = isNc n) w) := by
  go_enter Tryz.func47, Tryz.ntmps47
  go_wp2
  all_goals go_ret
  all_goals refine ⟨_, ?_, rfl, rfl⟩
  all_goals (show _ = _; rw [Bool.eq_iff_iff]; simp [isNc]; try omega)
/-- What a hexadecimal digit is worth. -/
def hxv (n : Int) : Nat := if n ≤ 57 then (n - 48).toNat else if n ≤ 70 then (n - 55).toNat else (n - 87).toNat
/-- How many hexadecimal digits stand at a place, of the first j. -/
def hexN (s : ByteArray) (st : Nat) : Nat → Nat
  | 0 => 0
  | j + 1 => if hexN s st j = j ∧ isHx (nx s (st + j)) = true then j + 1 else hexN s st j
theorem hexN_le (s : ByteArray) (st : Nat) : ∀ j, hexN s st j ≤ j
  | 0 => Nat.le_refl _
  | j + 1 => by
    have := hexN_le s st j
    simp only [hexN]
    split <;> omega
/-- What j digits from a place on are worth. -/
def hexVal (s : ByteArray) (st : Nat) : Nat → Nat
  | 0 => 0
  | j + 1 => hexVal s st j * 16 + hxv (nx s (st + j))
/-- Behind one white space. -/
def wsSkip (s : ByteArray) (i : Nat) : Nat :=
  if nx s i = 13 then (if nx s (i + 1) = 10 then i + 2 else i + 1) else if nx s i = 32 ∨ nx s i = 9 ∨ nx s i = 10 ∨ nx s i = 12 then i + 1 else i
theorem wsSkip_ge (s : ByteArray) (i : Nat) : i ≤ wsSkip s i := by
  unfold wsSkip
  split
  · split <;> omega
  · split <;> omega
/-- The escape at a place: what it stands for, and where it ends. -/
def esc (s : ByteArray) (i : Nat) : Option (ByteArray × Nat) :=
  if s.size < i + 2 then none
  else if nx s (i + 1) = 13 ∨ nx s (i + 1) = 10 ∨ nx s (i + 1) = 12 then none
  else if isHx (nx s (i + 1)) = true then some (Utf8.encode (hexVal s (i + 1) (hexN s (i + 1) 6)), wsSkip s (i + 1 + hexN s (i + 1) 6))
  else some (s.extract (i + 1) (i + 2), i + 2)
theorem esc_lt {s : ByteArray} {i j : Nat} {a : ByteArray} (h : esc s i = some (a, j)) : i < j := by
  unfold esc at h
  have := wsSkip_ge s (i + 1 + hexN s (i + 1) 6)
  repeat' split at h
  all_goals (simp at h; try omega)
theorem esc_size {s : ByteArray} {i j : Nat} {a : ByteArray} (h : esc s i = some (a, j)) : a.size ≤ 4 := by
  unfold esc at h
  have := encode_size_le (hexVal s (i + 1) (hexN s (i + 1) 6))
  repeat' split at h
  all_goals simp at h
  · rw [← h.1]; exact this
  · rw [← h.1, ByteArray.size_extract]; omega
/-- A name from a place on: what it is, and where it ends; none: an escape that is none. -/
def pn (s : ByteArray) (i : Nat) (out : ByteArray) : Option (ByteArray × Nat) :=
  if hi : i < s.size then
    if isNc (nx s i) = true then pn s (i + 1) (out ++ s.extract i (i + 1))
    else if nx s i = 92 then
      match h : esc s i with
      | none => none
      | some (a, j) => pn s j (out ++ a)
    else some (out, i)
  else some (out, i)
termination_by s.size - i
decreasing_by
  · omega
  · have := esc_lt h; omega
theorem pn_nc {s : ByteArray} {i : Nat} {out : ByteArray} (hi : i < s.size) (h : isNc (nx s i) = true) : pn s i out = pn s (i + 1) (out ++ s.extract i (i + 1)) := by
  rw [pn, dif_pos hi, if_pos h]
theorem pn_stop {s : ByteArray} {i : Nat} {out : ByteArray} (h : isNc (nx s i) = false) (h2 : nx s i ≠ 92) : pn s i out = some (out, i) := by
  rw [pn]
  split
  · simp [h, h2]
  · rfl
theorem pn_end {s : ByteArray} {i : Nat} {out : ByteArray} (h : s.size ≤ i) : pn s i out = some (out, i) := by
  rw [pn, dif_neg (by omega)]
theorem pn_none {s : ByteArray} {i : Nat} {out : ByteArray} (hi : i < s.size) (h : nx s i = 92) (he : esc s i = none) : pn s i out = none := by
  rw [pn, dif_pos hi, if_neg (by rw [h]; decide), if_pos h]
  split
  · rfl
  · rename_i h'; rw [he] at h'; cases h'
theorem pn_some {s : ByteArray} {i j : Nat} {out a : ByteArray} (hi : i < s.size) (h : nx s i = 92) (he : esc s i = some (a, j)) : pn s i out = pn s j (out ++ a) := by
  rw [pn, dif_pos hi, if_neg (by rw [h]; decide), if_pos h]
  split
  · rename_i h'; rw [he] at h'; cases h'
  · rename_i h'; rw [he] at h'; cases h'; rfl
theorem extract_snoc (s : ByteArray) {a i : Nat} (h : a ≤ i) (hi : i < s.size) : s.extract a i ++ s.extract i (i + 1) = s.extract a (i + 1) := by
  rw [ByteArray.extract_append_extract]
  congr 1 <;> omega
theorem pn_run {s : ByteArray} {a : Nat} {out : ByteArray} : ∀ b, a ≤ b → b ≤ s.size → (∀ j, a ≤ j → j < b → isNc (nx s j) = true) → pn s a out = pn s b (out ++ s.extract a b) := by
  intro b hab
  induction b with
  | zero =>
    intro _ _
    obtain rfl : a = 0 := by omega
    simp
  | succ b ih =>
    intro hb hall
    by_cases hlt : a ≤ b
    · rw [ih hlt (by omega) (fun j h1 h2 => hall j h1 (by omega)), pn_nc (by omega) (hall b hlt (by omega)), ByteArray.append_assoc, extract_snoc s hlt (by omega)]
    · obtain rfl : a = b + 1 := by omega
      simp
theorem hexN_of {s : ByteArray} {st : Nat} : ∀ n, (∀ m, m < n → isHx (nx s (st + m)) = true) → hexN s st n = n
  | 0, _ => rfl
  | n + 1, h => by
    have h1 := hexN_of n (fun m hm => h m (by omega))
    simp only [hexN]
    rw [if_pos ⟨h1, h n (by omega)⟩]
theorem hexN_stop {s : ByteArray} {st n : Nat} (hn : hexN s st n = n) (hx : isHx (nx s (st + n)) = false) : ∀ d, hexN s st (n + d) = n
  | 0 => hn
  | d + 1 => by
    have h1 := hexN_stop hn hx d
    have he : hexN s st (n + (d + 1)) = if hexN s st (n + d) = n + d ∧ isHx (nx s (st + (n + d))) = true then n + d + 1 else hexN s st (n + d) := rfl
    rw [he, h1]
    split
    · rename_i h
      obtain ⟨h2, h3⟩ := h
      obtain rfl : d = 0 := by omega
      simp only [Nat.add_zero] at h3
      rw [hx] at h3
      cases h3
    · rfl
theorem nx_extract {s : ByteArray} {a b i : Nat} (h : a + i < b) (hb : b ≤ s.size) : nx (s.extract a b) i = nx s (a + i) := by
  have h1 : i < (s.extract a b).size := by rw [ByteArray.size_extract]; omega
  rw [nx_lt h1, nx_lt (show a + i < s.size by omega), ByteArray.getElem_extract]
theorem hexVal_extract {s : ByteArray} {a b : Nat} (hb : b ≤ s.size) : ∀ n, a + n ≤ b → hexVal (s.extract a b) 0 n = hexVal s a n
  | 0, _ => rfl
  | n + 1, h => by
    simp only [hexVal, Nat.zero_add]
    rw [hexVal_extract hb n (by omega), nx_extract (by omega) hb]
theorem esc_short {s : ByteArray} {i : Nat} (h : s.size < i + 2) : esc s i = none := by
  unfold esc; rw [if_pos h]
theorem esc_line {s : ByteArray} {i : Nat} (h : ¬ s.size < i + 2) (h2 : nx s (i + 1) = 13 ∨ nx s (i + 1) = 10 ∨ nx s (i + 1) = 12) : esc s i = none := by
  unfold esc; rw [if_neg h, if_pos h2]
theorem esc_lit {s : ByteArray} {i : Nat} (h : ¬ s.size < i + 2) (h2 : ¬ (nx s (i + 1) = 13 ∨ nx s (i + 1) = 10 ∨ nx s (i + 1) = 12)) (h3 : isHx (nx s (i + 1)) = false) : esc s i = some (s.extract (i + 1) (i + 2), i + 2) := by
  unfold esc; rw [if_neg h, if_neg h2, if_neg (by simp [h3])]
theorem esc_hex {s : ByteArray} {i n : Nat} (h : ¬ s.size < i + 2) (h2 : ¬ (nx s (i + 1) = 13 ∨ nx s (i + 1) = 10 ∨ nx s (i + 1) = 12)) (h3 : isHx (nx s (i + 1)) = true) (hn : hexN s (i + 1) 6 = n) :
    esc s i = some (Utf8.encode (hexVal s (i + 1) n), wsSkip s (i + 1 + n)) := by
  unfold esc; rw [if_neg h, if_neg h2, if_pos h3, hn]
end Go.Proofs.YtoanofdomhnafaaGreatDoor
