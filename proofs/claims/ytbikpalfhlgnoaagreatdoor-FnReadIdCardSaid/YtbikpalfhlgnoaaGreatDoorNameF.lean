/- What a name at a place of a text is, byte by byte. -/
import Derived.Test.YtbikpalfhlgnoaaGreatDoorNameBytes
import GoSem.Core.Utf8
import Derived.Laws.Cover4
namespace Go.Proofs.YtbikpalfhlgnoaaGreatDoor
open Go.RowKit
set_option linter.unusedVariables false
set_option linter.unusedSimpArgs false

/-- What a hexadecimal digit is worth. -/
def hxv (n : Int) : Nat := if n ≤ 57 then (n - 48).toNat else if n ≤ 70 then (n - 55).toNat else (n - 87).toNat

/-- How many hexadecimal digits stand at a place, of the first j. -/
def hexN (s : ByteArray) (st : Nat) : Nat → Nat
  | 0 => 0
  | j + 1 => if hexN s st j = j ∧ isHx (nx s (st + j)) = true then j + 1 else hexN s st j

theorem hexN_le (s : ByteArray) (st : Nat) : ∀ j, hexN s st j ≤ j
  | 0 => Nat.le_refl _
  | j + 1 => by
    have := hexN_le s st j
    simp only [hexN]
    split <;> omega

/-- What j digits from a place on are worth. -/
def hexVal (s : ByteArray) (st : Nat) : Nat → Nat
  | 0 => 0
  | j + 1 => hexVal s st j * 16 + hxv (nx s (st + j))

/-- Behind one white space. -/
def wsSkip (s : ByteArray) (i : Nat) : Nat :=
  if nx s i = 13 then (if nx s (i + 1) = 10 then i + 2 else i + 1) else if nx s i = 32 ∨ nx s i = 9 ∨ nx s i = 10 ∨ nx s i = 12 then i + 1 else i

theorem wsSkip_ge (s : ByteArray) (i : Nat) : i ≤ wsSkip s i := by
  unfold wsSkip
  split
  · split <;> omega
  · split <;> omega

/-- The escape at a place: what it stands for, and where it ends. -/
def esc (s : ByteArray) (i : Nat) : Option (ByteArray × Nat) :=
  if s.size < i + 2 then none
  else if nx s (i + 1) = 13 ∨ nx s (i + 1) = 10 ∨ nx s (i + 1) = 12 then none
  else if isHx (nx s (i + 1)) = true then some (Utf8.encode (hexVal s (i + 1) (hexN s (i + 1) 6)), wsSkip s (i + 1 + hexN s (i + 1) 6))
  else some (s.extract (i + 1) (i + 2), i + 2)

theorem esc_lt {s : ByteArray} {i j : Nat} {a : ByteArray} (h : esc s i = some (a, j)) : i < j := by
  unfold esc at h
  have := wsSkip_ge s (i + 1 + hexN s (i + 1) 6)
  repeat' split at h
  all_goals (simp at h; try omega)

theorem esc_size {s : ByteArray} {i j : Nat} {a : ByteArray} (h : esc s i = some (a, j)) : a.size ≤ 4 := by
  unfold esc at h
  have := encode_size_le (hexVal s (i + 1) (hexN s (i + 1) 6))
  repeat' split at h
  all_goals simp at h
  · rw [← h.1]; exact this
  · rw [← h.1, ByteArray.size_extract]; omega

/-- A name from a place on: what it is, and where it ends; none: an escape that is none. -/
def pn (s : ByteArray) (i : Nat) (out : ByteArray) : Option (ByteArray × Nat) :=
  if hi : i < s.size then
    if isNc (nx s i) = true then pn s (i + 1) (out ++ s.extract i (i + 1))
    else if nx s i = 92 then
      match h : esc s i with
      | none => none
      | some (a, j) => pn s j (out ++ a)
    else some (out, i)
  else some (out, i)
termination_by s.size - i
decreasing_by
  · omega
  · have := esc_lt h; omega

theorem pn_nc {s : ByteArray} {i : Nat} {out : ByteArray} (hi : i < s.size) (h : isNc (nx s i) = true) : pn s i out = pn s (i + 1) (out ++ s.extract i (i + 1)) := by
  rw [pn, dif_pos hi, if_pos h]

theorem pn_stop {s : ByteArray} {i : Nat} {out : ByteArray} (h : isNc (nx s i) = false) (h2 : nx s i ≠ 92) : pn s i out = some (out, i) := by
  rw [pn]
  split
  · simp [h, h2]
  · rfl

theorem pn_end {s : ByteArray} {i : Nat} {out : ByteArray} (h : s.size ≤ i) : pn s i out = some (out, i) := by
  rw [pn, dif_neg (by omega)]

theorem not_nc92 : isNc 92 = false := by decide

theorem pn_none {s : ByteArray} {i : Nat} {out : ByteArray} (hi : i < s.size) (h : nx s i = 92) (he : esc s i = none) : pn s i out = none := by
  rw [pn, dif_pos hi, if_neg (by rw [h]; decide), if_pos h]
  split
  · rfl
  · rename_i h'; rw [he] at h'; cases h'

theorem pn_some {s : ByteArray} {i j : Nat} {out a : ByteArray} (hi : i < s.size) (h : nx s i = 92) (he : esc s i = some (a, j)) : pn s i out = pn s j (out ++ a) := by
  rw [pn, dif_pos hi, if_neg (by rw [h]; decide), if_pos h]
  split
  · rename_i h'; rw [he] at h'; cases h'
  · rename_i h'; rw [he] at h'; cases h'; rfl

theorem extract_snoc (s : ByteArray) {a i : Nat} (h : a ≤ i) (hi : i < s.size) : s.extract a i ++ s.extract i (i + 1) = s.extract a (i + 1) := by
  rw [ByteArray.extract_append_extract]
  congr 1 <;> omega

theorem pn_run {s : ByteArray} {a : Nat} {out : ByteArray} : ∀ b, a ≤ b → b ≤ s.size → (∀ j, a ≤ j → j < b → isNc (nx s j) = true) → pn s a out = pn s b (out ++ s.extract a b) := by
  intro b hab
  induction b with
  | zero =>
    intro _ _
    obtain rfl : a = 0 := by omega
    simp
  | succ b ih =>
    intro hb hall
    by_cases hlt : a ≤ b
    · rw [ih hlt (by omega) (fun j h1 h2 => hall j h1 (by omega)), pn_nc (by omega) (hall b hlt (by omega)), ByteArray.append_assoc, extract_snoc s hlt (by omega)]
    · obtain rfl : a = b + 1 := by omega
      simp

end Go.Proofs.YtbikpalfhlgnoaaGreatDoor
