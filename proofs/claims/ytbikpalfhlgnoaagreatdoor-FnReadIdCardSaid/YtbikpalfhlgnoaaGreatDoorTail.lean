/- A name at a place of a text, and in the text behind its first byte. -/
import Derived.Test.YtbikpalfhlgnoaaGreatDoorParseEscape
namespace Go.Proofs.YtbikpalfhlgnoaaGreatDoor
open Go.RowKit
set_option linter.unusedVariables false
set_option linter.unusedSimpArgs false

/-- A text behind its first byte. -/
def tl (s : ByteArray) : ByteArray := s.extract 1 s.size

theorem tl_size (s : ByteArray) : (tl s).size = s.size - 1 := by unfold tl; rw [ByteArray.size_extract]; omega

theorem tl_nx (s : ByteArray) (i : Nat) : nx (tl s) i = nx s (i + 1) := by
  by_cases h : i + 1 < s.size
  · unfold tl
    rw [nx_extract (by omega) (Nat.le_refl _), Nat.add_comm]
  · rw [nx_end (by rw [tl_size]; omega), nx_end (by omega)]

theorem tl_extract (s : ByteArray) (a b : Nat) (hb : b < s.size) : (tl s).extract a b = s.extract (a + 1) (b + 1) := by
  unfold tl
  rw [ByteArray.extract_extract]
  congr 1 <;> omega

theorem tl_hexN (s : ByteArray) (st : Nat) : ∀ j, hexN (tl s) st j = hexN s (st + 1) j
  | 0 => rfl
  | j + 1 => by
    simp only [hexN, tl_hexN s st j, tl_nx]
    rw [show st + j + 1 = st + 1 + j by omega]

theorem tl_hexVal (s : ByteArray) (st : Nat) : ∀ j, hexVal (tl s) st j = hexVal s (st + 1) j
  | 0 => rfl
  | j + 1 => by
    simp only [hexVal, tl_hexVal s st j, tl_nx]
    rw [show st + j + 1 = st + 1 + j by omega]

theorem tl_wsSkip (s : ByteArray) (i : Nat) : wsSkip s (i + 1) = wsSkip (tl s) i + 1 := by
  unfold wsSkip
  simp only [tl_nx]
  repeat' split
  all_goals first | rfl | contradiction

/-- One place less. -/
def less (q : ByteArray × Nat) : ByteArray × Nat := (q.1, q.2 + 1)

theorem tl_esc (s : ByteArray) (i : Nat) (h : i + 1 < s.size) : esc s (i + 1) = (esc (tl s) i).map less := by
  unfold esc
  simp only [tl_nx, tl_hexN, tl_hexVal, tl_size]
  by_cases h2 : s.size < i + 1 + 2
  · rw [if_pos h2, if_pos (show s.size - 1 < i + 2 by omega)]; rfl
  · rw [if_neg h2, if_neg (show ¬ s.size - 1 < i + 2 by omega)]
    by_cases hn : nx s (i + 1 + 1) = 13 ∨ nx s (i + 1 + 1) = 10 ∨ nx s (i + 1 + 1) = 12
    · rw [if_pos hn, if_pos hn]; rfl
    · rw [if_neg hn, if_neg hn]
      by_cases hx : isHx (nx s (i + 1 + 1)) = true
      · rw [if_pos hx, if_pos hx]
        simp only [Option.map, less]
        rw [show i + 1 + 1 + hexN s (i + 1 + 1) 6 = i + 1 + hexN s (i + 1 + 1) 6 + 1 by omega, tl_wsSkip]
      · rw [if_neg hx, if_neg hx]
        simp only [Option.map, less]
        rw [tl_extract s _ _ (by omega)]

theorem tl_pn (s : ByteArray) : ∀ (m i : Nat) (o : ByteArray), s.size - i ≤ m → pn s (i + 1) o = (pn (tl s) i o).map less
  | m, i, o, hm => by
    by_cases hi : i + 1 < s.size
    · have hi' : i < (tl s).size := by rw [tl_size]; omega
      cases hn : isNc (nx s (i + 1))
      · by_cases h92 : nx s (i + 1) = 92
        · cases he : esc (tl s) i with
          | none =>
            rw [pn_none hi h92 (by rw [tl_esc s i hi, he]; rfl), pn_none hi' (by rw [tl_nx]; exact h92) he]; rfl
          | some q =>
            obtain ⟨a, j⟩ := q
            have hlt := esc_lt he
            match m, hm with
            | 0, hm => exact absurd hm (by omega)
            | m + 1, hm =>
              rw [pn_some hi h92 (by rw [tl_esc s i hi, he]; rfl : esc s (i + 1) = some (a, j + 1)), pn_some hi' (by rw [tl_nx]; exact h92) he]
              exact tl_pn s m j _ (by omega)
        · rw [pn_stop hn h92, pn_stop (by rw [tl_nx]; exact hn) (by rw [tl_nx]; exact h92)]; rfl
      · match m, hm with
        | 0, hm => exact absurd hm (by omega)
        | m + 1, hm =>
          rw [pn_nc hi hn, pn_nc hi' (by rw [tl_nx]; exact hn), tl_extract s _ _ hi]
          exact tl_pn s m (i + 1) _ (by omega)
    · rw [pn_end (by omega), pn_end (by rw [tl_size]; omega)]; rfl

theorem pn_tl (s : ByteArray) (o : ByteArray) : pn s 1 o = (pn (tl s) 0 o).map less := tl_pn s s.size 0 o (by omega)

end Go.Proofs.YtbikpalfhlgnoaaGreatDoor
