/- The digits at the beginning of a text, and what strconv.Atoi says of them. -/
import Derived.Test.YtbikpalfhlgnoaaGreatDoorBase
import Derived.Lib.AtoiAllCases
namespace Go.Proofs.YtbikpalfhlgnoaaGreatDoor
open Go.RowKit
set_option linter.unusedVariables false
set_option linter.unusedSimpArgs false

/-- The byte at a place; 0 at the end. -/
def nx (s : ByteArray) (k : Nat) : Int := if h : k < s.size then (s[k].toNat : Int) else 0

theorem nx_lt {s : ByteArray} {k : Nat} (h : k < s.size) : nx s k = (s[k].toNat : Int) := by simp [nx, h]
theorem nx_end {s : ByteArray} {k : Nat} (h : s.size ≤ k) : nx s k = 0 := by unfold nx; rw [dif_neg (by omega)]
theorem nx_nonneg (s : ByteArray) (k : Nat) : 0 ≤ nx s k := by unfold nx; split <;> omega
theorem nx_le (s : ByteArray) (k : Nat) : nx s k ≤ 255 := by
  unfold nx
  split
  · have := (s[k]).toNat_lt; omega
  · omega

/-- A digit stands at a place. -/
def isDg (s : ByteArray) (k : Nat) : Prop := 48 ≤ nx s k ∧ nx s k ≤ 57

theorem isDg.lt {s : ByteArray} {k : Nat} (h : isDg s k) : k < s.size := by
  apply Nat.lt_of_not_le
  intro hk
  have := h.1
  rw [nx_end hk] at this
  omega

/-- What the first k digits are worth, at most 100,000. -/
def dval (s : ByteArray) : Nat → Nat
  | 0 => 0
  | k + 1 => min (10 * dval s k + (nx s k - 48).toNat) 100000

theorem dval_le (s : ByteArray) (k : Nat) : dval s k ≤ 100000 := by
  cases k with
  | zero => simp [dval]
  | succ k => simp only [dval]; omega

theorem dval_small {s : ByteArray} {k m : Nat} (hkm : k ≤ m) (h : dval s m < 100000) : dval s k < 100000 := by
  induction m with
  | zero => obtain rfl : k = 0 := by omega
            exact h
  | succ m ih =>
    rcases Nat.lt_or_ge k (m + 1) with hlt | hge
    · refine ih (by omega) ?_
      simp only [dval] at h
      omega
    · obtain rfl : k = m + 1 := by omega
      exact h

/-- The digits at the beginning end at D. -/
def Digits (s : ByteArray) (D : Nat) : Prop := (∀ i, i < D → isDg s i) ∧ ¬ isDg s D

theorem Digits.le {s : ByteArray} {D : Nat} (h : Digits s D) : D ≤ s.size := by
  cases D with
  | zero => omega
  | succ D => have := (h.1 D (by omega)).lt; omega

theorem Digits.unique {s : ByteArray} {D E : Nat} (h : Digits s D) (h' : Digits s E) : D = E := by
  rcases Nat.lt_trichotomy D E with hl | rfl | hl
  · exact absurd (h'.1 D hl) h.2
  · rfl
  · exact absurd (h.1 E hl) h'.2

theorem toList_getElem (s : ByteArray) (k : Nat) (h : k < s.size) : s.data.toList[k]'(by simpa using h) = s[k] := rfl

theorem parse_steps (s : ByteArray) (D : Nat) (hd : Digits s D) (hs : dval s D < 100000) : ∀ j k, D - k = j → k ≤ D → Lib.parseUint10 (dval s k) ((s.data.toList.take D).drop k) = .ok (dval s D)
  | 0, k, hj, hk => by
    obtain rfl : k = D := by omega
    have : (s.data.toList.take k).drop k = [] := by simp
    rw [this, Lib.parseUint10]
  | j + 1, k, hj, hk => by
    have hlt : k < D := by omega
    have hks : k < s.size := by have := hd.le; omega
    have hks' : k < s.data.toList.length := by simpa using hks
    have he : (s.data.toList.take D).drop k = s[k] :: (s.data.toList.take D).drop (k + 1) := by
      rw [List.drop_eq_getElem_cons (by simp; omega)]
      congr 1
      simp
      rfl
    have hg := hd.1 k hlt
    unfold isDg at hg
    rw [nx_lt hks] at hg
    have hn := dval_small (k := k + 1) (by omega) hs
    have hv : dval s (k + 1) = dval s k * 10 + (s[k].toNat - 48) := by
      simp only [dval, nx_lt hks] at hn ⊢
      omega
    have hk9 := dval_small (k := k) (by omega) hs
    rw [he, Lib.parseUint10, if_pos (by omega), if_neg (by omega), if_neg (by omega), ← hv]
    exact parse_steps s D hd hs j (k + 1) (by omega) (by omega)

theorem dg_snoc {s : ByteArray} {k : Nat} (h : ∀ i, i < k → isDg s i) (hk : isDg s k) : ∀ i, i < k + 1 → isDg s i := by
  intro i hi
  by_cases hik : i < k
  · exact h i hik
  · obtain rfl : i = k := by omega
    exact hk

/-- Atoi reads the digits as what they are worth. -/
theorem atoi_digits {s : ByteArray} {D : Nat} (hd : Digits s D) (h0 : 0 < D) (hs : dval s D < 100000) : Lib.atoiAll (s.extract 0 D).data.toList = .ok (dval s D : Int) := by
  have hle := hd.le
  have hl : (s.extract 0 D).data.toList = s.data.toList.take D := by simp [ByteArray.data_extract]
  have hp := parse_steps s D hd hs D 0 (by omega) (by omega)
  simp only [dval, List.drop_zero] at hp
  rw [hl]
  have h0s : 0 < s.size := by omega
  have hc : s.data.toList.take D = s[0] :: (s.data.toList.take D).drop 1 := by
    conv => lhs; rw [← List.drop_zero (l := s.data.toList.take D)]
    have : 0 < s.data.toList.length := by simpa using h0s
    rw [List.drop_eq_getElem_cons (by simp; omega)]
    congr 1
    simp
    rfl
  have hg := hd.1 0 h0
  unfold isDg at hg
  rw [nx_lt h0s] at hg
  rw [hc] at hp ⊢
  rw [Lib.atoiAll_plain _ _ (by omega) (by omega), Lib.parseMag, if_neg (by simp), hp]
  simp [Lib.signless]
  omega

end Go.Proofs.YtbikpalfhlgnoaaGreatDoor
