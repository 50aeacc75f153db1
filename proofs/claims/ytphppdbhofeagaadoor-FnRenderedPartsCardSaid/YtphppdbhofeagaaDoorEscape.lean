/- Escaped bytes (plain), and what decoding a text says of its special bytes. -/
import Derived.Lib.TrimUEq
import Derived.Lib.SpaceUEq
import Derived.Test.YtphppdbhofeagaaDoorSegAll
namespace Go.Proofs.YtphppdbhofeagaaDoor
open Go.RowKit
set_option linter.unusedVariables false
set_option linter.unusedSimpArgs false

/-- A byte as html.escape writes it. -/
def escB (b : UInt8) : List UInt8 :=
  if b = 38 then [38, 97, 109, 112, 59] else if b = 39 then [38, 35, 51, 57, 59] else if b = 60 then [38, 108, 116, 59] else if b = 62 then [38, 103, 116, 59]
  else if b = 34 then [38, 35, 51, 52, 59] else if b = 13 then [38, 35, 49, 51, 59] else [b]
def special (b : UInt8) : Bool := b == 38 || b == 39 || b == 60 || b == 62 || b == 34 || b == 13
def escL (l : List UInt8) : List UInt8 := l.flatMap escB

theorem escB_plain {b : UInt8} (h : special b = false) : escB b = [b] := by
  simp only [special, Bool.or_eq_false_iff, beq_eq_false_iff_ne] at h
  obtain ⟨⟨⟨⟨⟨h1, h2⟩, h3⟩, h4⟩, h5⟩, h6⟩ := h
  simp [escB, h1, h2, h3, h4, h5, h6]

theorem escL_append (a b : List UInt8) : escL (a ++ b) = escL a ++ escL b := by simp [escL]
theorem escL_cons (c : UInt8) (b : List UInt8) : escL (c :: b) = escB c ++ escL b := by simp [escL]
theorem escL_plain : ∀ {l : List UInt8}, (∀ b ∈ l, special b = false) → escL l = l
  | [], _ => rfl
  | c :: l, h => by
    rw [escL_cons, escB_plain (h c (by simp)), escL_plain (fun b hb => h b (by simp [hb]))]
    rfl

theorem escB_length (b : UInt8) : (escB b).length ≤ 5 := by
  unfold escB
  repeat' split
  all_goals simp

theorem escL_length : ∀ l : List UInt8, (escL l).length ≤ 5 * l.length
  | [] => Nat.le_refl _
  | c :: l => by
    have h1 := escB_length c
    have h2 := escL_length l
    rw [escL_cons, List.length_append, List.length_cons]
    omega

/-- None of the first n bytes is special. -/
def NoSp (l : List UInt8) (n : Nat) : Prop := ∀ j, j < n → special (l.getD j 0) = false

theorem special_low {b : UInt8} (h : special b = true) : b.toNat < 128 := by
  simp only [special, Bool.or_eq_true, beq_iff_eq] at h
  rcases h with ((((h | h) | h) | h) | h) | h <;> subst h <;> decide

theorem special_of {b : UInt8} (h : b.toNat = 38 ∨ b.toNat = 39 ∨ b.toNat = 60 ∨ b.toNat = 62 ∨ b.toNat = 34 ∨ b.toNat = 13) : special b = true := by
  have e : b = UInt8.ofNat b.toNat := by simp
  rcases h with h | h | h | h | h | h <;> (rw [e, h]; decide)

theorem special_is {b : UInt8} (h : special b = true) : b.toNat = 38 ∨ b.toNat = 39 ∨ b.toNat = 60 ∨ b.toNat = 62 ∨ b.toNat = 34 ∨ b.toNat = 13 := by
  simp only [special, Bool.or_eq_true, beq_iff_eq] at h
  rcases h with ((((h | h) | h) | h) | h) | h <;> subst h <;> decide

/-- The texts that escape looks for. -/
def escSet : List Nat := [38, 39, 60, 62, 34, 13]

theorem decode_low {s : ByteArray} {pos : Nat} (h : (Utf8.decode s pos).1 < 128) : (s.data.toList.getD pos 0).toNat = (Utf8.decode s pos).1 := by
  rw [Lib.decode_N] at *
  rcases Lib.decodeN_cases (s.data.toList.length - pos) (s.data.toList.getD pos 0).toNat (s.data.toList.getD (pos + 1) 0).toNat (s.data.toList.getD (pos + 2) 0).toNat (s.data.toList.getD (pos + 3) 0).toNat with ⟨_, e⟩ | ⟨_, _, _, h2, e⟩ | ⟨_, _, _, _, h2, e⟩ | ⟨h2, _⟩ | e
  · rw [e]
  · rw [e] at h; simp only at h; omega
  · rw [e] at h; simp only at h; omega
  · omega
  · rw [e] at h; simp only at h; omega

theorem step_no {s : ByteArray} {pos : Nat} (hp : pos < s.size) (hn : NoSp s.data.toList pos) (hr : ∀ c ∈ escSet, (Utf8.decode s pos).1 ≠ c) :
    NoSp s.data.toList (pos + (Utf8.decode s pos).2) ∧ pos + (Utf8.decode s pos).2 ≤ s.size := by
  have hl : s.data.toList.length = s.size := by rw [Array.length_toList]; rfl
  have hw := Lib.width_pos s pos
  have hc := Lib.decodeN_conts (s.data.toList.length - pos) (s.data.toList.getD pos 0).toNat (s.data.toList.getD (pos + 1) 0).toNat (s.data.toList.getD (pos + 2) 0).toNat (s.data.toList.getD (pos + 3) 0).toNat
  rw [← Lib.decode_N] at hc
  obtain ⟨c2, c3, c4, c5⟩ := hc
  rw [hl] at c2 c3 c4
  have hfirst : special (s.data.toList.getD pos 0) = false := by
    cases hs : special (s.data.toList.getD pos 0) with
    | false => rfl
    | true =>
      exfalso
      have h128 := special_low hs
      have e : Utf8.decode s pos = ((s.data.toList.getD pos 0).toNat, 1) := by rw [Lib.decode_N, Lib.decodeN_ascii _ _ _ _ _ h128]
      rw [e] at hr
      rcases special_is hs with h | h | h | h | h | h <;> exact hr _ (by rw [h]; simp [escSet]) rfl
  have hcont : ∀ b : UInt8, b.toNat / 64 = 2 → special b = false := by
    intro b hb
    cases hs : special b with
    | false => rfl
    | true => have := special_low hs; omega
  refine ⟨fun j hj => ?_, by omega⟩
  by_cases h0 : j < pos
  · exact hn j h0
  · by_cases e0 : j = pos
    · subst e0; exact hfirst
    · by_cases e1 : j = pos + 1
      · subst e1; exact hcont _ (c2 (by omega)).1
      · by_cases e2 : j = pos + 2
        · subst e2; exact hcont _ (c3 (by omega)).1
        · obtain rfl : j = pos + 3 := by omega
          exact hcont _ (c4 (by omega)).1

theorem step_yes {s : ByteArray} {pos : Nat} {c : Nat} (hc : c ∈ escSet) (hr : (Utf8.decode s pos).1 = c) : special (s.data.toList.getD pos 0) = true := by
  have h128 : (Utf8.decode s pos).1 < 128 := by
    rw [hr]
    simp [escSet] at hc
    rcases hc with h | h | h | h | h | h <;> omega
  apply special_of
  rw [decode_low h128, hr]
  simpa [escSet] using hc

theorem xtr_list (z : ByteArray) (i j : Nat) : (z.extract i j).data.toList = (z.data.toList.drop i).take (j - i) := by
  rw [ByteArray.data_extract, Array.toList_extract, List.extract_eq_take_drop]

/-- Where the first special byte of a text stands. -/
def IdxAt (l : List UInt8) (r : Int) : Prop := (r = -1 ∧ NoSp l l.length) ∨ ∃ i : Nat, i < l.length ∧ r = (i : Int) ∧ NoSp l i ∧ special (l.getD i 0) = true

theorem noSp_all {l : List UInt8} (h : NoSp l l.length) : escL l = l := by
  refine escL_plain fun b hb => ?_
  obtain ⟨i, hi, rfl⟩ := List.getElem_of_mem hb
  have := h i hi
  rwa [List.getD_eq_getElem?_getD, List.getElem?_eq_getElem hi] at this

theorem escL_at {l : List UInt8} {i : Nat} (hi : i < l.length) (h : NoSp l i) : escL l = l.take i ++ escB (l.getD i 0) ++ escL (l.drop (i + 1)) := by
  have h1 : escL (l.take i) = l.take i := by
    apply noSp_all
    intro j hj
    have hj' : j < i := by rw [List.length_take] at hj; omega
    have := h j hj'
    rw [List.getD_eq_getElem?_getD] at this ⊢
    rwa [List.getElem?_take_of_lt hj']
  have h2 : l.drop i = l.getD i 0 :: l.drop (i + 1) := by
    rw [List.drop_eq_getElem_cons hi, List.getD_eq_getElem?_getD, List.getElem?_eq_getElem hi]
    rfl
  rw [← List.take_append_drop i l] 
  conv => lhs; rw [escL_append, h1, h2, escL_cons]
  rw [List.take_append_drop, List.append_assoc]

end Go.Proofs.YtphppdbhofeagaaDoor
