/- A text whose signs are escaped: what it is, and that it is read back as a name. -/
import Derived.Test.YtbikpalfhlgnoaaDoorNameF
import Derived.Lib.ConvBytes
namespace Go.Proofs.YtbikpalfhlgnoaaDoor
open Go.RowKit
set_option linter.unusedVariables false
set_option linter.unusedSimpArgs false

/-- A sign: a byte of ASCII that is seen and is no letter, digit, underscore. -/
def isSign (n : Int) : Bool := decide (32 ≤ n ∧ n < 127 ∧ ¬ ((48 ≤ n ∧ n ≤ 57) ∨ (97 ≤ n ∧ n ≤ 122) ∨ (65 ≤ n ∧ n ≤ 90) ∨ n = 95))

/-- These bytes. -/
def bs (l : List UInt8) : ByteArray := ⟨l.toArray⟩

theorem bs_size (l : List UInt8) : (bs l).size = l.length := by simp [bs, ByteArray.size]
theorem bs_append (l m : List UInt8) : bs l ++ bs m = bs (l ++ m) := by
  apply ByteArray.ext
  simp [bs]
theorem bs_get (l : List UInt8) (i : Nat) (h : i < (bs l).size) : (bs l)[i] = l[i]'(by rw [← bs_size]; exact h) := by
  show (bs l).data[i]'h = _
  simp [bs]

theorem extract_one {s : ByteArray} {i : Nat} (h : i < s.size) : s.extract i (i + 1) = bs [s[i]] := by
  apply ByteArray.ext
  rw [ByteArray.data_extract]
  apply Array.ext
  · simp [bs]; have : i < s.data.size := h; omega
  · intro j h1 h2
    simp [bs] at h2
    subst h2
    simp [bs]
    rfl

theorem nx_bs {l : List UInt8} {i : Nat} {b : UInt8} (h : l[i]? = some b) : nx (bs l) i = (b.toNat : Int) := by
  obtain ⟨hi, he⟩ := List.getElem?_eq_some_iff.1 h
  rw [nx_lt (by rw [bs_size]; exact hi), bs_get, he]

theorem extract_bs {l : List UInt8} {i : Nat} {b : UInt8} (h : l[i]? = some b) : (bs l).extract i (i + 1) = bs [b] := by
  obtain ⟨hi, he⟩ := List.getElem?_eq_some_iff.1 h
  rw [extract_one (by rw [bs_size]; exact hi), bs_get, he]

/-- What a byte is written as. -/
def chunk (s : ByteArray) (k : Nat) : List UInt8 := (if isSign (nx s k) = true then [92] else []) ++ (if h : k < s.size then [s[k]] else [])

/-- What the first k bytes are written as. -/
def sg (s : ByteArray) : Nat → List UInt8
  | 0 => []
  | k + 1 => sg s k ++ chunk s k

theorem sg_sign {s : ByteArray} {k : Nat} (h : k < s.size) (hs : isSign (nx s k) = true) : sg s (k + 1) = sg s k ++ [92] ++ [s[k]] := by
  simp [sg, chunk, h, hs]
theorem sg_plain {s : ByteArray} {k : Nat} (h : k < s.size) (hs : isSign (nx s k) = false) : sg s (k + 1) = sg s k ++ [s[k]] := by
  simp [sg, chunk, h, hs]

theorem sg_len (s : ByteArray) : ∀ k, (sg s k).length ≤ 2 * k
  | 0 => by simp [sg]
  | k + 1 => by
    have := sg_len s k
    simp only [sg, chunk, List.length_append]
    have h1 : (if isSign (nx s k) = true then [(92 : UInt8)] else []).length ≤ 1 := by split <;> simp
    have h2 : (if h : k < s.size then [s[k]] else []).length ≤ 1 := by split <;> simp
    omega

theorem sg_prefix (s : ByteArray) (k : Nat) : ∀ d, ∃ r, sg s (k + d) = sg s k ++ r
  | 0 => ⟨[], by simp⟩
  | d + 1 => by
    obtain ⟨r, hr⟩ := sg_prefix s k d
    exact ⟨r ++ chunk s (k + d), by rw [← Nat.add_assoc]; simp only [sg]; rw [hr, List.append_assoc]⟩

theorem pn_sg (s : ByteArray) (hc : NoCtl s) : ∀ k, k ≤ s.size → pn (bs (sg s s.size)) 0 ByteArray.empty = pn (bs (sg s s.size)) (sg s k).length (s.extract 0 k)
  | 0, _ => by simp [sg]
  | k + 1, hk => by
    have hks : k < s.size := by omega
    rw [pn_sg s hc k (by omega)]
    obtain ⟨r, hr⟩ := sg_prefix s (k + 1) (s.size - (k + 1))
    rw [show k + 1 + (s.size - (k + 1)) = s.size by omega] at hr
    have hctl := hc k hks
    simp only [isCtl, decide_eq_false_iff_not, not_or] at hctl
    have hsz := nx_le s k
    have hx := nx_lt hks
    have hout : s.extract 0 k ++ bs [s[k]] = s.extract 0 (k + 1) := by rw [← extract_one hks, extract_snoc s (by omega) hks]
    cases hsg : isSign (nx s k)
    · have he := sg_plain hks hsg
      have hlen : (sg s (k + 1)).length = (sg s k).length + 1 := by rw [he]; simp
      have hget : (sg s s.size)[(sg s k).length]? = some s[k] := by rw [hr, he]; simp
      have hlt : (sg s k).length < (bs (sg s s.size)).size := by rw [bs_size, hr, List.length_append, hlen]; omega
      have hnc : isNc (nx (bs (sg s s.size)) (sg s k).length) = true := by
        rw [nx_bs hget, ← hx]
        simp only [isSign, decide_eq_false_iff_not] at hsg
        simp only [isNc, decide_eq_true_eq]
        omega
      rw [pn_nc hlt hnc, extract_bs hget, hout, hlen]
    · have he := sg_sign hks hsg
      have hlen : (sg s (k + 1)).length = (sg s k).length + 2 := by rw [he]; simp
      have hget : (sg s s.size)[(sg s k).length]? = some 92 := by rw [hr, he]; simp
      have hget2 : (sg s s.size)[(sg s k).length + 1]? = some s[k] := by
        rw [hr, he, show sg s k ++ [92] ++ [s[k]] ++ r = (sg s k ++ [92]) ++ ([s[k]] ++ r) by simp, show (sg s k).length + 1 = (sg s k ++ [92]).length by simp]
        simp
      have hlt : (sg s k).length < (bs (sg s s.size)).size := by rw [bs_size, hr, List.length_append, hlen]; omega
      have hlt2 : ¬ (bs (sg s s.size)).size < (sg s k).length + 2 := by rw [bs_size, hr, List.length_append, hlen]; omega
      simp only [isSign, decide_eq_true_eq] at hsg
      have hn := nx_bs hget2
      rw [← hx] at hn
      have hes : esc (bs (sg s s.size)) (sg s k).length = some (bs [s[k]], (sg s k).length + 2) := by
        unfold esc
        rw [if_neg hlt2, hn, if_neg (by omega), if_neg (by simp only [isHx, decide_eq_true_eq]; omega), ← extract_bs hget2]
      rw [pn_some hlt (by rw [nx_bs hget]; rfl) hes, hout, hlen]

theorem pn_signed (s : ByteArray) (hc : NoCtl s) : pn (bs (sg s s.size)) 0 ByteArray.empty = some (s, (bs (sg s s.size)).size) := by
  rw [pn_sg s hc s.size (Nat.le_refl _), pn_end (by rw [bs_size]; exact Nat.le_refl _), bs_size]
  congr 2
  apply ByteArray.ext
  rw [ByteArray.data_extract]
  simp

end Go.Proofs.YtbikpalfhlgnoaaDoor
