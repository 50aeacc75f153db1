/- Parts of a proof: Signed, NamedF, SpAt, SpTx, Sels, SpWf, SpFits, SpUn, SpParts, SpSpine. -/
import Derived.Test.YtoanofdomhnafaaGreatDoorG01
import Derived.Lib.ConvBytes
import Derived.Test.YtoanofdomhnafaaGreatDoorG00
set_option linter.unusedVariables false
set_option linter.unusedSimpArgs false
namespace Go.Proofs.YtoanofdomhnafaaGreatDoor
open Go.RowKit
/-- These bytes. -/
def bs (l : List UInt8) : ByteArray := ⟨l.toArray⟩
theorem bs_size (l : List UInt8) : (bs l).size = l.length := by simp [bs, ByteArray.size]
theorem bs_append (l m : List UInt8) : bs l ++ bs m = bs (l ++ m) := by
  apply ByteArray.ext
  simp [bs]
theorem bs_get (l : List UInt8) (i : Nat) (h : i < (bs l).size) : (bs l)[i] = l[i]'(by rw [← bs_size]; exact h) := by
  show (bs l).data[i]'h = _
  simp [bs]
theorem extract_one {s : ByteArray} {i : Nat} (h : i < s.size) : s.extract i (i + 1) = bs [s[i]] := by
  apply ByteArray.ext
  rw [ByteArray.data_extract]
  apply Array.ext
  · simp [bs]; have : i < s.data.size := h; omega
  · intro j h1 h2
    simp [bs] at h2
    subst h2
    simp [bs]
    rfl
theorem nx_bs {l : List UInt8} {i : Nat} {b : UInt8} (h : l[i]? = some b) : nx (bs l) i = (b.toNat : Int) := by
  obtain ⟨hi, he⟩ := List.getElem?_eq_some_iff.1 h
  rw [nx_lt (by rw [bs_size]; exact hi), bs_get, he]
/-- A hexadecimal digit. -/
def hxd (d : Nat) : UInt8 := if d < 10 then UInt8.ofNat (48 + d) else UInt8.ofNat (87 + d)
/-- A byte as an escape by its number. -/
def esx (c : Nat) : List UInt8 := [92] ++ (if c < 16 then [hxd c] else [hxd (c / 16), hxd (c % 16)]) ++ [32]
theorem hxd_hex : ∀ d : Fin 16, isHx ((hxd d.val).toNat : Int) = true ∧ hxv ((hxd d.val).toNat : Int) = d.val := by decide +kernel
theorem hxd_is {d : Nat} (h : d < 16) : isHx ((hxd d).toNat : Int) = true ∧ hxv ((hxd d).toNat : Int) = d := hxd_hex ⟨d, h⟩
theorem encode_small : ∀ c : Fin 128, Utf8.encode (c.val : Int) = bs [UInt8.ofNat c.val] := by decide +kernel
theorem get_at {α : Type} (l m : List α) (i : Nat) : (l ++ m)[l.length + i]? = m[i]? := by
  rw [List.getElem?_append_right (by omega), Nat.add_sub_cancel_left]
/-- An escape by number, in a text. -/
theorem esc_esx {l r : List UInt8} {c : Nat} (h0 : 0 < c) (h : c < 128) : esc (bs (l ++ esx c ++ r)) l.length = some (bs [UInt8.ofNat c], l.length + (esx c).length) := by
  have henc := encode_small ⟨c, h⟩
  simp only at henc
  by_cases h16 : c < 16
  · have he : esx c = [92, hxd c, 32] := by simp [esx, h16]
    obtain ⟨hx, hv⟩ := hxd_is h16
    have n1 : nx (bs (l ++ esx c ++ r)) (l.length + 1) = ((hxd c).toNat : Int) := nx_bs (by rw [he]; simp)
    have n2 : nx (bs (l ++ esx c ++ r)) (l.length + 1 + 1) = 32 := by rw [nx_bs (b := 32) (by rw [List.append_assoc, Nat.add_assoc, get_at, he]; rfl)]; rfl
    have hsz : ¬ (bs (l ++ esx c ++ r)).size < l.length + 2 := by rw [bs_size, he]; simp
    have hN : hexN (bs (l ++ esx c ++ r)) (l.length + 1) 6 = 1 := by
      have h1 := hexN_of (s := bs (l ++ esx c ++ r)) (st := l.length + 1) 1 (fun m hm => by rw [show l.length + 1 + m = l.length + 1 by omega, n1]; exact hx)
      exact hexN_stop h1 (by rw [n2]; decide) 5
    have hnl : ¬ (nx (bs (l ++ esx c ++ r)) (l.length + 1) = 13 ∨ nx (bs (l ++ esx c ++ r)) (l.length + 1) = 10 ∨ nx (bs (l ++ esx c ++ r)) (l.length + 1) = 12) := by
      rw [n1]
      simp only [isHx, decide_eq_true_eq] at hx
      omega
    rw [esc_hex hsz hnl (by rw [n1]; exact hx) hN]
    have hval : hexVal (bs (l ++ esx c ++ r)) (l.length + 1) 1 = c := by
      simp only [hexVal, Nat.add_zero, n1, hv]
      omega
    have hws : wsSkip (bs (l ++ esx c ++ r)) (l.length + 1 + 1) = l.length + 3 := by
      unfold wsSkip
      rw [n2, if_neg (by decide), if_pos (by decide)]
    rw [hval, hws, henc, he]
    rfl
  · have he : esx c = [92, hxd (c / 16), hxd (c % 16), 32] := by simp [esx, h16]
    obtain ⟨hx, hv⟩ := hxd_is (show c / 16 < 16 by omega)
    obtain ⟨hx2, hv2⟩ := hxd_is (show c % 16 < 16 by omega)
    have n1 : nx (bs (l ++ esx c ++ r)) (l.length + 1) = ((hxd (c / 16)).toNat : Int) := nx_bs (by rw [he]; simp)
    have n2 : nx (bs (l ++ esx c ++ r)) (l.length + 1 + 1) = ((hxd (c % 16)).toNat : Int) := nx_bs (by rw [List.append_assoc, Nat.add_assoc, get_at, he]; rfl)
    have n3 : nx (bs (l ++ esx c ++ r)) (l.length + 1 + 2) = 32 := by rw [nx_bs (b := 32) (by rw [List.append_assoc, Nat.add_assoc, get_at, he]; rfl)]; rfl
    have hsz : ¬ (bs (l ++ esx c ++ r)).size < l.length + 2 := by rw [bs_size, he]; simp
    have hN : hexN (bs (l ++ esx c ++ r)) (l.length + 1) 6 = 2 := by
      have h1 := hexN_of (s := bs (l ++ esx c ++ r)) (st := l.length + 1) 2 (fun m hm => by
        rcases (show m = 0 ∨ m = 1 by omega) with h3 | h3
        · rw [h3, Nat.add_zero, n1]; exact hx
        · rw [h3, n2]; exact hx2)
      exact hexN_stop h1 (by rw [n3]; decide) 4
    have hnl : ¬ (nx (bs (l ++ esx c ++ r)) (l.length + 1) = 13 ∨ nx (bs (l ++ esx c ++ r)) (l.length + 1) = 10 ∨ nx (bs (l ++ esx c ++ r)) (l.length + 1) = 12) := by
      rw [n1]
      simp only [isHx, decide_eq_true_eq] at hx
      omega
    rw [esc_hex hsz hnl (by rw [n1]; exact hx) hN]
    have hval : hexVal (bs (l ++ esx c ++ r)) (l.length + 1) 2 = c := by
      simp only [hexVal, Nat.add_zero, n1, n2, hv, hv2]
      omega
    have hws : wsSkip (bs (l ++ esx c ++ r)) (l.length + 1 + 2) = l.length + 4 := by
      unfold wsSkip
      rw [n3, if_neg (by decide), if_pos (by decide)]
    rw [hval, hws, henc, he]
    rfl
/-- The byte is written by its number. -/
def byNum (s : ByteArray) (k : Nat) : Bool := decide (nx s k < 32 ∨ nx s k = 127 ∨ ((48 ≤ nx s k ∧ nx s k ≤ 57) ∧ (k = 0 ∨ (k = 1 ∧ nx s 0 = 45))) ∨ (nx s k = 45 ∧ k = 1 ∧ nx s 0 = 45))
/-- What a byte is written as. -/
def nchunk (s : ByteArray) (k : Nat) : List UInt8 :=
  if h : k < s.size then (if byNum s k = true then esx s[k].toNat else if isNc (nx s k) = true then [s[k]] else [92, s[k]]) else []
def ng (s : ByteArray) : Nat → List UInt8
  | 0 => []
  | k + 1 => ng s k ++ nchunk s k
theorem ng_prefix (s : ByteArray) (k : Nat) : ∀ d, ∃ r, ng s (k + d) = ng s k ++ r
  | 0 => ⟨[], by simp⟩
  | d + 1 => by
    obtain ⟨r, hr⟩ := ng_prefix s k d
    exact ⟨r ++ nchunk s (k + d), by rw [← Nat.add_assoc]; simp only [ng]; rw [hr, List.append_assoc]⟩
theorem esx_len (c : Nat) : (esx c).length ≤ 4 := by
  unfold esx
  split <;> simp
theorem ng_len (s : ByteArray) : ∀ k, (ng s k).length ≤ 4 * k
  | 0 => by simp [ng]
  | k + 1 => by
    have := ng_len s k
    have h2 : (nchunk s k).length ≤ 4 := by
      unfold nchunk
      split
      · split
        · exact esx_len _
        · split <;> simp
      · simp
    simp only [ng, List.length_append]
    omega
/-- spec.Named. -/
def namedF (s : ByteArray) : List UInt8 := if s.toList == [45] then [92, 45] else ng s s.size
theorem nchunk_first {s : ByteArray} {k : Nat} (h : k < s.size) : ∃ b r, nchunk s k = b :: r ∧ (b = 92 ∨ (b = s[k] ∧ isNc (nx s k) = true ∧ byNum s k = false)) := by
  unfold nchunk
  rw [dif_pos h]
  cases hb : byNum s k
  · cases hn : isNc (nx s k)
    · exact ⟨92, [s[k]], by simp, .inl rfl⟩
    · exact ⟨s[k], [], by simp, .inr ⟨rfl, rfl, rfl⟩⟩
  · unfold esx
    exact ⟨92, _, by simp; rfl, .inl rfl⟩
theorem ns_of {n : Int} (h : isNc n = true) (hd : ¬ (48 ≤ n ∧ n ≤ 57)) (h45 : n ≠ 45) : isNs n = true := by
  simp only [isNc, decide_eq_true_eq] at h
  simp only [isNs, decide_eq_true_eq]
  omega
/-- T stands in s at place i. -/
def At (s : ByteArray) (i : Nat) (T : List UInt8) : Prop := ∃ L R, s = bs (L ++ T ++ R) ∧ L.length = i
theorem At.le {s : ByteArray} {i : Nat} {T : List UInt8} (h : At s i T) : i + T.length ≤ s.size := by
  obtain ⟨L, R, rfl, rfl⟩ := h
  rw [bs_size]; simp
theorem At.left {s : ByteArray} {i : Nat} {A B : List UInt8} (h : At s i (A ++ B)) : At s i A := by
  obtain ⟨L, R, rfl, rfl⟩ := h
  exact ⟨L, B ++ R, by simp, rfl⟩
theorem At.right {s : ByteArray} {i : Nat} {A B : List UInt8} (h : At s i (A ++ B)) : At s (i + A.length) B := by
  obtain ⟨L, R, rfl, rfl⟩ := h
  exact ⟨L ++ A, R, by simp, by simp⟩
theorem At.tail {s : ByteArray} {i : Nat} {a : UInt8} {B : List UInt8} (h : At s i (a :: B)) : At s (i + 1) B := At.right (A := [a]) h
theorem At.byte {s : ByteArray} {i : Nat} {T : List UInt8} (h : At s i T) {j : Nat} {b : UInt8} (hb : T[j]? = some b) : nx s (i + j) = (b.toNat : Int) := by
  obtain ⟨L, R, rfl, rfl⟩ := h
  refine nx_bs ?_
  have hj : j < T.length := by
    rcases Nat.lt_or_ge j T.length with h | h
    · exact h
    · rw [List.getElem?_eq_none h] at hb; cases hb
  rw [List.append_assoc, get_at, List.getElem?_append_left hj, hb]
theorem At.head {s : ByteArray} {i : Nat} {b : UInt8} {T : List UInt8} (h : At s i (b :: T)) : nx s i = (b.toNat : Int) := by
  have := h.byte (j := 0) (b := b) rfl
  rwa [Nat.add_zero] at this
theorem At.lt {s : ByteArray} {i : Nat} {b : UInt8} {T : List UInt8} (h : At s i (b :: T)) : i < s.size := by
  have := h.le
  simp at this
  omega
/-- The byte that stands at a place. -/
theorem At.get {s : ByteArray} {i : Nat} {b : UInt8} {T : List UInt8} (h : At s i (b :: T)) : s[i]'h.lt = b := by
  have h1 := nx_lt h.lt
  rw [h.head] at h1
  exact (UInt8.toNat.inj (Int.ofNat.inj h1)).symm
theorem At.one {s : ByteArray} {i : Nat} {b : UInt8} {T : List UInt8} (h : At s i (b :: T)) : s.extract i (i + 1) = bs [b] := by
  rw [extract_one h.lt, h.get]
theorem At.ext {s : ByteArray} {i : Nat} {T : List UInt8} (h : At s i T) : s.extract i (i + T.length) = bs T := by
  obtain ⟨L, R, rfl, rfl⟩ := h
  apply ByteArray.ext
  rw [ByteArray.data_extract]
  apply Array.toList_inj.1
  simp [bs, List.extract]
/-- Behind the piece no name goes on. -/
def Stop (s : ByteArray) (j : Nat) : Prop := isNc (nx s j) = false ∧ nx s j ≠ 92
theorem Stop.end_ {s : ByteArray} : Stop s s.size := by
  have := nx_end (s := s) (k := s.size) (Nat.le_refl _)
  exact ⟨by rw [this]; decide, by rw [this]; decide⟩
/-- An escape by number, at a place. -/
theorem At.num {s : ByteArray} {i c : Nat} {T : List UInt8} (h : At s i (esx c ++ T)) (h0 : 0 < c) (hc : c < 128) : esc s i = some (bs [UInt8.ofNat c], i + (esx c).length) := by
  obtain ⟨L, R, rfl, rfl⟩ := h
  have := esc_esx (l := L) (r := T ++ R) h0 hc
  rwa [show L ++ esx c ++ (T ++ R) = L ++ (esx c ++ T) ++ R by simp] at this
/-- An escape of a sign, at a place. -/
theorem At.lit {s : ByteArray} {i : Nat} {b : UInt8} {T : List UInt8} (h : At s i (92 :: b :: T)) (h1 : isHx (b.toNat : Int) = false) (h2 : ¬ ((b.toNat : Int) = 13 ∨ (b.toNat : Int) = 10 ∨ (b.toNat : Int) = 12)) : esc s i = some (bs [b], i + 2) := by
  have hn := h.tail.head
  have hle := h.le
  simp at hle
  rw [esc_lit (by omega) (by rw [hn]; exact h2) (by rw [hn]; exact h1), h.tail.one]
/-- A written name, byte by byte. -/
theorem pn_ngA (t : ByteArray) (hz : ∀ i, i < t.size → nx t i ≠ 0) {s : ByteArray} {i : Nat} (h : At s i (ng t t.size)) : ∀ k, k ≤ t.size → pn s i ByteArray.empty = pn s (i + (ng t k).length) (t.extract 0 k)
  | 0, _ => by simp [ng]
  | k + 1, hk => by
    have hks : k < t.size := by omega
    rw [pn_ngA t hz h k (by omega)]
    obtain ⟨r, hr⟩ := ng_prefix t (k + 1) (t.size - (k + 1))
    rw [show k + 1 + (t.size - (k + 1)) = t.size by omega] at hr
    have hx := nx_lt hks
    have hx0 := nx_nonneg t k
    have hx1 := nx_le t k
    have hzk := hz k hks
    have hout : t.extract 0 k ++ bs [t[k]] = t.extract 0 (k + 1) := by rw [← extract_one hks, extract_snoc t (by omega) hks]
    have hA : At s (i + (ng t k).length) (nchunk t k ++ r) := by
      have h2 := h
      rw [hr] at h2
      simp only [ng, List.append_assoc] at h2
      exact h2.right
    have hlen : i + (ng t (k + 1)).length = i + (ng t k).length + (nchunk t k).length := by simp [ng]; omega
    rw [hlen]
    cases hb : byNum t k
    · cases hn : isNc (nx t k)
      · have hc : nchunk t k = [92, t[k]] := by simp [nchunk, hks, hb, hn]
        rw [hc] at hA ⊢
        have hA' : At s (i + (ng t k).length) (92 :: t[k] :: r) := hA
        simp only [byNum, decide_eq_false_iff_not] at hb
        simp only [isNc, decide_eq_false_iff_not] at hn
        rw [hx] at hb hn hx0 hx1
        rw [pn_some hA'.lt (by rw [hA'.head]; rfl) (hA'.lit (by simp only [isHx, decide_eq_false_iff_not]; omega) (by omega)), hout]
        rfl
      · have hc : nchunk t k = [t[k]] := by simp [nchunk, hks, hb, hn]
        rw [hc] at hA ⊢
        have hA' : At s (i + (ng t k).length) (t[k] :: r) := hA
        rw [pn_nc hA'.lt (by rw [hA'.head, ← hx]; exact hn), hA'.one, hout]
        rfl
    · have hc : nchunk t k = esx t[k].toNat := by simp [nchunk, hks, hb]
      simp only [byNum, decide_eq_true_eq] at hb
      rw [hc] at hA ⊢
      have hA' : At s (i + (ng t k).length) (92 :: ((esx t[k].toNat).drop 1 ++ r)) := hA
      have he := hA.num (by omega) (by omega)
      rw [show UInt8.ofNat t[k].toNat = t[k] by simp] at he
      rw [pn_some hA'.lt (by rw [hA'.head]; rfl) he, hout]
theorem pn_namedA (t : ByteArray) (hz : ∀ i, i < t.size → nx t i ≠ 0) {s : ByteArray} {i : Nat} (h : At s i (namedF t)) (hs : Stop s (i + (namedF t).length)) : pn s i ByteArray.empty = some (t, i + (namedF t).length) := by
  unfold namedF at h hs ⊢
  split at h
  · rename_i h45
    rw [if_pos h45] at hs ⊢
    have ht : t = bs [45] := by
      rw [ByteArray.toList_eq] at h45
      have h46 : t.data.toList = [45] := by simpa using h45
      apply ByteArray.ext
      exact Array.toList_inj.1 (by rw [h46]; rfl)
    have he := h.lit (by decide) (by decide)
    rw [pn_some h.lt (by rw [h.head]; rfl) he, ByteArray.empty_append, ht]
    exact pn_stop hs.1 hs.2
  · rename_i h45
    rw [if_neg h45] at hs ⊢
    rw [pn_ngA t hz h t.size (Nat.le_refl _), pn_stop hs.1 hs.2]
    congr 2
    apply ByteArray.ext
    rw [ByteArray.data_extract]
    simp
/-- A plain word (bytes of names alone). -/
theorem pn_wordA {s : ByteArray} {i : Nat} {T : List UInt8} (h : At s i T) (hT : ∀ b ∈ T, isNc (b.toNat : Int) = true) (hs : Stop s (i + T.length)) : pn s i ByteArray.empty = some (bs T, i + T.length) := by
  rw [pn_run (i + T.length) (by omega) h.le (fun j h1 h2 => by
    have hj : j - i < T.length := by omega
    have := h.byte (j := j - i) (b := T[j - i]) (List.getElem?_eq_getElem hj)
    rw [show i + (j - i) = j by omega] at this
    rw [this]
    exact hT _ (List.getElem_mem _)), ByteArray.empty_append, h.ext, pn_stop hs.1 hs.2]
/-- What is behind hyphens at a place. -/
def HyphA (s : ByteArray) (i m : Nat) : Prop := i + m ≤ s.size ∧ (∀ j, j < m → nx s (i + j) = 45) ∧ nx s (i + m) ≠ 45
/-- A name may begin at a place. -/
def startA (s : ByteArray) (i : Nat) : Prop := i < s.size ∧ (isNs (nx s i) = true ∨ nx s i = 92)
/-- A written name begins as a name begins, behind its hyphens. -/
theorem named_startA {t : ByteArray} (hne : 0 < t.size) {s : ByteArray} {i : Nat} (h : At s i (namedF t)) : ∃ m, HyphA s i m ∧ startA s (i + m) ∧ m ≤ 1 := by
  have zero : ∀ b r, namedF t = b :: r → (b = 92 ∨ isNs (b.toNat : Int) = true) → ∃ m, HyphA s i m ∧ startA s (i + m) ∧ m ≤ 1 := by
    intro b r he hb
    rw [he] at h
    have hx := h.head
    refine ⟨0, ⟨Nat.le_of_lt h.lt, fun j hj => absurd hj (by omega), ?_⟩, ⟨h.lt, ?_⟩, by omega⟩
    · rw [Nat.add_zero, hx]
      rcases hb with hb | hb
      · rw [hb]; decide
      · intro e; rw [e] at hb; exact absurd hb (by decide)
    · rw [Nat.add_zero, hx]
      rcases hb with hb | hb
      · exact .inr (by rw [hb]; rfl)
      · exact .inl hb
  by_cases h45 : (t.toList == [45]) = true
  · exact zero 92 [45] (by unfold namedF; rw [if_pos h45]) (.inl rfl)
  · have hnf : namedF t = ng t t.size := by unfold namedF; rw [if_neg h45]
    obtain ⟨r0, hr0⟩ := ng_prefix t 1 (t.size - 1)
    rw [show 1 + (t.size - 1) = t.size by omega] at hr0
    obtain ⟨b, r, hb, hcase⟩ := nchunk_first (s := t) (k := 0) hne
    have hfull : namedF t = b :: (r ++ r0) := by rw [hnf, hr0]; simp [ng, hb]
    rcases hcase with hcase | ⟨hbs, hn, hbn⟩
    · exact zero b _ hfull (.inl hcase)
    · have hx0 := nx_lt hne
      by_cases h0 : nx t 0 = 45
      · have hs2 : 1 < t.size := by
          rcases Nat.lt_or_ge 1 t.size with h | h
          · exact h
          · exfalso
            apply h45
            have h1 : t.size = 1 := by omega
            have hd : t.data.toList = [45] := by
              apply List.ext_getElem
              · simpa using h1
              · intro i hi1 hi2
                simp at hi2
                subst hi2
                rw [hx0] at h0
                simp
                exact UInt8.toNat.inj (show t[0].toNat = (45 : UInt8).toNat from Int.ofNat.inj h0)
            rw [ByteArray.toList_eq, hd]
            rfl
        obtain ⟨r1, hr1⟩ := ng_prefix t 2 (t.size - 2)
        rw [show 2 + (t.size - 2) = t.size by omega] at hr1
        obtain ⟨b2, q2, hb2, hcase2⟩ := nchunk_first (s := t) (k := 1) hs2
        have hc0 : nchunk t 0 = [t[0]] := by
          have : nchunk t 0 = [t[0]] := by simp [nchunk, hne, hbn, hn]
          exact this
        have hfull2 : namedF t = t[0] :: b2 :: (q2 ++ r1) := by rw [hnf, hr1]; simp [ng, hc0, hb2]
        rw [hfull2] at h
        have hy0 := h.head
        have hy1 := h.tail.head
        have h45' : ((t[0].toNat : Nat) : Int) = 45 := by rw [← hx0]; exact h0
        have hb2' : b2 = 92 ∨ isNs (b2.toNat : Int) = true := by
          rcases hcase2 with h | ⟨hbs2, hn2, hbn2⟩
          · exact .inl h
          · right
            simp only [byNum, decide_eq_false_iff_not] at hbn2
            have hx1 := nx_lt hs2
            rw [hbs2, ← hx1]
            exact ns_of hn2 (fun hd => hbn2 (.inr (.inr (.inl ⟨hd, .inr ⟨trivial, h0⟩⟩)))) (fun h5 => hbn2 (.inr (.inr (.inr ⟨h5, trivial, h0⟩))))
        have hall : ∀ j, j < 1 → nx s (i + j) = 45 := fun j hj => by
          obtain rfl : j = 0 := by omega
          rw [Nat.add_zero, hy0]; exact h45'
        refine ⟨1, ⟨Nat.le_of_lt h.tail.lt, hall, ?_⟩, ⟨h.tail.lt, ?_⟩, Nat.le_refl _⟩
        · rw [hy1]
          rcases hb2' with hb | hb
          · rw [hb]; decide
          · intro e; rw [e] at hb; exact absurd hb (by decide)
        · rw [hy1]
          rcases hb2' with hb | hb
          · exact .inr (by rw [hb]; rfl)
          · exact .inl hb
      · refine zero b _ hfull (.inr ?_)
        simp only [byNum, decide_eq_false_iff_not] at hbn
        rw [hbs, ← hx0]
        exact ns_of hn (fun hd => hbn (.inr (.inr (.inl ⟨hd, .inl trivial⟩)))) h0
/-- What stands in quotes. -/
def qchunk (s : ByteArray) (k : Nat) : List UInt8 :=
  if h : k < s.size then (if nx s k < 32 ∨ nx s k = 127 then esx s[k].toNat else if nx s k = 34 ∨ nx s k = 92 then [92, s[k]] else [s[k]]) else []
def qg (s : ByteArray) : Nat → List UInt8
  | 0 => []
  | k + 1 => qg s k ++ qchunk s k
theorem qg_prefix (s : ByteArray) (k : Nat) : ∀ d, ∃ r, qg s (k + d) = qg s k ++ r
  | 0 => ⟨[], by simp⟩
  | d + 1 => by
    obtain ⟨r, hr⟩ := qg_prefix s k d
    exact ⟨r ++ qchunk s (k + d), by rw [← Nat.add_assoc]; simp only [qg]; rw [hr, List.append_assoc]⟩
theorem qg_len (s : ByteArray) : ∀ k, (qg s k).length ≤ 4 * k
  | 0 => by simp [qg]
  | k + 1 => by
    have := qg_len s k
    have h2 : (qchunk s k).length ≤ 4 := by
      unfold qchunk
      split
      · split
        · exact esx_len _
        · split <;> simp
      · simp
    simp only [qg, List.length_append]
    omega
def quoL (s : ByteArray) : List UInt8 := 34 :: (qg s s.size ++ [34])
/-- From i on a string goes on to its quote at k. -/
inductive QRun (s : ByteArray) : Nat → Nat → Prop
  | stop {i : Nat} : i < s.size → nx s i = 34 → QRun s i i
  | back {i j k : Nat} {a : ByteArray} : i < s.size → nx s i = 92 → ¬ (nx s (i + 1) = 13 ∨ nx s (i + 1) = 10 ∨ nx s (i + 1) = 12) → esc s i = some (a, j) → QRun s j k → QRun s i k
  | plain {i k : Nat} : i < s.size → nx s i ≠ 34 → nx s i ≠ 92 → nx s i ≠ 13 → nx s i ≠ 10 → nx s i ≠ 12 → QRun s (i + 1) k → QRun s i k
theorem QRun.lt {s : ByteArray} {i k : Nat} (h : QRun s i k) : i ≤ k ∧ k < s.size ∧ nx s k = 34 := by
  induction h with
  | stop h1 h2 => exact ⟨Nat.le_refl _, h1, h2⟩
  | back h1 h2 h3 h4 _ ih => have := esc_lt h4; exact ⟨by omega, ih.2⟩
  | plain h1 _ _ _ _ _ _ ih => exact ⟨by omega, ih.2⟩
theorem hxd_ne {d : Nat} (h : d < 16) : ¬ (((hxd d).toNat : Int) = 13 ∨ ((hxd d).toNat : Int) = 10 ∨ ((hxd d).toNat : Int) = 12) := by
  have := (hxd_is h).1
  simp only [isHx, decide_eq_true_eq] at this
  omega
theorem qrun_of (t : ByteArray) (hz : ∀ i, i < t.size → nx t i ≠ 0) {s : ByteArray} {i : Nat} (h : At s i (qg t t.size ++ [34])) : ∀ d, d ≤ t.size → QRun s (i + (qg t (t.size - d)).length) (i + (qg t t.size).length)
  | 0, _ => by
    have hq := h.right
    rw [Nat.sub_zero]
    exact .stop hq.lt (by rw [hq.head]; rfl)
  | d + 1, hd => by
    have ih := qrun_of t hz h d (by omega)
    obtain ⟨k, hk⟩ : ∃ k, t.size - (d + 1) = k := ⟨_, rfl⟩
    have hks : k < t.size := by omega
    rw [show t.size - d = k + 1 by omega] at ih
    rw [hk]
    obtain ⟨r, hr⟩ := qg_prefix t (k + 1) (t.size - (k + 1))
    rw [show k + 1 + (t.size - (k + 1)) = t.size by omega] at hr
    have hx := nx_lt hks
    have hx0 := nx_nonneg t k
    have hzk := hz k hks
    have hA : At s (i + (qg t k).length) (qchunk t k ++ (r ++ [34])) := by
      have h2 := h
      rw [hr] at h2
      simp only [qg, List.append_assoc] at h2
      exact h2.right
    have hlen : i + (qg t (k + 1)).length = i + (qg t k).length + (qchunk t k).length := by simp [qg]; omega
    rw [hlen] at ih
    by_cases hb : nx t k < 32 ∨ nx t k = 127
    · have hc : qchunk t k = esx t[k].toNat := by simp [qchunk, hks, hb]
      rw [hc] at hA ih
      have hA' : At s (i + (qg t k).length) (92 :: ((esx t[k].toNat).drop 1 ++ (r ++ [34]))) := hA
      have he := hA.num (by omega) (by omega)
      have hn1 : ∃ b T, (esx t[k].toNat).drop 1 ++ (r ++ [34]) = b :: T ∧ ¬ ((b.toNat : Int) = 13 ∨ (b.toNat : Int) = 10 ∨ (b.toNat : Int) = 12) := by
        unfold esx
        by_cases h16 : t[k].toNat < 16
        · exact ⟨hxd t[k].toNat, _, by simp [h16]; rfl, hxd_ne h16⟩
        · exact ⟨hxd (t[k].toNat / 16), _, by simp [h16]; rfl, hxd_ne (by omega)⟩
      obtain ⟨b, T, hbT, hb13⟩ := hn1
      have hT := hA'.tail
      rw [hbT] at hT
      exact .back hA'.lt (by rw [hA'.head]; rfl) (by rw [hT.head]; exact hb13) he ih
    · by_cases hb2 : nx t k = 34 ∨ nx t k = 92
      · have hc : qchunk t k = [92, t[k]] := by simp [qchunk, hks, hb, hb2]
        rw [hc] at hA ih
        have hA' : At s (i + (qg t k).length) (92 :: t[k] :: (r ++ [34])) := hA
        rw [hx] at hb2
        have he := hA'.lit (by rcases hb2 with h | h <;> rw [h] <;> decide) (by rcases hb2 with h | h <;> rw [h] <;> decide)
        exact .back hA'.lt (by rw [hA'.head]; rfl) (by rw [hA'.tail.head]; omega) he ih
      · have hc : qchunk t k = [t[k]] := by simp [qchunk, hks, hb, hb2]
        rw [hc] at hA ih
        have hA' : At s (i + (qg t k).length) (t[k] :: (r ++ [34])) := hA
        have hn := hA'.head
        rw [← hx] at hn
        exact .plain hA'.lt (by omega) (by omega) (by omega) (by omega) (by omega) ih
/-- A string is read to its quote. -/
theorem qrun_quo (t : ByteArray) (hz : ∀ i, i < t.size → nx t i ≠ 0) {s : ByteArray} {i : Nat} (h : At s i (quoL t)) : nx s i = 34 ∧ QRun s (i + 1) (i + (quoL t).length - 1) := by
  have h1 := h.tail
  have := qrun_of t hz h1 t.size (Nat.le_refl _)
  rw [Nat.sub_self] at this
  refine ⟨by rw [h.head]; rfl, ?_⟩
  have e : i + (quoL t).length - 1 = i + 1 + (qg t t.size).length := by simp [quoL]; omega
  rw [e]
  simpa [qg] using this
/-- A number from 0 on, in digits. -/
def decL (n : Nat) : List UInt8 := if h : n < 10 then [UInt8.ofNat (48 + n)] else decL (n / 10) ++ [UInt8.ofNat (48 + n % 10)]
termination_by n
decreasing_by omega
def sgnL (n : Int) : List UInt8 := if n < 0 then 45 :: decL n.natAbs else 43 :: decL n.toNat
def cntL (a b : Int) : List UInt8 := if a < 0 then 45 :: (decL a.natAbs ++ 110 :: sgnL b) else decL a.toNat ++ 110 :: sgnL b
/-- A selector's node as data. -/
structure SelD where
  kind : Int
  op : Int
  key : ByteArray
  val : ByteArray
  a : Int
  b : Int
  flag : Int
  size : Int
instance : Inhabited SelD := ⟨⟨0, 0, ByteArray.empty, ByteArray.empty, 0, 0, 0, 0⟩⟩
def zs (l : List SelD) (j : Nat) : Nat := (l.getD j default).size.toNat
def opL (op : Int) : List UInt8 := if op = 2 then [61] else if op = 3 then [33, 61] else if op = 4 then [126, 61] else if op = 5 then [124, 61] else if op = 6 then [94, 61] else if op = 7 then [36, 61] else [42, 61]
def nthL (f : Int) : List UInt8 := if f = 0 then [110, 116, 104, 45, 99, 104, 105, 108, 100] else if f = 1 then [110, 116, 104, 45, 108, 97, 115, 116, 45, 99, 104, 105, 108, 100] else if f = 2 then [110, 116, 104, 45, 111, 102, 45, 116, 121, 112, 101] else [110, 116, 104, 45, 108, 97, 115, 116, 45, 111, 102, 45, 116, 121, 112, 101]
def onlyL (f : Int) : List UInt8 := if f = 0 then [111, 110, 108, 121, 45, 99, 104, 105, 108, 100] else [111, 110, 108, 121, 45, 111, 102, 45, 116, 121, 112, 101]
def plainL (k : Int) : List UInt8 := if k = 8 then [101, 109, 112, 116, 121] else if k = 9 then [114, 111, 111, 116] else if k = 10 then [105, 110, 112, 117, 116] else if k = 11 then [108, 105, 110, 107] else if k = 12 then [101, 110, 97, 98, 108, 101, 100] else if k = 13 then [100, 105, 115, 97, 98, 108, 101, 100] else [99, 104, 101, 99, 107, 101, 100]
def relL (k : Int) : List UInt8 := if k = 18 then [110, 111, 116] else if k = 19 then [104, 97, 115] else [104, 97, 115, 99, 104, 105, 108, 100]
def combL (op : Int) : List UInt8 := if op = 1 then [32] else if op = 2 then [32, 62, 32] else if op = 3 then [32, 43, 32] else [32, 126, 32]
/-- A simple selector without others within. -/
def simL (x : SelD) : List UInt8 :=
  if x.kind = 1 then [42] else if x.kind = 2 then namedF x.key else if x.kind = 3 then 46 :: namedF x.val else if x.kind = 4 then 35 :: namedF x.val
  else if x.kind = 5 then (if x.op = 1 then 91 :: (namedF x.key ++ [93]) else 91 :: (namedF x.key ++ (opL x.op ++ (quoL x.val ++ ((if x.flag = 1 then [32, 105] else []) ++ [93])))))
  else if x.kind = 6 then 58 :: (nthL x.flag ++ 40 :: (cntL x.a x.b ++ [41]))
  else if x.kind = 7 then 58 :: onlyL x.flag
  else if x.kind = 15 then 58 :: ([108, 97, 110, 103] ++ 40 :: (namedF x.val ++ [41]))
  else if x.kind = 16 then 58 :: ([99, 111, 110, 116, 97, 105, 110, 115] ++ 40 :: (quoL x.val ++ [41]))
  else if x.kind = 17 then 58 :: ([99, 111, 110, 116, 97, 105, 110, 115, 79, 119, 110] ++ 40 :: (quoL x.val ++ [41]))
  else 58 :: plainL x.kind
/-- Selectors with commas between them. -/
def joinL : List (List UInt8) → List UInt8
  | [] => []
  | [t] => t
  | t :: u :: r => t ++ ([44, 32] ++ joinL (u :: r))
/-- A compound: its first kid's kind decides where the texts begin. -/
def compL (ks : List (Int × List UInt8)) : List UInt8 :=
  let first := if (ks.headD (0, [])).1 = 2 then (ks.headD (0, [])).2 else if ks.any (fun x => x.1 == 1) then [42] else []
  let rest := ((ks.filter (fun x => x.1 != 1 && x.1 != 2)).map (·.2)).flatten
  if first ++ rest = [] then [42] else first ++ rest
/-- How a node is written. -/
def tx (l : List SelD) : Nat → Nat → List UInt8
  | 0, _ => []
  | f + 1, i =>
    let x := l.getD i default
    let ks := kids (zs l) i
    if x.kind = 23 then joinL (ks.map (tx l f))
    else if x.kind = 22 then tx l f (ks.getD 0 0) ++ (combL x.op ++ tx l f (ks.getD 1 0))
    else if x.kind = 21 then compL (ks.map fun k => ((l.getD k default).kind, tx l f k))
    else if x.kind = 18 ∨ x.kind = 19 ∨ x.kind = 20 then 58 :: (relL x.kind ++ 40 :: (tx l f (ks.getD 0 0) ++ [41]))
    else simL x
/-- Three numbers. -/
abbrev Tri := Nat × Nat × Nat
def triAdd (a b : Tri) : Tri := (a.1 + b.1, a.2.1 + b.2.1, a.2.2 + b.2.2)
def triLess (a b : Tri) : Bool := if a.1 ≠ b.1 then decide (a.1 < b.1) else if a.2.1 ≠ b.2.1 then decide (a.2.1 < b.2.1) else decide (a.2.2 < b.2.2)
def triMax (a b : Tri) : Tri := if triLess a b then b else a
/-- How specific a node is. -/
def sp (l : List SelD) : Nat → Nat → Tri
  | 0, _ => (0, 0, 0)
  | f + 1, i =>
    let x := l.getD i default
    let ks := kids (zs l) i
    if x.kind = 1 then (0, 0, 0) else if x.kind = 2 then (0, 0, 1) else if x.kind = 4 then (1, 0, 0)
    else if x.kind = 21 ∨ x.kind = 22 then (ks.map (sp l f)).foldl triAdd (0, 0, 0)
    else if x.kind = 18 ∨ x.kind = 19 ∨ x.kind = 20 ∨ x.kind = 23 then (ks.map (sp l f)).foldl triMax (0, 0, 0)
    else (0, 1, 0)
/-- The cells of a selector's node, at a place of memory. -/
structure SelCells (w : World) (g o : Nat) (n : SelD) : Prop where
  kind : w.cell? ⟨g, o, none⟩ = some (.int .i64 n.kind)
  op : w.cell? ⟨g, o + 1, none⟩ = some (.int .i64 n.op)
  key : w.cell? ⟨g, o + 2, none⟩ = some (.string n.key)
  val : w.cell? ⟨g, o + 3, none⟩ = some (.string n.val)
  a : w.cell? ⟨g, o + 4, none⟩ = some (.int .i64 n.a)
  b : w.cell? ⟨g, o + 5, none⟩ = some (.int .i64 n.b)
  flag : w.cell? ⟨g, o + 6, none⟩ = some (.int .i64 n.flag)
  size : w.cell? ⟨g, o + 7, none⟩ = some (.int .i64 n.size)
  w_kind : -9223372036854775808 ≤ n.kind ∧ n.kind ≤ 9223372036854775807
  w_op : -9223372036854775808 ≤ n.op ∧ n.op ≤ 9223372036854775807
  w_key : n.key.size ≤ maxLen
  w_val : n.val.size ≤ maxLen
  w_a : -9223372036854775808 ≤ n.a ∧ n.a ≤ 9223372036854775807
  w_b : -9223372036854775808 ≤ n.b ∧ n.b ≤ 9223372036854775807
  w_flag : -9223372036854775808 ≤ n.flag ∧ n.flag ≤ 9223372036854775807
  w_size : -9223372036854775808 ≤ n.size ∧ n.size ≤ 9223372036854775807
theorem cell_belowS {w w' : World} (hb : Below w.heap.size w w') {p : Addr} {v : Value} (h : w.cell? p = some v) : w'.cell? p = some v :=
  (hb.cell (p := p) (World.block_lt_of_cell? _ _ h)).trans h
theorem SelCells.below {w w' : World} {b o : Nat} {n : SelD} (h : SelCells w b o n) (hb : Below w.heap.size w w') : SelCells w' b o n :=
  ⟨cell_belowS hb h.kind, cell_belowS hb h.op, cell_belowS hb h.key, cell_belowS hb h.val, cell_belowS hb h.a, cell_belowS hb h.b, cell_belowS hb h.flag, cell_belowS hb h.size, h.w_kind, h.w_op, h.w_key, h.w_val, h.w_a, h.w_b, h.w_flag, h.w_size⟩
/-- The nodes behind a slice's address. -/
def Sels (w : World) (a : Option Addr) (len : Nat) (l : List SelD) : Prop :=
  l.length = len ∧ len ≤ maxLen ∧ (0 < len → ∃ b off, a = some ⟨b, off, none⟩ ∧ ∀ i, i < len → SelCells w b (off + i * 8) (l.getD i default))
theorem Sels.below {w w' : World} {a : Option Addr} {len : Nat} {l : List SelD} (h : Sels w a len l) (hb : Below w.heap.size w w') : Sels w' a len l := by
  obtain ⟨h1, h2, h3⟩ := h
  refine ⟨h1, h2, fun hl => ?_⟩
  obtain ⟨b, off, rfl, hc⟩ := h3 hl
  exact ⟨b, off, rfl, fun i hi => (hc i hi).below hb⟩
theorem Sels.later {w w' : World} {B : Nat} {a : Option Addr} {len : Nat} {l : List SelD} (h : Sels w a len l) (hb : Below B w w') (hB : w.heap.size ≤ B) : Sels w' a len l := h.below (hb.mono hB)
theorem Sels.len {w : World} {a : Option Addr} {len : Nat} {l : List SelD} (h : Sels w a len l) : l.length = len ∧ len ≤ 9223372036854775807 := ⟨h.1, h.2.1⟩
theorem Sels.at {w : World} {a : Option Addr} {len : Nat} {l : List SelD} (h : Sels w a len l) (hl : 0 < len) :
    ∃ b off, a = some ⟨b, off, none⟩ ∧ ∀ i, i < len → SelCells w b (off + i * 8) (l.getD i default) := h.2.2 hl
def kdS (l : List SelD) (i : Nat) : Int := (l.getD i default).kind
def kidsS (l : List SelD) (i : Nat) : List Nat := kids (zs l) i
/-- No zero byte. -/
def NoZero (t : ByteArray) : Prop := ∀ i, i < t.size → nx t i ≠ 0
def Complex (k : Int) : Prop := 1 ≤ k ∧ k ≤ 22
structure FieldsOk (x : SelD) : Prop where
  key0 : NoZero x.key
  val0 : NoZero x.val
  named : (x.kind = 2 ∨ x.kind = 5) → 0 < x.key.size
  valued : (x.kind = 3 ∨ x.kind = 4 ∨ x.kind = 15) → 0 < x.val.size
  attr : x.kind = 5 → 1 ≤ x.op ∧ x.op ≤ 8 ∧ (x.flag = 0 ∨ x.flag = 1)
  comb : x.kind = 22 → 1 ≤ x.op ∧ x.op ≤ 4
  nth : x.kind = 6 → 0 ≤ x.flag ∧ x.flag ≤ 3
  only : x.kind = 7 → x.flag = 0 ∨ x.flag = 2
  nums : -9999 ≤ x.a ∧ x.a ≤ 9999 ∧ -9999 ≤ x.b ∧ x.b ≤ 9999
structure ShapeOk (l : List SelD) (i : Nat) : Prop where
  range : 1 ≤ kdS l i ∧ kdS l i ≤ 23
  group : kdS l i = 23 → 0 < (kidsS l i).length ∧ ∀ k ∈ kidsS l i, Complex (kdS l k)
  rel : (kdS l i = 18 ∨ kdS l i = 19 ∨ kdS l i = 20) → ∃ k, kidsS l i = [k] ∧ kdS l k = 23
  comp : kdS l i = 21 → ∀ j, j < (kidsS l i).length → 1 ≤ kdS l ((kidsS l i).getD j 0) ∧ kdS l ((kidsS l i).getD j 0) ≤ 20 ∧ (kdS l ((kidsS l i).getD j 0) = 2 → j = 0)
  comb : kdS l i = 22 → ∃ a b, kidsS l i = [a, b] ∧ Complex (kdS l a) ∧ Complex (kdS l b) ∧ kdS l b ≠ 22
  sim : kdS l i ≤ 17 → kidsS l i = []
structure SelTree (l : List SelD) : Prop where
  pos : 0 < l.length
  small : l.length ≤ 60
  size0 : zs l 0 = l.length
  nest : Nest (zs l) l.length
  fields : ∀ i, i < l.length → FieldsOk (l.getD i default)
  shape : ∀ i, i < l.length → ShapeOk l i
  top : kdS l 0 = 23 ∨ Complex (kdS l 0)
/-- Nothing of a pseudo-element. -/
def NoPseudo (l : List SelD) : Prop := ∀ i, i < l.length → kdS l i = 21 → (l.getD i default).val = ByteArray.empty
/-- Behind a compound: the end, a space, a comma, a closing bracket. -/
def StopSel (s : ByteArray) (j : Nat) : Prop := (s.size = j) ∨ (j < s.size ∧ (nx s j = 32 ∨ nx s j = 44 ∨ nx s j = 41))
/-- Behind a selector: the end, a comma, a closing bracket. -/
def EndSel (s : ByteArray) (j : Nat) : Prop := (s.size = j) ∨ (j < s.size ∧ (nx s j = 44 ∨ nx s j = 41))
theorem EndSel.stop {s : ByteArray} {j : Nat} (h : EndSel s j) : StopSel s j := by
  rcases h with h | ⟨h, h2⟩
  · exact .inl h
  · exact .inr ⟨h, by omega⟩
theorem stop_of {s : ByteArray} {j : Nat} (h : nx s j = 0 ∨ nx s j = 32 ∨ nx s j = 44 ∨ nx s j = 41 ∨ nx s j = 40 ∨ nx s j = 46 ∨ nx s j = 35 ∨ nx s j = 91 ∨ nx s j = 58 ∨ nx s j = 93 ∨ nx s j = 61 ∨ nx s j = 33 ∨ nx s j = 126 ∨ nx s j = 124 ∨ nx s j = 94 ∨ nx s j = 36 ∨ nx s j = 42 ∨ nx s j = 34) : Stop s j := by
  constructor
  · simp only [isNc, decide_eq_false_iff_not]; omega
  · omega
theorem StopSel.stop {s : ByteArray} {j : Nat} (h : StopSel s j) : Stop s j := by
  refine stop_of ?_
  rcases h with h | ⟨h, h2⟩
  · exact .inl (nx_end (by omega))
  · omega
def isSimpleF (k : Int) : Bool := decide (1 ≤ k ∧ k ≤ 20)
def isComplexF (k : Int) : Bool := decide (1 ≤ k ∧ k ≤ 22)
def BoolPost (b : Bool) (w : World) (e : Ending) (w' : World) : Prop := e = .returned (.bool b) ∧ w = w'
set_option maxRecDepth 100000 in
theorem isSimple_any (k : Int) (w : World) : Calls Tryz.prog 31 #[.int .i64 k] w (BoolPost (isSimpleF k) w) := by
  have H : Calls Tryz.prog 31 #[.int .i64 k] w (SomeBool (fun b => b = isSimpleF k) w) := by
    go_enter Tryz.func31, Tryz.ntmps31
    go_wp2
    all_goals go_ret
    all_goals refine ⟨_, ?_, rfl, rfl⟩
    all_goals (show _ = _; rw [Bool.eq_iff_iff]; simp [isSimpleF]; try omega)
  exact H.mono fun e w' ⟨b', h', he, hw⟩ => ⟨by rw [he, h'], hw⟩
set_option maxRecDepth 100000 in
theorem isComplex_any (k : Int) (w : World) : Calls Tryz.prog 21 #[.int .i64 k] w (BoolPost (isComplexF k) w) := by
  have H : Calls Tryz.prog 21 #[.int .i64 k] w (SomeBool (fun b => b = isComplexF k) w) := by
    have HS := Lib.hid (isSimple_any k w)
    have hsi : isSimpleF k = decide (1 ≤ k ∧ k ≤ 20) := rfl
    obtain ⟨sb, hsb⟩ : ∃ sb, isSimpleF k = sb := ⟨_, rfl⟩
    rw [hsb] at HS
    have HB := Lib.hid hsb
    clear hsb hsi
    go_enter Tryz.func21, Tryz.ntmps21
    go_wp2_with fail
    refine HS.out.mono ?_
    rintro e w2 ⟨rfl, rfl⟩
    cases sb
    all_goals go_wp2
    all_goals go_ret
    all_goals refine ⟨_, ?_, rfl, rfl⟩
    all_goals (have hh := HB.out; simp only [isSimpleF, decide_eq_true_eq, decide_eq_false_iff_not] at hh; show _ = _; rw [Bool.eq_iff_iff]; simp [isComplexF]; try omega)
  exact H.mono fun e w' ⟨b', h', he, hw⟩ => ⟨by rw [he, h'], hw⟩
set_option maxRecDepth 100000 in
theorem isElement_any (s : ByteArray) (w : World) : Calls Tryz.prog 29 #[.string s] w (SomeBool (fun _ => True) w) := by
  go_enter Tryz.func29, Tryz.ntmps29
  go_wp2
  all_goals (go_ret; exact ⟨_, trivial, rfl, rfl⟩)
theorem kidsFrom_mem {z : Nat → Nat} {e x : Nat} : ∀ {f k : Nat}, x ∈ kidsFrom z e f k → k ≤ x ∧ x < e
  | 0, k, h => by simp [kidsFrom] at h
  | f + 1, k, h => by
    simp only [kidsFrom] at h
    split at h
    · rename_i hk
      rcases List.mem_cons.1 h with rfl | h
      · exact ⟨Nat.le_refl _, hk⟩
      · have := kidsFrom_mem h
        exact ⟨by omega, this.2⟩
    · simp at h
variable {l : List SelD}
theorem SelTree.kid (hT : SelTree l) {i k : Nat} (hi : i < l.length) (hk : k ∈ kidsS l i) : k < l.length ∧ i < k ∧ k + zs l k ≤ i + zs l i ∧ zs l k < zs l i := by
  have h := kidsFrom_mem hk
  have h1 := hT.nest.fit i hi
  have h2 := hT.nest.lam i k hi (by omega) h.2
  exact ⟨by omega, by omega, h2, by omega⟩
theorem SelTree.rel' (hT : SelTree l) {i : Nat} (hi : i < l.length) (h : kdS l i = 18 ∨ kdS l i = 19 ∨ kdS l i = 20) : ∃ k, kidsS l i = [k] ∧ kdS l k = 23 ∧ k < l.length ∧ zs l k < zs l i := by
  obtain ⟨k, hk, hk2⟩ := (hT.shape i hi).rel h
  have := hT.kid hi (k := k) (by rw [hk]; simp)
  exact ⟨k, hk, hk2, this.1, this.2.2.2⟩
theorem SelTree.comb' (hT : SelTree l) {i : Nat} (hi : i < l.length) (h : kdS l i = 22) : ∃ a b, kidsS l i = [a, b] ∧ Complex (kdS l a) ∧ Complex (kdS l b) ∧ kdS l b ≠ 22 ∧ a < l.length ∧ b < l.length ∧ zs l a < zs l i ∧ zs l b < zs l i := by
  obtain ⟨a, b, hk, h1, h2, h3⟩ := (hT.shape i hi).comb h
  have ha := hT.kid hi (k := a) (by rw [hk]; simp)
  have hb := hT.kid hi (k := b) (by rw [hk]; simp)
  exact ⟨a, b, hk, h1, h2, h3, ha.1, hb.1, ha.2.2.2, hb.2.2.2⟩
theorem tx_fuel (hT : SelTree l) : ∀ (f g i : Nat), i < l.length → zs l i ≤ f → zs l i ≤ g → tx l f i = tx l g i
  | 0, g, i, hi, hf, hg => by have := hT.nest.pos i hi; omega
  | f + 1, 0, i, hi, hf, hg => by have := hT.nest.pos i hi; omega
  | f + 1, g + 1, i, hi, hf, hg => by
    have hkid : ∀ k ∈ kids (zs l) i, tx l f k = tx l g k := fun k hk => by
      have := hT.kid hi hk
      exact tx_fuel hT f g k this.1 (by omega) (by omega)
    simp only [tx]
    split
    · rw [List.map_congr_left hkid]
    · split
      · rename_i _ h22
        obtain ⟨a, b, hk, _⟩ := hT.comb' hi h22
        have hk' : kids (zs l) i = [a, b] := hk
        have ha := hkid a (by rw [hk']; simp)
        have hb := hkid b (by rw [hk']; simp)
        simp only [hk', List.getD_cons_zero, List.getD_cons_succ, ha, hb]
      · split
        · congr 1
          exact List.map_congr_left fun k hk => by rw [hkid k hk]
        · split
          · rename_i _ _ _ hr
            obtain ⟨k, hk, _⟩ := hT.rel' hi hr
            have hk' : kids (zs l) i = [k] := hk
            have ha := hkid k (by rw [hk']; simp)
            simp only [hk', List.getD_cons_zero, ha]
          · rfl
theorem sp_fuel (hT : SelTree l) : ∀ (f g i : Nat), i < l.length → zs l i ≤ f → zs l i ≤ g → sp l f i = sp l g i
  | 0, g, i, hi, hf, hg => by have := hT.nest.pos i hi; omega
  | f + 1, 0, i, hi, hf, hg => by have := hT.nest.pos i hi; omega
  | f + 1, g + 1, i, hi, hf, hg => by
    have hkid : ∀ k ∈ kids (zs l) i, sp l f k = sp l g k := fun k hk => by
      have := hT.kid hi hk
      exact sp_fuel hT f g k this.1 (by omega) (by omega)
    simp only [sp]
    rw [List.map_congr_left hkid]
/-- How a node is written; how specific it is. -/
def T (l : List SelD) (i : Nat) : List UInt8 := tx l (zs l i) i
def S (l : List SelD) (i : Nat) : Tri := sp l (zs l i) i
theorem T_fuel (hT : SelTree l) {f i : Nat} (hi : i < l.length) (hf : zs l i ≤ f) : tx l f i = T l i := tx_fuel hT _ _ i hi hf (Nat.le_refl _)
theorem S_fuel (hT : SelTree l) {f i : Nat} (hi : i < l.length) (hf : zs l i ≤ f) : sp l f i = S l i := sp_fuel hT _ _ i hi hf (Nat.le_refl _)
theorem T_step (hT : SelTree l) {i : Nat} (hi : i < l.length) : T l i = tx l (zs l i - 1 + 1) i := by
  have := hT.nest.pos i hi
  unfold T
  rw [show zs l i - 1 + 1 = zs l i by omega]
theorem S_step (hT : SelTree l) {i : Nat} (hi : i < l.length) : S l i = sp l (zs l i - 1 + 1) i := by
  have := hT.nest.pos i hi
  unfold S
  rw [show zs l i - 1 + 1 = zs l i by omega]
theorem T_kids (hT : SelTree l) {i : Nat} (hi : i < l.length) : ∀ k ∈ kids (zs l) i, tx l (zs l i - 1) k = T l k := fun k hk => by
  have := hT.kid hi hk
  exact T_fuel hT this.1 (by omega)
theorem S_kids (hT : SelTree l) {i : Nat} (hi : i < l.length) : ∀ k ∈ kids (zs l) i, sp l (zs l i - 1) k = S l k := fun k hk => by
  have := hT.kid hi hk
  exact S_fuel hT this.1 (by omega)
theorem T_group (hT : SelTree l) {i : Nat} (hi : i < l.length) (h : kdS l i = 23) : T l i = joinL ((kidsS l i).map (T l)) := by
  have h' : (l.getD i default).kind = 23 := h
  rw [T_step hT hi]
  simp only [tx, if_pos h']
  rw [List.map_congr_left (T_kids hT hi)]
  rfl
theorem T_comb (hT : SelTree l) {i a b : Nat} (hi : i < l.length) (h : kdS l i = 22) (hk : kidsS l i = [a, b]) : T l i = T l a ++ (combL (l.getD i default).op ++ T l b) := by
  have h' : (l.getD i default).kind = 22 := h
  have hk' : kids (zs l) i = [a, b] := hk
  have ha := T_kids hT hi a (by rw [hk']; simp)
  have hb := T_kids hT hi b (by rw [hk']; simp)
  rw [T_step hT hi]
  simp only [tx, h', hk', List.getD_cons_zero, List.getD_cons_succ, ha, hb, if_true, if_neg (show ¬ ((22 : Int) = 23) by decide)]
theorem T_comp (hT : SelTree l) {i : Nat} (hi : i < l.length) (h : kdS l i = 21) : T l i = compL ((kidsS l i).map fun k => (kdS l k, T l k)) := by
  have h' : (l.getD i default).kind = 21 := h
  rw [T_step hT hi]
  simp only [tx, h', if_true, if_neg (show ¬ ((21 : Int) = 23) by decide), if_neg (show ¬ ((21 : Int) = 22) by decide)]
  congr 1
  exact List.map_congr_left fun k hk => by rw [T_kids hT hi k hk]; rfl
theorem T_rel (hT : SelTree l) {i k : Nat} (hi : i < l.length) (h : kdS l i = 18 ∨ kdS l i = 19 ∨ kdS l i = 20) (hk : kidsS l i = [k]) : T l i = 58 :: (relL (kdS l i) ++ 40 :: (T l k ++ [41])) := by
  have h' : (l.getD i default).kind = 18 ∨ (l.getD i default).kind = 19 ∨ (l.getD i default).kind = 20 := h
  have hk' : kids (zs l) i = [k] := hk
  have ha := T_kids hT hi k (by rw [hk']; simp)
  rw [T_step hT hi]
  simp only [tx]
  rw [if_neg (by omega), if_neg (by omega), if_neg (by omega), if_pos h', hk', List.getD_cons_zero, ha]
  rfl
theorem T_sim (hT : SelTree l) {i : Nat} (hi : i < l.length) (h : kdS l i ≤ 17) : T l i = simL (l.getD i default) := by
  have h' : (l.getD i default).kind ≤ 17 := h
  rw [T_step hT hi]
  simp only [tx]
  rw [if_neg (by omega), if_neg (by omega), if_neg (by omega), if_neg (by omega)]
theorem S_max (hT : SelTree l) {i : Nat} (hi : i < l.length) (h : kdS l i = 18 ∨ kdS l i = 19 ∨ kdS l i = 20 ∨ kdS l i = 23) : S l i = ((kidsS l i).map (S l)).foldl triMax (0, 0, 0) := by
  have h' : (l.getD i default).kind = 18 ∨ (l.getD i default).kind = 19 ∨ (l.getD i default).kind = 20 ∨ (l.getD i default).kind = 23 := h
  rw [S_step hT hi]
  simp only [sp]
  rw [if_neg (by omega), if_neg (by omega), if_neg (by omega), if_neg (by omega), if_pos h', List.map_congr_left (S_kids hT hi)]
  rfl
theorem S_sum (hT : SelTree l) {i : Nat} (hi : i < l.length) (h : kdS l i = 21 ∨ kdS l i = 22) : S l i = ((kidsS l i).map (S l)).foldl triAdd (0, 0, 0) := by
  have h' : (l.getD i default).kind = 21 ∨ (l.getD i default).kind = 22 := h
  rw [S_step hT hi]
  simp only [sp]
  rw [if_neg (by omega), if_neg (by omega), if_neg (by omega), if_pos h', List.map_congr_left (S_kids hT hi)]
  rfl
def simS (k : Int) : Tri := if k = 1 then (0, 0, 0) else if k = 2 then (0, 0, 1) else if k = 4 then (1, 0, 0) else (0, 1, 0)
theorem S_sim (hT : SelTree l) {i : Nat} (hi : i < l.length) (h : kdS l i ≤ 17) : S l i = simS (kdS l i) := by
  have h' : (l.getD i default).kind ≤ 17 := h
  rw [S_step hT hi]
  simp only [sp, simS]
  show _ = if (l.getD i default).kind = 1 then _ else if (l.getD i default).kind = 2 then _ else if (l.getD i default).kind = 4 then _ else _
  split
  · rfl
  · split
    · rfl
    · split
      · rfl
      · rw [if_neg (by omega), if_neg (by omega)]
theorem triAdd_zero (t : Tri) : triAdd (0, 0, 0) t = t := by simp [triAdd]
theorem triAdd_zero' (t : Tri) : triAdd t (0, 0, 0) = t := by simp [triAdd]
/-- What a compound, or a simple selector, is made of: all but '*'. -/
def partsS (l : List SelD) (q : Nat) : List Nat := if kdS l q = 21 then (kidsS l q).filter (fun k => kdS l k != 1) else if kdS l q = 1 then [] else [q]
/-- A compound or a simple selector. -/
def Atom (k : Int) : Prop := 1 ≤ k ∧ k ≤ 21
theorem sum_filter (g : Nat → Tri) (p : Nat → Bool) : ∀ (ks : List Nat) (t : Tri), (∀ k ∈ ks, p k = false → g k = (0, 0, 0)) → (ks.map g).foldl triAdd t = ((ks.filter p).map g).foldl triAdd t
  | [], t, _ => rfl
  | k :: ks, t, h => by
    have ih := fun t => sum_filter g p ks t (fun k hk => h k (List.mem_cons_of_mem _ hk))
    cases hp : p k
    · rw [List.filter_cons_of_neg (by simp [hp])]
      simp only [List.map_cons, List.foldl_cons]
      rw [h k List.mem_cons_self hp, triAdd_zero', ih]
    · rw [List.filter_cons_of_pos hp]
      simp only [List.map_cons, List.foldl_cons]
      rw [ih]
theorem S_parts (hT : SelTree l) {q : Nat} (hq : q < l.length) (h : Atom (kdS l q)) : S l q = ((partsS l q).map (S l)).foldl triAdd (0, 0, 0) := by
  unfold partsS
  split
  · rename_i h21
    rw [S_sum hT hq (.inl h21)]
    exact sum_filter _ _ _ _ fun k hk hp => by
      have hk1 : kdS l k = 1 := by simpa using hp
      rw [S_sim hT (hT.kid hq hk).1 (by omega)]
      simp [simS, hk1]
  · split
    · rename_i _ h1
      rw [S_sim hT hq (by omega)]
      simp [simS, h1]
    · simp [triAdd]
theorem parts_mem (hT : SelTree l) {q : Nat} (hq : q < l.length) (h : Atom (kdS l q)) {k : Nat} (hk : k ∈ partsS l q) : k < l.length ∧ 2 ≤ kdS l k ∧ kdS l k ≤ 20 ∧ zs l k ≤ zs l q := by
  unfold partsS at hk
  split at hk
  · rename_i h21
    rw [List.mem_filter] at hk
    have hc := (hT.shape q hq).comp h21
    obtain ⟨j, hj, rfl⟩ := List.getElem_of_mem hk.1
    have hj2 := hc j hj
    rw [List.getD_eq_getElem?_getD, List.getElem?_eq_getElem hj, Option.getD_some] at hj2
    have hn : kdS l (kidsS l q)[j] ≠ 1 := by simpa using hk.2
    have := hT.kid hq hk.1
    exact ⟨this.1, by omega, by omega, by omega⟩
  · split at hk
    · simp at hk
    · rename_i h21 h1
      simp at hk
      subst hk
      unfold Atom at h
      exact ⟨hq, by omega, by omega, Nat.le_refl _⟩
variable {l : List SelD}
theorem namedF_ne {t : ByteArray} (h : 0 < t.size) : ∃ b r, namedF t = b :: r := by
  unfold namedF
  split
  · exact ⟨92, [45], rfl⟩
  · obtain ⟨r0, hr0⟩ := ng_prefix t 1 (t.size - 1)
    rw [show 1 + (t.size - 1) = t.size by omega] at hr0
    obtain ⟨b, r, hb, _⟩ := nchunk_first (s := t) (k := 0) h
    exact ⟨b, r ++ r0, by rw [hr0]; simp [ng, hb]⟩
/-- The first part is the name of an element. -/
def headTag (l : List SelD) (q : Nat) : Prop := ∃ k r, partsS l q = k :: r ∧ kdS l k = 2
structure PartsOk (l : List SelD) (q : Nat) (lead : List UInt8) : Prop where
  leads : lead = [] ∨ lead = [42]
  eq : T l q = lead ++ ((partsS l q).map (T l)).flatten
  tag : headTag l q → lead = []
  some : lead = [] → partsS l q ≠ []
  rest : ∀ j, j < (partsS l q).length → kdS l ((partsS l q).getD j 0) = 2 → j = 0
theorem filter_two {ks : List Nat} (h : ∀ k ∈ ks, kdS l k ≠ 2) : ks.filter (fun k => kdS l k != 1 && kdS l k != 2) = ks.filter (fun k => kdS l k != 1) := by
  apply List.filter_congr
  intro k hk
  have := h k hk
  simp [this]
theorem comp_rest (ks : List Nat) : (((ks.map fun k => (kdS l k, T l k)).filter (fun x => x.1 != 1 && x.1 != 2)).map (·.2)).flatten = ((ks.filter (fun k => kdS l k != 1 && kdS l k != 2)).map (T l)).flatten := by
  rw [List.filter_map, List.map_map]
  rfl
theorem parts_ok (hT : SelTree l) {q : Nat} (hq : q < l.length) (h : Atom (kdS l q)) : ∃ lead, PartsOk l q lead := by
  by_cases h21 : kdS l q = 21
  · have hp : partsS l q = (kidsS l q).filter (fun k => kdS l k != 1) := by unfold partsS; rw [if_pos h21]
    have hc := (hT.shape q hq).comp h21
    have htx := T_comp hT hq h21
    obtain ⟨ks, hks⟩ : ∃ ks, kidsS l q = ks := ⟨_, rfl⟩
    have hmem : ∀ k ∈ ks, k < l.length := fun k hk => (hT.kid hq (by rw [hks]; exact hk)).1
    rw [hks] at hp hc htx
    have hkind : ∀ j, j < ks.length → kdS l (ks.getD j 0) = 2 → j = 0 := fun j hj => (hc j hj).2.2
    unfold compL at htx
    simp only [comp_rest] at htx
    cases ks with
    | nil =>
      refine ⟨[42], .inr rfl, ?_, fun ⟨k, r, hk, _⟩ => by rw [hp] at hk; simp at hk, fun h => by simp at h, fun j hj => by rw [hp] at hj; simp at hj⟩
      rw [htx, hp]
      simp
    | cons k r =>
      have hr2 : ∀ x ∈ r, kdS l x ≠ 2 := fun x hx h2 => by
        obtain ⟨j, hj, rfl⟩ := List.getElem_of_mem hx
        have := hkind (j + 1) (by simp; omega) (by simp [List.getD, hj]; exact h2)
        omega
      by_cases hk2 : kdS l k = 2
      · have hf : (k :: r).filter (fun k => kdS l k != 1 && kdS l k != 2) = r.filter (fun k => kdS l k != 1) := by
          rw [List.filter_cons_of_neg (by simp [hk2]), filter_two hr2]
        have hf2 : (k :: r).filter (fun k => kdS l k != 1) = k :: r.filter (fun k => kdS l k != 1) := List.filter_cons_of_pos (by simp [hk2])
        have hTk : ∃ b t, T l k = b :: t := by
          have hkl := hmem k (by simp)
          rw [T_sim hT hkl (by omega)]
          obtain ⟨b, t, hb⟩ := namedF_ne ((hT.fields k hkl).named (.inl hk2))
          have hk2' : (l.getD k default).kind = 2 := hk2
          exact ⟨b, t, by unfold simL; rw [if_neg (by omega), if_pos hk2', hb]⟩
        obtain ⟨b, t, hbt⟩ := hTk
        refine ⟨[], .inl rfl, ?_, fun _ => rfl, fun _ => by rw [hp, hf2]; simp, fun j hj h2 => ?_⟩
        · rw [htx, hf, hp, hf2]
          simp [hk2, hbt]
        · rw [hp, hf2] at hj h2
          cases j with
          | zero => rfl
          | succ j =>
            have hj' : j < (r.filter (fun k => kdS l k != 1)).length := by simpa using hj
            rw [List.getD_cons_succ, List.getD_eq_getElem?_getD, List.getElem?_eq_getElem hj', Option.getD_some] at h2
            exact absurd h2 (hr2 _ (List.mem_filter.1 (List.getElem_mem hj')).1)
      · have hall : ∀ x ∈ k :: r, kdS l x ≠ 2 := fun x hx => by
          rcases List.mem_cons.1 hx with rfl | hx
          · exact hk2
          · exact hr2 x hx
        have hf := filter_two hall
        have hno : ∀ j, j < (partsS l q).length → kdS l ((partsS l q).getD j 0) = 2 → j = 0 := fun j hj h2 => by
          rw [hp] at hj h2
          rw [List.getD_eq_getElem?_getD, List.getElem?_eq_getElem hj, Option.getD_some] at h2
          exact absurd h2 (hall _ (List.mem_filter.1 (List.getElem_mem hj)).1)
        have hnt : ¬ headTag l q := fun ⟨k', r', hk', h2⟩ => by
          rw [hp] at hk'
          exact hall k' (List.mem_filter.1 (show k' ∈ List.filter (fun k => kdS l k != 1) (k :: r) by rw [hk']; simp)).1 h2
        rw [hf] at htx
        have hhd : ¬ (List.headD (List.map (fun k => (kdS l k, T l k)) (k :: r)) (0, [])).1 = 2 := by simpa using hk2
        rw [if_neg hhd] at htx
        by_cases hany : ((List.map (fun k => (kdS l k, T l k)) (k :: r)).any fun x => x.1 == 1) = true
        · rw [if_pos hany, if_neg (by simp)] at htx
          exact ⟨[42], .inr rfl, by rw [htx, hp], fun h => absurd h hnt, fun h => by simp at h, hno⟩
        · rw [if_neg hany] at htx
          have hk1 : kdS l k ≠ 1 := by
            intro e
            apply hany
            simp [e]
          by_cases he : [] ++ (List.map (T l) (List.filter (fun k => kdS l k != 1) (k :: r))).flatten = []
          · rw [if_pos he] at htx
            rw [List.nil_append] at he
            exact ⟨[42], .inr rfl, by rw [htx, hp, he]; rfl, fun h => absurd h hnt, fun h => by simp at h, hno⟩
          · rw [if_neg he] at htx
            exact ⟨[], .inl rfl, by rw [htx, hp], fun _ => rfl, fun _ => by rw [hp, List.filter_cons_of_pos (by simp [hk1])]; simp, hno⟩
  · by_cases h1 : kdS l q = 1
    · have hp : partsS l q = [] := by unfold partsS; rw [if_neg h21, if_pos h1]
      have h1' : (l.getD q default).kind = 1 := h1
      refine ⟨[42], .inr rfl, ?_, fun ⟨k, r, hk, _⟩ => by rw [hp] at hk; simp at hk, fun h => by simp at h, fun j hj => by rw [hp] at hj; simp at hj⟩
      rw [T_sim hT hq (by omega), hp]
      unfold simL
      rw [if_pos h1']
      simp
    · have hp : partsS l q = [q] := by unfold partsS; rw [if_neg h21, if_neg h1]
      refine ⟨[], .inl rfl, by rw [hp]; simp, fun _ => rfl, fun _ => by rw [hp]; simp, fun j hj _ => by rw [hp] at hj; simp at hj; exact hj⟩
/-- The first sign of a part that is no name of an element. -/
theorem part_first (hT : SelTree l) {k : Nat} (hk : k < l.length) (h1 : 3 ≤ kdS l k) (h2 : kdS l k ≤ 20) : ∃ b r, T l k = b :: r ∧ (b = 46 ∧ kdS l k = 3 ∨ b = 35 ∧ kdS l k = 4 ∨ b = 91 ∧ kdS l k = 5 ∨ b = 58 ∧ 6 ≤ kdS l k) := by
  by_cases hs : kdS l k ≤ 17
  · rw [T_sim hT hk hs]
    have e : kdS l k = (l.getD k default).kind := rfl
    unfold simL
    rw [if_neg (by omega), if_neg (by omega)]
    split
    · exact ⟨46, _, rfl, .inl ⟨rfl, by omega⟩⟩
    · split
      · exact ⟨35, _, rfl, .inr (.inl ⟨rfl, by omega⟩)⟩
      · split
        · split
          · exact ⟨91, _, rfl, .inr (.inr (.inl ⟨rfl, by omega⟩))⟩
          · exact ⟨91, _, rfl, .inr (.inr (.inl ⟨rfl, by omega⟩))⟩
        · have h6 : 6 ≤ kdS l k := by omega
          split
          · exact ⟨58, _, rfl, .inr (.inr (.inr ⟨rfl, h6⟩))⟩
          · split
            · exact ⟨58, _, rfl, .inr (.inr (.inr ⟨rfl, h6⟩))⟩
            · split
              · exact ⟨58, _, rfl, .inr (.inr (.inr ⟨rfl, h6⟩))⟩
              · split
                · exact ⟨58, _, rfl, .inr (.inr (.inr ⟨rfl, h6⟩))⟩
                · split
                  · exact ⟨58, _, rfl, .inr (.inr (.inr ⟨rfl, h6⟩))⟩
                  · exact ⟨58, _, rfl, .inr (.inr (.inr ⟨rfl, h6⟩))⟩
  · have hr : kdS l k = 18 ∨ kdS l k = 19 ∨ kdS l k = 20 := by omega
    obtain ⟨m, hm, _⟩ := hT.rel' hk hr
    rw [T_rel hT hk hr hm]
    exact ⟨58, _, rfl, .inr (.inr (.inr ⟨rfl, by omega⟩))⟩
variable {l : List SelD}
/-- Selector q is q0, and then by combinators ps. -/
inductive Spine (l : List SelD) : Nat → Nat → List (Int × Nat) → Prop
  | atom {q : Nat} : Atom (kdS l q) → Spine l q q []
  | comb {q a b q0 : Nat} {ps : List (Int × Nat)} : kdS l q = 22 → kidsS l q = [a, b] → Spine l a q0 ps → Atom (kdS l b) → Spine l q q0 (ps ++ [((l.getD q default).op, b)])
theorem spine_is (hT : SelTree l) : ∀ (n q : Nat), zs l q ≤ n → q < l.length → Complex (kdS l q) → ∃ q0 ps, Spine l q q0 ps
  | 0, q, hn, hq, _ => by have := hT.nest.pos q hq; omega
  | n + 1, q, hn, hq, hc => by
    by_cases h : kdS l q = 22
    · obtain ⟨a, b, hk, ha, hb, hb22, hal, hbl, hza, hzb⟩ := hT.comb' hq h
      obtain ⟨q0, ps, hs⟩ := spine_is hT n a (by omega) hal ha
      unfold Complex at hb
      exact ⟨q0, _, .comb h hk hs ⟨hb.1, by omega⟩⟩
    · unfold Complex at hc
      exact ⟨q, [], .atom ⟨hc.1, by omega⟩⟩
def combsL (l : List SelD) (ps : List (Int × Nat)) : List UInt8 := (ps.map fun x => combL x.1 ++ T l x.2).flatten
theorem Spine.text (hT : SelTree l) {q q0 : Nat} {ps : List (Int × Nat)} (h : Spine l q q0 ps) (hq : q < l.length) : T l q = T l q0 ++ combsL l ps := by
  induction h with
  | atom _ => simp [combsL]
  | comb h22 hk _ _ ih =>
    obtain ⟨a', b', hk', _, _, _, hal, hbl, _⟩ := hT.comb' hq h22
    rw [hk] at hk'
    simp only [List.cons.injEq, and_true] at hk'
    obtain ⟨rfl, rfl⟩ := hk'
    rw [T_comb hT hq h22 hk, ih hal]
    simp [combsL]
theorem Spine.spec (hT : SelTree l) {q q0 : Nat} {ps : List (Int × Nat)} (h : Spine l q q0 ps) (hq : q < l.length) : S l q = (ps.map fun x => S l x.2).foldl triAdd (S l q0) := by
  induction h with
  | atom _ => rfl
  | comb h22 hk _ _ ih =>
    obtain ⟨a', b', hk', _, _, _, hal, hbl, _⟩ := hT.comb' hq h22
    rw [hk] at hk'
    simp only [List.cons.injEq, and_true] at hk'
    obtain ⟨rfl, rfl⟩ := hk'
    rw [S_sum hT hq (.inr h22), hk]
    simp [ih hal, triAdd_zero]
theorem Spine.all (hT : SelTree l) {q q0 : Nat} {ps : List (Int × Nat)} (h : Spine l q q0 ps) (hq : q < l.length) : (q0 < l.length ∧ Atom (kdS l q0) ∧ zs l q0 ≤ zs l q) ∧ ∀ x ∈ ps, (1 ≤ x.1 ∧ x.1 ≤ 4) ∧ x.2 < l.length ∧ Atom (kdS l x.2) ∧ zs l x.2 ≤ zs l q := by
  induction h with
  | atom ha => exact ⟨⟨hq, ha, Nat.le_refl _⟩, fun x hx => by simp at hx⟩
  | comb h22 hk _ hb ih =>
    rename_i q a b q0 ps _
    obtain ⟨a', b', hk', _, _, _, hal, hbl, hza, hzb⟩ := hT.comb' hq h22
    rw [hk] at hk'
    simp only [List.cons.injEq, and_true] at hk'
    obtain ⟨rfl, rfl⟩ := hk'
    obtain ⟨⟨h1, h2, h3⟩, h4⟩ := ih hal
    refine ⟨⟨h1, h2, Nat.le_trans h3 (Nat.le_of_lt hza)⟩, fun x hx => ?_⟩
    rcases List.mem_append.1 hx with hx | hx
    · obtain ⟨h5, h6, h7, h8⟩ := h4 x hx
      exact ⟨h5, h6, h7, Nat.le_trans h8 (Nat.le_of_lt hza)⟩
    · simp at hx
      subst hx
      exact ⟨(hT.fields _ hq).comb h22, hbl, hb, Nat.le_of_lt hzb⟩
end Go.Proofs.YtoanofdomhnafaaGreatDoor
