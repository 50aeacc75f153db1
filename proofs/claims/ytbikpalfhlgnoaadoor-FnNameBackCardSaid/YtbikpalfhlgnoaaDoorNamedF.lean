/- A text written as a name: what it is, and that it is read back. -/
import Derived.Test.YtbikpalfhlgnoaaDoorSigned
import Derived.Test.YtbikpalfhlgnoaaDoorIdentAgree
namespace Go.Proofs.YtbikpalfhlgnoaaDoor
open Go.RowKit
set_option linter.unusedVariables false
set_option linter.unusedSimpArgs false

/-- A hexadecimal digit. -/
def hxd (d : Nat) : UInt8 := if d < 10 then UInt8.ofNat (48 + d) else UInt8.ofNat (87 + d)

/-- A byte as an escape by its number. -/
def esx (c : Nat) : List UInt8 := [92] ++ (if c < 16 then [hxd c] else [hxd (c / 16), hxd (c % 16)]) ++ [32]

theorem hxd_hex : ∀ d : Fin 16, isHx ((hxd d.val).toNat : Int) = true ∧ hxv ((hxd d.val).toNat : Int) = d.val := by decide +kernel

theorem hxd_is {d : Nat} (h : d < 16) : isHx ((hxd d).toNat : Int) = true ∧ hxv ((hxd d).toNat : Int) = d := hxd_hex ⟨d, h⟩

theorem encode_small : ∀ c : Fin 128, Utf8.encode (c.val : Int) = bs [UInt8.ofNat c.val] := by decide +kernel

theorem get_at {α : Type} (l m : List α) (i : Nat) : (l ++ m)[l.length + i]? = m[i]? := by
  rw [List.getElem?_append_right (by omega), Nat.add_sub_cancel_left]

/-- An escape by number, in a text. -/
theorem esc_esx {l r : List UInt8} {c : Nat} (h0 : 0 < c) (h : c < 128) : esc (bs (l ++ esx c ++ r)) l.length = some (bs [UInt8.ofNat c], l.length + (esx c).length) := by
  have henc := encode_small ⟨c, h⟩
  simp only at henc
  by_cases h16 : c < 16
  · have he : esx c = [92, hxd c, 32] := by simp [esx, h16]
    obtain ⟨hx, hv⟩ := hxd_is h16
    have n1 : nx (bs (l ++ esx c ++ r)) (l.length + 1) = ((hxd c).toNat : Int) := nx_bs (by rw [he]; simp)
    have n2 : nx (bs (l ++ esx c ++ r)) (l.length + 1 + 1) = 32 := by rw [nx_bs (b := 32) (by rw [List.append_assoc, Nat.add_assoc, get_at, he]; rfl)]; rfl
    have hsz : ¬ (bs (l ++ esx c ++ r)).size < l.length + 2 := by rw [bs_size, he]; simp
    have hN : hexN (bs (l ++ esx c ++ r)) (l.length + 1) 6 = 1 := by
      have h1 := hexN_of (s := bs (l ++ esx c ++ r)) (st := l.length + 1) 1 (fun m hm => by rw [show l.length + 1 + m = l.length + 1 by omega, n1]; exact hx)
      exact hexN_stop h1 (by rw [n2]; decide) 5
    have hnl : ¬ (nx (bs (l ++ esx c ++ r)) (l.length + 1) = 13 ∨ nx (bs (l ++ esx c ++ r)) (l.length + 1) = 10 ∨ nx (bs (l ++ esx c ++ r)) (l.length + 1) = 12) := by
      rw [n1]
      simp only [isHx, decide_eq_true_eq] at hx
      omega
    rw [esc_hex hsz hnl (by rw [n1]; exact hx) hN]
    have hval : hexVal (bs (l ++ esx c ++ r)) (l.length + 1) 1 = c := by
      simp only [hexVal, Nat.add_zero, n1, hv]
      omega
    have hws : wsSkip (bs (l ++ esx c ++ r)) (l.length + 1 + 1) = l.length + 3 := by
      unfold wsSkip
      rw [n2, if_neg (by decide), if_pos (by decide)]
    rw [hval, hws, henc, he]
    rfl
  · have he : esx c = [92, hxd (c / 16), hxd (c % 16), 32] := by simp [esx, h16]
    obtain ⟨hx, hv⟩ := hxd_is (show c / 16 < 16 by omega)
    obtain ⟨hx2, hv2⟩ := hxd_is (show c % 16 < 16 by omega)
    have n1 : nx (bs (l ++ esx c ++ r)) (l.length + 1) = ((hxd (c / 16)).toNat : Int) := nx_bs (by rw [he]; simp)
    have n2 : nx (bs (l ++ esx c ++ r)) (l.length + 1 + 1) = ((hxd (c % 16)).toNat : Int) := nx_bs (by rw [List.append_assoc, Nat.add_assoc, get_at, he]; rfl)
    have n3 : nx (bs (l ++ esx c ++ r)) (l.length + 1 + 2) = 32 := by rw [nx_bs (b := 32) (by rw [List.append_assoc, Nat.add_assoc, get_at, he]; rfl)]; rfl
    have hsz : ¬ (bs (l ++ esx c ++ r)).size < l.length + 2 := by rw [bs_size, he]; simp
    have hN : hexN (bs (l ++ esx c ++ r)) (l.length + 1) 6 = 2 := by
      have h1 := hexN_of (s := bs (l ++ esx c ++ r)) (st := l.length + 1) 2 (fun m hm => by
        rcases (show m = 0 ∨ m = 1 by omega) with h3 | h3
        · rw [h3, Nat.add_zero, n1]; exact hx
        · rw [h3, n2]; exact hx2)
      exact hexN_stop h1 (by rw [n3]; decide) 4
    have hnl : ¬ (nx (bs (l ++ esx c ++ r)) (l.length + 1) = 13 ∨ nx (bs (l ++ esx c ++ r)) (l.length + 1) = 10 ∨ nx (bs (l ++ esx c ++ r)) (l.length + 1) = 12) := by
      rw [n1]
      simp only [isHx, decide_eq_true_eq] at hx
      omega
    rw [esc_hex hsz hnl (by rw [n1]; exact hx) hN]
    have hval : hexVal (bs (l ++ esx c ++ r)) (l.length + 1) 2 = c := by
      simp only [hexVal, Nat.add_zero, n1, n2, hv, hv2]
      omega
    have hws : wsSkip (bs (l ++ esx c ++ r)) (l.length + 1 + 2) = l.length + 4 := by
      unfold wsSkip
      rw [n3, if_neg (by decide), if_pos (by decide)]
    rw [hval, hws, henc, he]
    rfl

/-- The byte is written by its number. -/
def byNum (s : ByteArray) (k : Nat) : Bool := decide (nx s k < 32 ∨ nx s k = 127 ∨ ((48 ≤ nx s k ∧ nx s k ≤ 57) ∧ (k = 0 ∨ (k = 1 ∧ nx s 0 = 45))) ∨ (nx s k = 45 ∧ k = 1 ∧ nx s 0 = 45))

/-- What a byte is written as. -/
def nchunk (s : ByteArray) (k : Nat) : List UInt8 :=
  if h : k < s.size then (if byNum s k = true then esx s[k].toNat else if isNc (nx s k) = true then [s[k]] else [92, s[k]]) else []

def ng (s : ByteArray) : Nat → List UInt8
  | 0 => []
  | k + 1 => ng s k ++ nchunk s k

theorem ng_prefix (s : ByteArray) (k : Nat) : ∀ d, ∃ r, ng s (k + d) = ng s k ++ r
  | 0 => ⟨[], by simp⟩
  | d + 1 => by
    obtain ⟨r, hr⟩ := ng_prefix s k d
    exact ⟨r ++ nchunk s (k + d), by rw [← Nat.add_assoc]; simp only [ng]; rw [hr, List.append_assoc]⟩

theorem esx_len (c : Nat) : (esx c).length ≤ 4 := by
  unfold esx
  split <;> simp

theorem ng_len (s : ByteArray) : ∀ k, (ng s k).length ≤ 4 * k
  | 0 => by simp [ng]
  | k + 1 => by
    have := ng_len s k
    have h2 : (nchunk s k).length ≤ 4 := by
      unfold nchunk
      split
      · split
        · exact esx_len _
        · split <;> simp
      · simp
    simp only [ng, List.length_append]
    omega

/-- The name is read byte by byte. (No byte is zero.) -/
theorem pn_ng (s : ByteArray) (tl : List UInt8) (hz : ∀ i, i < s.size → nx s i ≠ 0) : ∀ k, k ≤ s.size → pn (bs (ng s s.size ++ tl)) 0 ByteArray.empty = pn (bs (ng s s.size ++ tl)) (ng s k).length (s.extract 0 k)
  | 0, _ => by simp [ng]
  | k + 1, hk => by
    have hks : k < s.size := by omega
    rw [pn_ng s tl hz k (by omega)]
    obtain ⟨r, hr⟩ := ng_prefix s (k + 1) (s.size - (k + 1))
    rw [show k + 1 + (s.size - (k + 1)) = s.size by omega] at hr
    have hx := nx_lt hks
    have hx0 := nx_nonneg s k
    have hx1 := nx_le s k
    have hzk := hz k hks
    have hout : s.extract 0 k ++ bs [s[k]] = s.extract 0 (k + 1) := by rw [← extract_one hks, extract_snoc s (by omega) hks]
    have hlen : (ng s (k + 1)).length = (ng s k).length + (nchunk s k).length := by simp [ng]
    have hall : ng s s.size ++ tl = ng s k ++ nchunk s k ++ (r ++ tl) := by rw [hr]; simp [ng]
    rw [hall, hlen]
    cases hb : byNum s k
    · cases hn : isNc (nx s k)
      · have hc : nchunk s k = [92, s[k]] := by simp [nchunk, hks, hb, hn]
        have hget : (ng s k ++ nchunk s k ++ (r ++ tl))[(ng s k).length]? = some 92 := by rw [hc]; simp
        have hget2 : (ng s k ++ nchunk s k ++ (r ++ tl))[(ng s k).length + 1]? = some s[k] := by rw [hc]; simp
        have hlt : (ng s k).length < (bs (ng s k ++ nchunk s k ++ (r ++ tl))).size := by rw [bs_size, hc]; simp
        have hlt2 : ¬ (bs (ng s k ++ nchunk s k ++ (r ++ tl))).size < (ng s k).length + 2 := by rw [bs_size, hc]; simp
        have hnn := nx_bs hget2
        rw [← hx] at hnn
        simp only [byNum, decide_eq_false_iff_not] at hb
        simp only [isNc, decide_eq_false_iff_not] at hn
        have hes : esc (bs (ng s k ++ nchunk s k ++ (r ++ tl))) (ng s k).length = some (bs [s[k]], (ng s k).length + 2) := by
          rw [esc_lit hlt2 (by rw [hnn]; omega) (by rw [hnn]; simp only [isHx, decide_eq_false_iff_not]; omega), extract_bs hget2]
        rw [pn_some hlt (by rw [nx_bs hget]; rfl) hes, hout, hc]
        rfl
      · have hc : nchunk s k = [s[k]] := by simp [nchunk, hks, hb, hn]
        have hget : (ng s k ++ nchunk s k ++ (r ++ tl))[(ng s k).length]? = some s[k] := by rw [hc]; simp
        have hlt : (ng s k).length < (bs (ng s k ++ nchunk s k ++ (r ++ tl))).size := by rw [bs_size, hc]; simp
        rw [pn_nc hlt (by rw [nx_bs hget, ← hx]; exact hn), extract_bs hget, hout, hc]
        rfl
    · have hc : nchunk s k = esx s[k].toNat := by simp [nchunk, hks, hb]
      simp only [byNum, decide_eq_true_eq] at hb
      have hlt : (ng s k).length < (bs (ng s k ++ nchunk s k ++ (r ++ tl))).size := by rw [bs_size, hc]; simp [esx]
      have hget : (ng s k ++ nchunk s k ++ (r ++ tl))[(ng s k).length]? = some 92 := by rw [hc]; simp [esx]
      have hes := esc_esx (l := ng s k) (r := r ++ tl) (c := s[k].toNat) (by omega) (by omega)
      rw [← hc, show UInt8.ofNat s[k].toNat = s[k] by simp] at hes
      rw [pn_some hlt (by rw [nx_bs hget]; rfl) hes, hout]

/-- spec.Named. -/
def namedF (s : ByteArray) : List UInt8 := if s.toList == [45] then [92, 45] else ng s s.size

/-- A sign that ends a name, or nothing. -/
def Ends (tl : List UInt8) : Prop := tl = [] ∨ ∃ r, tl = 44 :: r

theorem pn_ends {l tl : List UInt8} {out : ByteArray} (h : Ends tl) : pn (bs (l ++ tl)) l.length out = some (out, l.length) := by
  rcases h with rfl | ⟨r, rfl⟩
  · exact pn_end (by rw [bs_size]; simp)
  · have hx : nx (bs (l ++ 44 :: r)) l.length = 44 := by rw [nx_bs (b := 44) (by simp)]; rfl
    exact pn_stop (by rw [hx]; decide) (by rw [hx]; decide)

theorem pn_namedF (s : ByteArray) (tl : List UInt8) (hz : ∀ i, i < s.size → nx s i ≠ 0) (h : Ends tl) : pn (bs (namedF s ++ tl)) 0 ByteArray.empty = some (s, (namedF s).length) := by
  unfold namedF
  split
  · rename_i h45
    have hs : s = bs [45] := by
      rw [ByteArray.toList_eq] at h45
      have h46 : s.data.toList = [45] := by simpa using h45
      apply ByteArray.ext
      exact Array.toList_inj.1 (by rw [h46]; rfl)
    have hlt : 0 < (bs ([92, 45] ++ tl)).size := by rw [bs_size]; simp
    have h0 : nx (bs ([92, 45] ++ tl)) 0 = 92 := by rw [nx_bs (b := 92) (by simp)]; rfl
    have h1 : nx (bs ([92, 45] ++ tl)) (0 + 1) = 45 := by rw [nx_bs (b := 45) (by simp)]; rfl
    have he := esc_lit (s := bs ([92, 45] ++ tl)) (i := 0) (by rw [bs_size]; simp) (by rw [h1]; decide) (by rw [h1]; decide)
    rw [extract_bs (b := 45) (by simp)] at he
    rw [pn_some hlt h0 he, ByteArray.empty_append]
    have := pn_ends (l := [92, 45]) (out := bs [45]) h
    rw [hs]
    exact this
  · rw [pn_ng s tl hz s.size (Nat.le_refl _), pn_ends h]
    congr 2
    apply ByteArray.ext
    rw [ByteArray.data_extract]
    simp

theorem nchunk_first {s : ByteArray} {k : Nat} (h : k < s.size) : ∃ b r, nchunk s k = b :: r ∧ (b = 92 ∨ (b = s[k] ∧ isNc (nx s k) = true ∧ byNum s k = false)) := by
  unfold nchunk
  rw [dif_pos h]
  cases hb : byNum s k
  · cases hn : isNc (nx s k)
    · exact ⟨92, [s[k]], by simp, .inl rfl⟩
    · exact ⟨s[k], [], by simp, .inr ⟨rfl, rfl, rfl⟩⟩
  · unfold esx
    exact ⟨92, _, by simp; rfl, .inl rfl⟩

theorem ns_of {n : Int} (h : isNc n = true) (hd : ¬ (48 ≤ n ∧ n ≤ 57)) (h45 : n ≠ 45) : isNs n = true := by
  simp only [isNc, decide_eq_true_eq] at h
  simp only [isNs, decide_eq_true_eq]
  omega

/-- The named text begins as a name begins, behind its hyphens. -/
theorem named_start {s : ByteArray} {tl : List UInt8} {m : Nat} (hne : 0 < s.size) (hy : Hyph (bs (namedF s ++ tl)) m) : startOk (bs (namedF s ++ tl)) m := by
  have zero : ∀ b r, namedF s ++ tl = b :: r → (b = 92 ∨ isNs (b.toNat : Int) = true) → startOk (bs (namedF s ++ tl)) m := by
    intro b r he hb
    have hx : nx (bs (namedF s ++ tl)) 0 = (b.toNat : Int) := nx_bs (by rw [he]; rfl)
    have hm : m = 0 := by
      rcases Nat.eq_zero_or_pos m with h | h
      · exact h
      · have h45 := hy.2.1 0 h
        rw [hx] at h45
        rcases hb with hb | hb
        · rw [hb] at h45; exact absurd h45 (by decide)
        · rw [h45] at hb; exact absurd hb (by decide)
    subst hm
    refine ⟨by rw [bs_size, he]; simp, ?_⟩
    rw [hx]
    rcases hb with hb | hb
    · exact .inr (by rw [hb]; rfl)
    · exact .inl hb
  unfold namedF at zero hy ⊢
  split at zero
  · rename_i h45
    rw [if_pos h45] at hy ⊢
    exact zero 92 _ rfl (.inl rfl)
  · rename_i h45
    rw [if_neg h45] at hy ⊢
    obtain ⟨r0, hr0⟩ := ng_prefix s 1 (s.size - 1)
    rw [show 1 + (s.size - 1) = s.size by omega] at hr0
    obtain ⟨b, r, hb, hcase⟩ := nchunk_first (s := s) (k := 0) hne
    have hfull : ng s s.size ++ tl = b :: (r ++ r0 ++ tl) := by rw [hr0]; simp [ng, hb]
    rcases hcase with hcase | ⟨hbs, hn, hbn⟩
    · exact zero b _ hfull (.inl hcase)
    · have hx0 := nx_lt hne
      by_cases h0 : nx s 0 = 45
      · have hs2 : 1 < s.size := by
          rcases Nat.lt_or_ge 1 s.size with h | h
          · exact h
          · exfalso
            apply h45
            have h1 : s.size = 1 := by omega
            have hd : s.data.toList = [45] := by
              apply List.ext_getElem
              · simpa using h1
              · intro i hi1 hi2
                simp at hi2
                subst hi2
                rw [hx0] at h0
                simp
                exact UInt8.toNat.inj (show s[0].toNat = (45 : UInt8).toNat from Int.ofNat.inj h0)
            rw [ByteArray.toList_eq, hd]
            rfl
        obtain ⟨r1, hr1⟩ := ng_prefix s 2 (s.size - 2)
        rw [show 2 + (s.size - 2) = s.size by omega] at hr1
        obtain ⟨b2, q2, hb2, hcase2⟩ := nchunk_first (s := s) (k := 1) hs2
        have hc0 : nchunk s 0 = [s[0]] := by simp [nchunk, hne, hbn, hn]
        have hfull2 : ng s s.size ++ tl = s[0] :: b2 :: (q2 ++ r1 ++ tl) := by rw [hr1]; simp [ng, hc0, hb2]
        have e0 : nx (bs (ng s s.size ++ tl)) 0 = 45 := by rw [nx_bs (b := s[0]) (by rw [hfull2]; rfl), ← hx0]; exact h0
        have e1 : nx (bs (ng s s.size ++ tl)) 1 = (b2.toNat : Int) := nx_bs (by rw [hfull2]; rfl)
        have hb2s : b2 = 92 ∨ isNs (b2.toNat : Int) = true := by
          rcases hcase2 with h | ⟨h, hn2, hbn2⟩
          · exact .inl h
          · right
            rw [h, ← nx_lt hs2]
            simp only [byNum, decide_eq_false_iff_not] at hbn2
            exact ns_of hn2 (fun hd => hbn2 (.inr (.inr (.inl ⟨hd, .inr ⟨trivial, h0⟩⟩)))) (fun h5 => hbn2 (.inr (.inr (.inr ⟨h5, trivial, h0⟩))))
        have hm : m = 1 := by
          rcases Nat.lt_trichotomy m 1 with h | h | h
          · obtain rfl : m = 0 := by omega
            exact absurd e0 hy.2.2
          · exact h
          · have h5 := hy.2.1 1 h
            rw [e1] at h5
            rcases hb2s with h6 | h6
            · rw [h6] at h5; exact absurd h5 (by decide)
            · rw [h5] at h6; exact absurd h6 (by decide)
        subst hm
        refine ⟨by rw [bs_size, hfull2]; simp, ?_⟩
        rw [e1]
        rcases hb2s with h6 | h6
        · exact .inr (by rw [h6]; rfl)
        · exact .inl h6
      · refine zero b _ hfull (.inr ?_)
        rw [hbs, ← hx0]
        simp only [byNum, decide_eq_false_iff_not] at hbn
        exact ns_of hn (fun hd => hbn (.inr (.inr (.inl ⟨hd, .inl trivial⟩)))) h0

end Go.Proofs.YtbikpalfhlgnoaaDoor
