/- Where the text is sure, both readers of identifiers agree. -/
import Derived.Test.YtbikpalfhlgnoaaDoorSpecName
import Derived.Test.YtbikpalfhlgnoaaDoorParseIdent
namespace Go.Proofs.YtbikpalfhlgnoaaDoor
open Go.RowKit
set_option linter.unusedVariables false
set_option linter.unusedSimpArgs false

theorem pn_prefix (s p : ByteArray) : ∀ (m i : Nat) (o : ByteArray), s.size - i ≤ m → pn s i (p ++ o) = (pn s i o).map (fun x => (p ++ x.1, x.2))
  | m, i, o, hm => by
    by_cases hi : i < s.size
    · match m, hm with
      | 0, hm => omega
      | m + 1, hm =>
        by_cases hn : isNc (nx s i) = true
        · rw [pn_nc hi hn, pn_nc hi hn, ByteArray.append_assoc]
          exact pn_prefix s p m (i + 1) _ (by omega)
        · by_cases h92 : nx s i = 92
          · cases he : esc s i with
            | none => rw [pn_none hi h92 he, pn_none hi h92 he]; rfl
            | some q =>
              obtain ⟨a, j'⟩ := q
              rw [pn_some hi h92 he, pn_some hi h92 he, ByteArray.append_assoc]
              exact pn_prefix s p m j' _ (by have := esc_lt he; omega)
          · rw [pn_stop (by simpa using hn) h92, pn_stop (by simpa using hn) h92]; rfl
    · rw [pn_end (by omega), pn_end (by omega)]; rfl

theorem pn_grow (s : ByteArray) : ∀ (m i j : Nat) (o out : ByteArray), s.size - i ≤ m → pn s i o = some (out, j) → o.size ≤ out.size
  | m, i, j, o, out, hm, h => by
    by_cases hi : i < s.size
    · match m, hm with
      | 0, hm => omega
      | m + 1, hm =>
        by_cases hn : isNc (nx s i) = true
        · rw [pn_nc hi hn] at h
          have := pn_grow s m (i + 1) j _ out (by omega) h
          rw [ByteArray.size_append] at this
          omega
        · by_cases h92 : nx s i = 92
          · cases he : esc s i with
            | none => rw [pn_none hi h92 he] at h; cases h
            | some p =>
              obtain ⟨a, j'⟩ := p
              rw [pn_some hi h92 he] at h
              have h1 := pn_grow s m j' j _ out (by have := esc_lt he; omega) h
              rw [ByteArray.size_append] at h1
              omega
          · rw [pn_stop (by simpa using hn) h92] at h
            simp only [Option.some.injEq, Prod.mk.injEq] at h
            rw [← h.1]
            exact Nat.le_refl _
    · rw [pn_end (by omega)] at h
      simp only [Option.some.injEq, Prod.mk.injEq] at h
      rw [← h.1]
      exact Nat.le_refl _

theorem esc_pos {s : ByteArray} {i j : Nat} {a : ByteArray} (h : esc s i = some (a, j)) : 0 < a.size := by
  unfold esc at h
  have := encode_pos (hexVal s (i + 1) (hexN s (i + 1) 6))
  repeat' split at h
  all_goals simp at h
  · rw [← h.1]; exact this
  · rw [← h.1, ByteArray.size_extract]; omega

theorem isNs_isNc {n : Int} (h : isNs n = true) : isNc n = true := by
  simp only [isNs, decide_eq_true_eq] at h
  simp only [isNc, decide_eq_true_eq]
  omega

/-- What begins a name adds to it. -/
theorem pn_begun {s : ByteArray} {m j : Nat} {out : ByteArray} (hst : startOk s m) (h : pn s m ByteArray.empty = some (out, j)) : out ≠ ByteArray.empty := by
  have hpos : 0 < out.size := by
    rcases hst with ⟨hm, hs | hs⟩
    · rw [pn_nc hm (isNs_isNc hs)] at h
      have := pn_grow s s.size _ _ _ _ (by omega) h
      rw [ByteArray.size_append, ByteArray.size_extract] at this
      omega
    · cases he : esc s m with
      | none => rw [pn_none hm hs he] at h; cases h
      | some p =>
        obtain ⟨a, j'⟩ := p
        rw [pn_some hm hs he] at h
        have h1 := pn_grow s s.size _ _ _ _ (by omega) h
        have h2 := esc_pos he
        rw [ByteArray.size_append] at h1
        omega
  intro he
  rw [he] at hpos
  simp at hpos

theorem escF_false_none {s : ByteArray} {k : Nat} (h : escF s k = false) (h92 : nx s k = 92) : esc s k = none := by
  unfold escF at h
  simp only [decide_eq_false_iff_not] at h
  by_cases h2 : s.size < k + 2
  · exact esc_short h2
  · exact esc_line h2 (by
      rcases Classical.em (nx s (k + 1) = 13 ∨ nx s (k + 1) = 10 ∨ nx s (k + 1) = 12) with h3 | h3
      · exact h3
      · exact absurd ⟨by omega, h92, by omega, by omega, by omega⟩ h)

theorem pn_hyph {s : ByteArray} {m : Nat} (hy : Hyph s m) : pn s 0 ByteArray.empty = (pn s m ByteArray.empty).map (fun x => (s.extract 0 m ++ x.1, x.2)) := by
  have h1 := pn_run (s := s) (a := 0) (out := ByteArray.empty) m (by omega) hy.1 (fun j _ hj => by rw [hy.2.1 j hj]; decide)
  rw [h1, ByteArray.empty_append]
  have h2 := pn_prefix s (s.extract 0 m) s.size m ByteArray.empty (by omega)
  rw [ByteArray.append_empty] at h2
  exact h2

/-- Both agree: the name, or that there is none. -/
theorem ident_agree {s out : ByteArray} {m k : Nat} (hy : Hyph s m) (hst : startOk s m) (hse : isNs (nx s m) = true ∨ escF s m = true) (hk : k ≤ s.size) (hso : SoFar s k false out) (hv : Valid s)
    (hstop : k = s.size ∨ (isNc (nx s k) = false ∧ escF s k = false)) :
    (nx s k = 92 ∧ pn s m ByteArray.empty = none) ∨ (nx s k ≠ 92 ∧ 0 < k ∧ ∃ o, pn s m ByteArray.empty = some (o, k) ∧ o ≠ ByteArray.empty ∧ out = s.extract 0 m ++ o) := by
  obtain ⟨hp, hpos⟩ := hso rfl hv
  have hh := pn_hyph hy
  by_cases h92 : nx s k = 92
  · left
    refine ⟨h92, ?_⟩
    rcases hstop with he | ⟨hn, hf⟩
    · rw [he, nx_end (Nat.le_refl _)] at h92
      omega
    · have hlt : k < s.size := by
        rcases Nat.lt_or_ge k s.size with h | h
        · exact h
        · rw [nx_end h] at h92; omega
      rw [pn_none hlt h92 (escF_false_none hf h92)] at hp
      rw [hp] at hh
      cases hq : pn s m ByteArray.empty with
      | none => rfl
      | some q => rw [hq] at hh; cases hh
  · right
    have hP : pn s k out = some (out, k) := by
      rcases hstop with he | ⟨hn, hf⟩
      · exact pn_end (by omega)
      · exact pn_stop hn h92
    rw [hP] at hp
    rw [hp] at hh
    cases hq : pn s m ByteArray.empty with
    | none => rw [hq] at hh; cases hh
    | some q =>
      obtain ⟨o, j⟩ := q
      rw [hq] at hh
      simp only [Option.map_some, Option.some.injEq, Prod.mk.injEq] at hh
      obtain ⟨h1, h2⟩ := hh
      subst h2
      refine ⟨h92, ?_, o, rfl, pn_begun hst hq, h1⟩
      rcases Nat.eq_zero_or_pos k with h0 | h0
      · exfalso
        subst h0
        have hm0 : m = 0 := by
          rcases Nat.eq_zero_or_pos m with h3 | h3
          · exact h3
          · have h45 := hy.2.1 0 h3
            rcases hstop with he | ⟨hn, hf⟩
            · have := hst.1; omega
            · rw [h45] at hn
              exact absurd hn (by decide)
        subst hm0
        rcases hstop with he | ⟨hn, hf⟩
        · have := hst.1; omega
        · rcases hse with h3 | h3
          · rw [isNs_isNc h3] at hn; cases hn
          · rw [hf] at h3; cases h3
      · exact h0

end Go.Proofs.YtbikpalfhlgnoaaDoor
