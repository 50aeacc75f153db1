/- Both readers agree on a name: what it is, or that there is none. -/
import Derived.Test.YtbikpalfhlgnoaaGreatDoorTail
import Derived.Test.YtbikpalfhlgnoaaGreatDoorSpecName
namespace Go.Proofs.YtbikpalfhlgnoaaGreatDoor
open Go.RowKit
set_option linter.unusedVariables false
set_option linter.unusedSimpArgs false

theorem esc_none_of {s : ByteArray} {k : Nat} (h : escF s k = false) (h92 : nx s k = 92) : esc s k = none := by
  unfold escF at h
  simp only [decide_eq_false_iff_not] at h
  by_cases h2 : s.size < k + 2
  · exact esc_short h2
  · exact esc_line h2 (by
      rcases Classical.em (nx s (k + 1) = 13 ∨ nx s (k + 1) = 10 ∨ nx s (k + 1) = 12) with h3 | h3
      · exact h3
      · exact absurd ⟨by omega, h92, by omega, by omega, by omega⟩ h)

theorem name_agree {s out : ByteArray} {k : Nat} (hso : SoFar s k false out) (hv : Valid s) (hk : k ≤ s.size) (hstop : k = s.size ∨ (isNc (nx s k) = false ∧ escF s k = false)) :
    (nx s k = 92 ∧ pn s 0 ByteArray.empty = none) ∨ (nx s k ≠ 92 ∧ pn s 0 ByteArray.empty = some (out, k) ∧ (0 < k → out ≠ ByteArray.empty) ∧ (k = 0 → out = ByteArray.empty)) := by
  obtain ⟨hp, hpos⟩ := hso rfl hv
  by_cases h92 : nx s k = 92
  · left
    refine ⟨h92, ?_⟩
    have hlt : k < s.size := by
      rcases Nat.lt_or_ge k s.size with h | h
      · exact h
      · rw [nx_end h] at h92; omega
    rcases hstop with he | ⟨hn, hf⟩
    · omega
    · rw [hp, pn_none hlt h92 (esc_none_of hf h92)]
  · right
    have hP : pn s k out = some (out, k) := by
      rcases hstop with he | ⟨hn, hf⟩
      · exact pn_end (by omega)
      · exact pn_stop hn h92
    refine ⟨h92, by rw [hp, hP], ?_, ?_⟩
    · intro h0 he
      have := hpos h0
      rw [he] at this
      simp at this
    · intro h0
      subst h0
      have hP0 : pn s 0 ByteArray.empty = some (ByteArray.empty, 0) := by
        rcases hstop with he | ⟨hn, hf⟩
        · exact pn_end (by omega)
        · exact pn_stop hn h92
      rw [hp, hP] at hP0
      simpa using hP0

end Go.Proofs.YtbikpalfhlgnoaaGreatDoor
