/- What stands beneath a node in a forest's order; plain. More of a forest's order; plain. -/
import Derived.Test.YtkdomegcacgpnaaGreatWoodAll
namespace Go.Proofs.YtkdomegcacgpnaaGreat
set_option linter.unusedVariables false
set_option linter.unusedSimpArgs false

theorem Fs.underAt {kids : Nat → List Nat} {xs : List Nat} {C : List (Nat × Nat)} (h : Fs kids xs C) : ∀ i, i < C.length → ∃ A, Fs kids (kids (C.getD i default).1) A ∧ (C.getD i default).2 = A.length + 1 ∧ (∀ j, j < A.length → C.getD (i + 1 + j) default = A.getD j default) ∧ i + 1 + A.length ≤ C.length := by
  induction h with
  | nil => intro i hi; simp at hi
  | @cons x xs A B h1 h2 ih1 ih2 =>
    intro i hi
    have hl : ((x, A.length + 1) :: (A ++ B)).length = A.length + B.length + 1 := by simp
    have eA : ∀ k, k < A.length → ((x, A.length + 1) :: (A ++ B)).getD (k + 1) default = A.getD k default := fun k hk => by
      simp [List.getD_eq_getElem?_getD, List.getElem?_append_left hk]
    have eB : ∀ k, ((x, A.length + 1) :: (A ++ B)).getD (A.length + k + 1) default = B.getD k default := fun k => by
      simp [List.getD_eq_getElem?_getD, List.getElem?_append_right (show A.length ≤ A.length + k by omega)]
    rw [hl] at hi ⊢
    by_cases h0 : i = 0
    · subst h0
      refine ⟨A, h1, rfl, fun j hj => ?_, by omega⟩
      rw [show 0 + 1 + j = j + 1 by omega]
      exact eA j hj
    · by_cases hA : i ≤ A.length
      · obtain ⟨k, rfl⟩ : ∃ k, i = k + 1 := ⟨i - 1, by omega⟩
        obtain ⟨D, d1, d2, d3, d4⟩ := ih1 k (by omega)
        rw [eA k (by omega)]
        refine ⟨D, d1, d2, fun j hj => ?_, by omega⟩
        rw [show k + 1 + 1 + j = (k + 1 + j) + 1 by omega, eA _ (by omega)]
        exact d3 j hj
      · obtain ⟨k, rfl⟩ : ∃ k, i = A.length + k + 1 := ⟨i - 1 - A.length, by omega⟩
        obtain ⟨D, d1, d2, d3, d4⟩ := ih2 k (by omega)
        rw [eB k]
        refine ⟨D, d1, d2, fun j hj => ?_, by omega⟩
        rw [show A.length + k + 1 + 1 + j = A.length + (k + 1 + j) + 1 by omega, eB]
        exact d3 j hj

end Go.Proofs.YtkdomegcacgpnaaGreat

namespace Go.Proofs.YtkdomegcacgpnaaGreat
set_option linter.unusedVariables false
set_option linter.unusedSimpArgs false

theorem Fl.congrL {k1 k2 : Nat → List Nat} {xs L : List Nat} (h : Fl k1 xs L) : (∀ y ∈ L, k1 y = k2 y) → Fl k2 xs L := by
  induction h with
  | nil => intro _; exact .nil
  | @cons x xs A B h1 h2 ih1 ih2 =>
    intro hk
    have e : k1 x = k2 x := hk x (by simp)
    exact .cons (by rw [← e]; exact ih1 (fun y hy => hk y (by simp [hy]))) (ih2 (fun y hy => hk y (by simp [hy])))

/-- What is beneath a node in a tree as data. -/
theorem anc_range {z : Nat → Nat} {n : Nat} (hz : Nest z n) {w y : Nat} (hw : w < n) : Anc (wd0 z n) w y ↔ w ≤ y ∧ y < w + z w := by
  have h := (wd0_flat hz (z w) w hw (Nat.le_refl _)).anc (wd0_ok hz) y
  rw [List.mem_range'_1] at h
  constructor
  · intro ha
    exact h.2 ⟨w, by simp, ha⟩
  · intro hh
    obtain ⟨x, hx, ha⟩ := h.1 hh
    simp at hx
    subst hx
    exact ha

theorem Fl.fs_len {kids : Nat → List Nat} {x : Nat} {L : List Nat} {A : List (Nat × Nat)} (h : Fl kids [x] L) (hA : Fs kids (kids x) A) : L = x :: A.map (·.1) := h.det (Fl.one hA.fl)

end Go.Proofs.YtkdomegcacgpnaaGreat

