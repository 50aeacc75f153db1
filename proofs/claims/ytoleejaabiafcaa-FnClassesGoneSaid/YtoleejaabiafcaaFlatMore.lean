/- More of a forest's order; plain. -/
import Derived.Test.YtoleejaabiafcaaWoodAll
namespace Go.Proofs.Ytoleejaabiafcaa
set_option linter.unusedVariables false
set_option linter.unusedSimpArgs false

theorem Fl.congrL {k1 k2 : Nat → List Nat} {xs L : List Nat} (h : Fl k1 xs L) : (∀ y ∈ L, k1 y = k2 y) → Fl k2 xs L := by
  induction h with
  | nil => intro _; exact .nil
  | @cons x xs A B h1 h2 ih1 ih2 =>
    intro hk
    have e : k1 x = k2 x := hk x (by simp)
    exact .cons (by rw [← e]; exact ih1 (fun y hy => hk y (by simp [hy]))) (ih2 (fun y hy => hk y (by simp [hy])))

/-- What is beneath a node in a tree as data. -/
theorem anc_range {z : Nat → Nat} {n : Nat} (hz : Nest z n) {w y : Nat} (hw : w < n) : Anc (wd0 z n) w y ↔ w ≤ y ∧ y < w + z w := by
  have h := (wd0_flat hz (z w) w hw (Nat.le_refl _)).anc (wd0_ok hz) y
  rw [List.mem_range'_1] at h
  constructor
  · intro ha
    exact h.2 ⟨w, by simp, ha⟩
  · intro hh
    obtain ⟨x, hx, ha⟩ := h.1 hh
    simp at hx
    subst hx
    exact ha

theorem Fl.fs_len {kids : Nat → List Nat} {x : Nat} {L : List Nat} {A : List (Nat × Nat)} (h : Fl kids [x] L) (hA : Fs kids (kids x) A) : L = x :: A.map (·.1) := h.det (Fl.one hA.fl)

end Go.Proofs.Ytoleejaabiafcaa
