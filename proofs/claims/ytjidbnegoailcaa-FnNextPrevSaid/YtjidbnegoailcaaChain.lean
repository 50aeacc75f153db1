/- Lists that an iterator goes along: what stands behind each of their places. Plain: no program. -/
import Derived.Test.YtjidbnegoailcaaBeside
namespace Go.Proofs.Ytjidbnegoailcaa
set_option linter.unusedVariables false
set_option linter.unusedSimpArgs false

theorem chain_drop {S : Nat → List Nat} (hS : ∀ y q r, S y = q :: r → S q = r) : ∀ (k x : Nat) (L : List Nat), S x = L → k < L.length → S (L.getD k 0) = L.drop (k + 1) := by
  intro k
  induction k with
  | zero =>
    intro x L hx hk
    cases L with
    | nil => simp at hk
    | cons q r => simpa using hS x q r hx
  | succ k ih =>
    intro x L hx hk
    cases L with
    | nil => simp at hk
    | cons q r =>
      have := ih q r (hS x q r hx) (by simpa using hk)
      simpa using this

theorem rb_cons {P : Nat → Bool} {q : Nat} {r : List Nat} : ∀ {f a : Nat}, rb P a f = q :: r → rb P (q + 1) (a + f - (q + 1)) = r := by
  intro f
  induction f with
  | zero => intro a h; simp [rb] at h
  | succ f ih =>
    intro a h
    simp only [rb] at h
    split at h
    · simp at h
      obtain ⟨rfl, rfl⟩ := h
      rw [show a + (f + 1) - (a + 1) = f by omega]
    · have := ih h
      rwa [show a + 1 + f = a + (f + 1) by omega] at this

theorem lb_cons {P : Nat → Bool} {q : Nat} {r : List Nat} : ∀ {n : Nat}, (lb P n).reverse = q :: r → (lb P q).reverse = r := by
  intro n
  induction n with
  | zero => intro h; simp [lb] at h
  | succ n ih =>
    intro h
    simp only [lb] at h
    split at h
    · rw [List.reverse_append] at h
      simp at h
      obtain ⟨rfl, rfl⟩ := h
      rfl
    · exact ih h

theorem rb_chain {P : Nat → Bool} {n : Nat} : ∀ y q r, rb P (y + 1) (n - (y + 1)) = q :: r → rb P (q + 1) (n - (q + 1)) = r := by
  intro y q r h
  have h1 := rb_cons h
  by_cases hy : y + 1 ≤ n
  · rwa [show y + 1 + (n - (y + 1)) - (q + 1) = n - (q + 1) by omega] at h1
  · rw [show n - (y + 1) = 0 by omega] at h
    simp [rb] at h

theorem head_drop {α : Type} (l : List α) (k : Nat) : (l.drop k).head? = l[k]? := by
  rw [List.head?_drop]

theorem map_getD {nb : Nat → Nat} {l : List Nat} {k : Nat} (hk : k < l.length) : (l.map nb).getD k 0 = nb (l.getD k 0) := by simp [List.getD, hk]

/-- The beginning of a list up to the first one that is as asked. -/
def upToL (U : Nat → Bool) : List Nat → List Nat
  | [] => []
  | x :: r => if U x then [] else x :: upToL U r

theorem upTo_take {U : Nat → Bool} {l : List Nat} {k : Nat} (hk : k ≤ l.length) (h : ∀ j, j < k → U (l.getD j 0) = false) : upToL U l = l.take k ++ upToL U (l.drop k) := by
  induction l generalizing k with
  | nil => simp [upToL]
  | cons x r ih =>
    cases k with
    | zero => simp
    | succ k =>
      have h0 := h 0 (by omega)
      simp at h0
      simp only [upToL, h0, List.take_succ_cons, List.drop_succ_cons, List.cons_append]
      have := ih (k := k) (by simpa using hk) (fun j hj => by simpa using h (j + 1) (by omega))
      simpa using this

theorem upTo_at {U : Nat → Bool} {l : List Nat} {k : Nat} (hk : k < l.length) (h : ∀ j, j < k → U (l.getD j 0) = false) (hu : U (l.getD k 0) = true) : upToL U l = l.take k := by
  rw [upTo_take (Nat.le_of_lt hk) h, List.drop_eq_getElem_cons hk]
  have : l.getD k 0 = l[k] := by simp [List.getD, hk]
  rw [this] at hu
  simp [upToL, hu]

theorem upTo_all {U : Nat → Bool} {l : List Nat} (h : ∀ j, j < l.length → U (l.getD j 0) = false) : upToL U l = l := by
  have := upTo_take (k := l.length) (Nat.le_refl _) h
  simpa [upToL] using this

end Go.Proofs.Ytjidbnegoailcaa
