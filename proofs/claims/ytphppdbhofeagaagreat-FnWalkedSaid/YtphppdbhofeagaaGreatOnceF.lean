/- A list without what is there already; plain. -/
import Derived.Test.YtphppdbhofeagaaGreatPtrAll
namespace Go.Proofs.YtphppdbhofeagaaGreat
open Go.RowKit
set_option linter.unusedVariables false
set_option linter.unusedSimpArgs false

def onceF (l : List Nat) : List Nat := l.foldl (fun acc x => if x ∈ acc then acc else acc ++ [x]) []

theorem onceF_snoc (l : List Nat) (x : Nat) : onceF (l ++ [x]) = if x ∈ onceF l then onceF l else onceF l ++ [x] := by
  unfold onceF
  rw [List.foldl_append]
  rfl

theorem onceF_take {l : List Nat} {k : Nat} (h : k < l.length) : onceF (l.take (k + 1)) = if l.getD k 0 ∈ onceF (l.take k) then onceF (l.take k) else onceF (l.take k) ++ [l.getD k 0] := by
  rw [take_snoc h, onceF_snoc]

theorem onceF_mem_take {l : List Nat} {y : Nat} : ∀ k, k ≤ l.length → (y ∈ onceF (l.take k) ↔ y ∈ l.take k) := by
  intro k
  induction k with
  | zero => intro _; simp [onceF]
  | succ k ih =>
    intro hk
    have h := ih (by omega)
    rw [onceF_take (by omega), take_snoc (by omega)]
    split
    · rename_i hm
      rw [h]
      have hx : l.getD k 0 ∈ l.take k := by
        have := (onceF_mem_take_aux l k (l.getD k 0)) hm
        exact this
      constructor
      · intro h1; exact List.mem_append_left _ h1
      · intro h1
        rcases List.mem_append.mp h1 with h2 | h2
        · exact h2
        · simp at h2; rw [h2]; simpa using hx
    · simp only [List.mem_append]; rw [h]
where
  onceF_mem_take_aux (l : List Nat) (k : Nat) (y : Nat) : y ∈ onceF (l.take k) → y ∈ l.take k := by
    generalize l.take k = m
    clear l k
    have : ∀ (m acc : List Nat), (∀ z ∈ m.foldl (fun acc x => if x ∈ acc then acc else acc ++ [x]) acc, z ∈ acc ∨ z ∈ m) := by
      intro m
      induction m with
      | nil => intro acc z hz; exact .inl hz
      | cons a m ih =>
        intro acc z hz
        simp only [List.foldl_cons] at hz
        rcases ih _ z hz with h | h
        · split at h
          · exact .inl h
          · rcases List.mem_append.mp h with h | h
            · exact .inl h
            · simp at h; exact .inr (by simp [h])
        · exact .inr (List.mem_cons_of_mem _ h)
    intro h
    rcases this m [] y h with h | h
    · cases h
    · exact h

theorem onceF_mem {l : List Nat} {y : Nat} : y ∈ onceF l ↔ y ∈ l := by
  have := onceF_mem_take (l := l) (y := y) l.length (Nat.le_refl _)
  rwa [List.take_length] at this

theorem onceF_len_take {l : List Nat} : ∀ k, (onceF (l.take k)).length ≤ k := by
  intro k
  induction k with
  | zero => simp [onceF]
  | succ k ih =>
    by_cases h : k < l.length
    · rw [onceF_take h]
      split
      · omega
      · simp; omega
    · rw [List.take_of_length_le (by omega)] at ih ⊢
      omega

theorem Once.snoc {l : List Nat} {x : Nat} (h : Once l) (hx : x ∉ l) : Once (l ++ [x]) := by
  intro i j hi hj he
  simp only [List.length_append, List.length_cons, List.length_nil] at hi hj
  by_cases h1 : i < l.length <;> by_cases h2 : j < l.length
  · refine h i j h1 h2 ?_
    simpa [List.getD, List.getElem?_append_left h1, List.getElem?_append_left h2] using he
  · exfalso
    obtain rfl : j = l.length := by omega
    have e : l.getD i 0 = x := by simpa [List.getD, List.getElem?_append_left h1] using he
    exact hx (by rw [← e]; exact getD_mem' h1)
  · exfalso
    obtain rfl : i = l.length := by omega
    have e : l.getD j 0 = x := by simpa [List.getD, List.getElem?_append_left h2] using he.symm
    exact hx (by rw [← e]; exact getD_mem' h2)
  · omega

theorem onceF_once_take {l : List Nat} : ∀ k, Once (onceF (l.take k)) := by
  intro k
  induction k with
  | zero => intro i j hi; simp [onceF] at hi
  | succ k ih =>
    by_cases h : k < l.length
    · rw [onceF_take h]
      split
      · exact ih
      · rename_i hm; exact ih.snoc hm
    · rw [List.take_of_length_le (by omega)] at ih ⊢
      exact ih

theorem onceF_once (l : List Nat) : Once (onceF l) := by
  have := onceF_once_take (l := l) l.length
  rwa [List.take_length] at this

theorem onceF_of_once {l : List Nat} (h : Once l) : onceF l = l := by
  have : ∀ k, k ≤ l.length → onceF (l.take k) = l.take k := by
    intro k
    induction k with
    | zero => intro _; simp [onceF]
    | succ k ih =>
      intro hk
      rw [onceF_take (by omega), ih (by omega), if_neg (h.notin (by omega)), take_snoc (by omega)]
  have h1 := this l.length (Nat.le_refl _)
  rwa [List.take_length] at h1

theorem onceF_sub_len {α : Type} [BEq α] [LawfulBEq α] : ∀ {l1 l2 : List α}, l1.Nodup → (∀ x ∈ l1, x ∈ l2) → l1.length ≤ l2.length := by
  intro l1
  induction l1 with
  | nil => intro l2 _ _; simp
  | cons a r ih =>
    intro l2 hn hs
    rw [List.nodup_cons] at hn
    have ha := hs a (by simp)
    have := ih (l2 := l2.erase a) hn.2 (fun x hx => (List.mem_erase_of_ne (fun (e : x = a) => hn.1 (by rw [← e]; exact hx))).2 (hs x (by simp [hx])))
    rw [List.length_erase_of_mem ha] at this
    have : 0 < l2.length := List.length_pos_of_mem ha
    simp only [List.length_cons]
    omega

theorem Once.nodup {l : List Nat} (h : Once l) : l.Nodup := by
  rw [List.nodup_iff_pairwise_ne, List.pairwise_iff_getElem]
  intro i j hi hj hij he
  have := h i j hi hj (by simp [List.getD, hi, hj, he])
  omega

theorem once_le {l : List Nat} {n : Nat} (h : Once l) (hl : ∀ i ∈ l, i < n) : l.length ≤ n := by
  have := onceF_sub_len (l2 := List.range n) h.nodup (fun x hx => List.mem_range.2 (hl x hx))
  simpa using this

theorem once_same_len {l1 l2 : List Nat} (h1 : Once l1) (h2 : Once l2) (h : ∀ x, x ∈ l1 ↔ x ∈ l2) : l1.length = l2.length :=
  Nat.le_antisymm (onceF_sub_len h1.nodup (fun x hx => (h x).1 hx)) (onceF_sub_len h2.nodup (fun x hx => (h x).2 hx))

end Go.Proofs.YtphppdbhofeagaaGreat
