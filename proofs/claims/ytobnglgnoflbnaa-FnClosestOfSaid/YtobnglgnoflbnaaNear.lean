/- The nearest of a set among a place and those above; lists by a partial step, each once. Plain: no program. -/
import Derived.Test.YtobnglgnoflbnaaOnce
import Derived.Test.YtobnglgnoflbnaaKin
import Derived.Test.YtobnglgnoflbnaaRight
namespace Go.Proofs.Ytobnglgnoflbnaa
open Go.RowKit
set_option linter.unusedVariables false
set_option linter.unusedSimpArgs false

/-- What a step gives, of each of some places. -/
def stepL (g : Nat → Option Nat) (l : List Nat) : List Nat := l.filterMap g

theorem stepL_take {g : Nat → Option Nat} {l : List Nat} {k : Nat} (hk : k < l.length) : stepL g (l.take (k + 1)) = stepL g (l.take k) ++ (g (l.getD k 0)).toList := by
  unfold stepL
  rw [take_snoc hk, List.filterMap_append]
  congr 1

theorem stepL_len {g : Nat → Option Nat} {l : List Nat} : (stepL g l).length ≤ l.length := List.length_filterMap_le _ _

theorem stepL_lt {g : Nat → Option Nat} {l : List Nat} {n y : Nat} (hg : ∀ x p, x ∈ l → g x = some p → p < n) (hy : y ∈ stepL g l) : y < n := by
  obtain ⟨x, hx, hp⟩ := List.mem_filterMap.1 hy
  exact hg x y hx hp

theorem stepO_skip {g : Nat → Option Nat} {l : List Nat} {k : Nat} (hk : k < l.length) (h : g (l.getD k 0) = none) : onceF (stepL g (l.take (k + 1))) = onceF (stepL g (l.take k)) := by rw [stepL_take hk, h]; simp
theorem stepO_there {g : Nat → Option Nat} {l : List Nat} {k p : Nat} (hk : k < l.length) (h : g (l.getD k 0) = some p) (hm : p ∈ onceF (stepL g (l.take k))) : onceF (stepL g (l.take (k + 1))) = onceF (stepL g (l.take k)) := by
  rw [stepL_take hk, h, Option.toList_some, onceF_snoc, if_pos hm]
theorem stepO_new {g : Nat → Option Nat} {l : List Nat} {k p : Nat} (hk : k < l.length) (h : g (l.getD k 0) = some p) (hm : p ∉ onceF (stepL g (l.take k))) : onceF (stepL g (l.take (k + 1))) = onceF (stepL g (l.take k)) ++ [p] := by
  rw [stepL_take hk, h, Option.toList_some, onceF_snoc, if_neg hm]
theorem onceF_length {l : List Nat} : (onceF l).length ≤ l.length := by
  have := onceF_len_take (l := l) l.length
  rwa [List.take_length] at this
theorem stepO_len {g : Nat → Option Nat} {l : List Nat} {k : Nat} : (onceF (stepL g (l.take k))).length ≤ k := by
  have h1 := onceF_length (l := stepL g (l.take k))
  have h2 := stepL_len (g := g) (l := l.take k)
  have h3 : (l.take k).length ≤ k := by simp; omega
  omega

/-- The nearest of a set, going up. -/
def nearGo (z : Nat → Nat) (S : Nat → Bool) : Nat → Nat → Option Nat
  | 0, _ => none
  | f + 1, x => if S x then some x else match par z x with | none => none | some p => nearGo z S f p
def near (z : Nat → Nat) (S : Nat → Bool) (x : Nat) : Option Nat := nearGo z S (x + 1) x

theorem nearGo_same {z : Nat → Nat} {S : Nat → Bool} : ∀ f1 f2 y, y < f1 → y < f2 → nearGo z S f1 y = nearGo z S f2 y := by
  intro f1
  induction f1 with
  | zero => intro f2 y h; omega
  | succ f1 ih1 =>
    intro f2 y h1 h2
    cases f2 with
    | zero => omega
    | succ f2 =>
      simp only [nearGo]
      cases hq : par z y with
      | none => rfl
      | some q =>
        have hqy := (par_some hq).1
        simp only
        rw [ih1 f2 q (by omega) (by omega)]

theorem near_here {z : Nat → Nat} {S : Nat → Bool} {x : Nat} (h : S x = true) : near z S x = some x := by simp [near, nearGo, h]
theorem near_top {z : Nat → Nat} {S : Nat → Bool} {x : Nat} (h : S x = false) (hp : par z x = none) : near z S x = none := by simp [near, nearGo, h, hp]
theorem near_up {z : Nat → Nat} {S : Nat → Bool} {x p : Nat} (h : S x = false) (hp : par z x = some p) : near z S x = near z S p := by
  have := (par_some hp).1
  have e : near z S x = nearGo z S x p := by simp [near, nearGo, h, hp]
  rw [e]
  exact nearGo_same _ _ p this (by omega)
theorem near_le {z : Nat → Nat} {S : Nat → Bool} : ∀ n x p, x ≤ n → near z S x = some p → p ≤ x := by
  intro n
  induction n with
  | zero =>
    intro x p hx h
    cases hs : S x
    · cases hp : par z x with
      | none => rw [near_top hs hp] at h; cases h
      | some q => have := (par_some hp).1; omega
    · rw [near_here hs] at h; cases h; omega
  | succ n ih =>
    intro x p hx h
    cases hs : S x
    · cases hp : par z x with
      | none => rw [near_top hs hp] at h; cases h
      | some q =>
        have hq := (par_some hp).1
        rw [near_up hs hp] at h
        have := ih q p (by omega) h
        omega
    · rw [near_here hs] at h; cases h; omega

end Go.Proofs.Ytobnglgnoflbnaa
