/- The parents of places, those that are elements. Plain: no program. -/
import Derived.Test.YtobnglgnoflbnaaOnce
import Derived.Test.YtobnglgnoflbnaaKin
import Derived.Test.YtobnglgnoflbnaaRight
namespace Go.Proofs.Ytobnglgnoflbnaa
open Go.RowKit
set_option linter.unusedVariables false
set_option linter.unusedSimpArgs false

/-- The parent that is an element. -/
def parEl (ts : List NodeD) (x : Nat) : Option Nat := match par (sz ts) x with | some p => if kd ts p = 3 then some p else none | none => none

theorem parEl_none {ts : List NodeD} {x : Nat} (h : par (sz ts) x = none) : parEl ts x = none := by unfold parEl; rw [h]
theorem parEl_some {ts : List NodeD} {x p : Nat} (h : par (sz ts) x = some p) : parEl ts x = if kd ts p = 3 then some p else none := by unfold parEl; rw [h]

def parList (ts : List NodeD) (l : List Nat) : List Nat := l.filterMap (parEl ts)

theorem parList_take {ts : List NodeD} {l : List Nat} {k : Nat} (hk : k < l.length) : parList ts (l.take (k + 1)) = parList ts (l.take k) ++ (parEl ts (l.getD k 0)).toList := by
  unfold parList
  rw [take_snoc hk, List.filterMap_append]
  congr 1

theorem parList_skip {ts : List NodeD} {l : List Nat} {k : Nat} (hk : k < l.length) (h : parEl ts (l.getD k 0) = none) : parList ts (l.take (k + 1)) = parList ts (l.take k) := by
  rw [parList_take hk, h]; simp

theorem parList_len {ts : List NodeD} {l : List Nat} : (parList ts l).length ≤ l.length := List.length_filterMap_le _ _

theorem parList_lt {ts : List NodeD} {l : List Nat} {n y : Nat} (hl : ∀ i ∈ l, i < n) (hy : y ∈ parList ts l) : y < n := by
  unfold parList at hy
  obtain ⟨x, hx, hp⟩ := List.mem_filterMap.1 hy
  unfold parEl at hp
  cases h : par (sz ts) x with
  | none => rw [h] at hp; cases hp
  | some p =>
    rw [h] at hp
    simp only at hp
    split at hp
    · cases hp
      have := (par_some h).1
      have := hl x hx
      omega
    · cases hp

/-- The first parents, each once, with one more. -/
theorem once_skip {ts : List NodeD} {l : List Nat} {k : Nat} (hk : k < l.length) (h : parEl ts (l.getD k 0) = none) : onceF (parList ts (l.take (k + 1))) = onceF (parList ts (l.take k)) := by rw [parList_skip hk h]
theorem once_there {ts : List NodeD} {l : List Nat} {k p : Nat} (hk : k < l.length) (h : parEl ts (l.getD k 0) = some p) (hm : p ∈ onceF (parList ts (l.take k))) : onceF (parList ts (l.take (k + 1))) = onceF (parList ts (l.take k)) := by
  rw [parList_take hk, h, Option.toList_some, onceF_snoc, if_pos hm]
theorem once_new {ts : List NodeD} {l : List Nat} {k p : Nat} (hk : k < l.length) (h : parEl ts (l.getD k 0) = some p) (hm : p ∉ onceF (parList ts (l.take k))) : onceF (parList ts (l.take (k + 1))) = onceF (parList ts (l.take k)) ++ [p] := by
  rw [parList_take hk, h, Option.toList_some, onceF_snoc, if_neg hm]
theorem once_len {l : List Nat} : (onceF l).length ≤ l.length := by
  have := onceF_len_take (l := l) l.length
  rwa [List.take_length] at this
theorem once_par_len {ts : List NodeD} {l : List Nat} {k : Nat} : (onceF (parList ts (l.take k))).length ≤ k := by
  have h1 := once_len (l := parList ts (l.take k))
  have h2 := parList_len (ts := ts) (l := l.take k)
  have h3 : (l.take k).length ≤ k := by simp; omega
  omega

end Go.Proofs.Ytobnglgnoflbnaa
