/- How many brothers stand up to one, and from one on. Plain: no program. -/
import Derived.Test.YtobnglgnoflbnaaSameKin
namespace Go.Proofs.Ytobnglgnoflbnaa
open Go.RowKit
set_option linter.unusedVariables false
set_option linter.unusedSimpArgs false

/-- What spec.counted counts. -/
def cntP (ts : List NodeD) (x : Nat) (ty last : Bool) (k : Nat) : Bool :=
  (!ty || ((ts.getD k default).tag.toList == (ts.getD x default).tag.toList)) && (if last then decide (x ≤ k) else decide (k ≤ x))

/-- Of the first i of a list. -/
def cntL (P : Nat → Bool) (l : List Nat) (i : Nat) : Nat := ((l.take i).filter P).length

theorem cntL_zero {P : Nat → Bool} {l : List Nat} : cntL P l 0 = 0 := by simp [cntL]
theorem cntL_yes {P : Nat → Bool} {l : List Nat} {i : Nat} (hi : i < l.length) (h : P (l.getD i 0) = true) : cntL P l (i + 1) = cntL P l i + 1 := by
  have : l[i]'hi = l.getD i 0 := by simp [List.getD, hi]
  simp [cntL, List.take_add_one, hi, this, h, -List.getD_eq_getElem?_getD]
theorem cntL_no {P : Nat → Bool} {l : List Nat} {i : Nat} (hi : i < l.length) (h : P (l.getD i 0) = false) : cntL P l (i + 1) = cntL P l i := by
  have : l[i]'hi = l.getD i 0 := by simp [List.getD, hi]
  simp [cntL, List.take_add_one, hi, this, h, -List.getD_eq_getElem?_getD]
theorem cntL_le {P : Nat → Bool} {l : List Nat} {i : Nat} : cntL P l i ≤ l.length := by
  have h1 := List.length_filter_le P (l.take i)
  have h2 : (l.take i).length ≤ l.length := by simp; omega
  unfold cntL; omega
theorem cntL_all {P : Nat → Bool} {l : List Nat} : cntL P l l.length = (l.filter P).length := by simp [cntL]

theorem lb_congr {P Q : Nat → Bool} : ∀ {n}, (∀ k, k < n → P k = Q k) → lb P n = lb Q n := by
  intro n
  induction n with
  | zero => intro _; rfl
  | succ n ih =>
    intro h
    simp only [lb]
    rw [h n (by omega), ih (fun k hk => h k (by omega))]

theorem cnt_first {ts : List NodeD} {p x len : Nat} {ty : Bool} (hx : x < len) (hs : sameKid ts p x ty x = true) :
    cntL (cntP ts x ty false) (lb (elKid ts p) len) (lb (elKid ts p) len).length = (lb (sameKid ts p x ty) x).length + 1 := by
  rw [cntL_all, lb_filter, lb_from (a := x + 1) (by omega) (fun k h1 h2 => by simp [cntP]; omega)]
  rw [lb_congr (Q := sameKid ts p x ty) (fun k hk => by
    have : decide (k ≤ x) = true := by simp; omega
    simp [cntP, sameKid, this])]
  simp [lb, hs]

theorem cnt_last {ts : List NodeD} {p x len : Nat} {ty : Bool} (hx : x < len) :
    cntL (cntP ts x ty true) (lb (elKid ts p) len) (lb (elKid ts p) len).length + (lb (sameKid ts p x ty) x).length = (lb (sameKid ts p x ty) len).length := by
  rw [cntL_all, lb_filter]
  have h : ∀ d, (lb (fun k => elKid ts p k && cntP ts x ty true k) (x + d)).length + (lb (sameKid ts p x ty) x).length = (lb (sameKid ts p x ty) (x + d)).length := by
    intro d
    induction d with
    | zero =>
      rw [lb_zero (n := x + 0) (fun k hk => by simp [cntP]; omega)]
      simp
    | succ d ih =>
      rw [show x + (d + 1) = x + d + 1 by omega]
      have h2 : (elKid ts p (x + d) && cntP ts x ty true (x + d)) = sameKid ts p x ty (x + d) := by
        have : decide (x ≤ x + d) = true := by simp
        simp [cntP, sameKid, this]
      simp only [lb, h2]
      split
      · simp; omega
      · omega
  have := h (len - x)
  rwa [show x + (len - x) = len by omega] at this

/-- The only one just if it is the first and the last. -/
theorem only_law {ts : List NodeD} {p x len : Nat} {ty : Bool} (hx : x < len) (hk : kd ts x = 3) (hp : par (sz ts) x = some p) :
    (decide (cntL (cntP ts x ty false) (lb (elKid ts p) len) (lb (elKid ts p) len).length = 1) && decide (cntL (cntP ts x ty true) (lb (elKid ts p) len) (lb (elKid ts p) len).length = 1)) = decide ((lb (sameKid ts p x ty) len).length = 1) := by
  have hs : sameKid ts p x ty x = true := by simp [sameKid, elKid, hp, hk]
  have h1 := cnt_first (ty := ty) hx hs
  have h2 := cnt_last (p := p) (ty := ty) hx (ts := ts)
  have h3 := lb_len_mono (P := sameKid ts p x ty) (show x + 1 ≤ len from hx)
  have h4 : (lb (sameKid ts p x ty) (x + 1)).length = (lb (sameKid ts p x ty) x).length + 1 := by simp [lb, hs]
  rw [h1]
  rw [← Bool.decide_and]
  congr 1
  apply propext
  omega

end Go.Proofs.Ytobnglgnoflbnaa
