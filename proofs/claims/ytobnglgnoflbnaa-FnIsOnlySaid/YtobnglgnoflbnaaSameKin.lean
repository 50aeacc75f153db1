/- The kids of a node that are elements, of one name if that is asked for: forward steps. Plain: no program. -/
import Derived.Test.YtobnglgnoflbnaaKin
import Derived.Test.YtobnglgnoflbnaaRight
import Derived.Test.YtobnglgnoflbnaaIndexAmong
namespace Go.Proofs.Ytobnglgnoflbnaa
open Go.RowKit
set_option linter.unusedVariables false
set_option linter.unusedSimpArgs false

/-- An element kid of p, of x's name if ty. -/
def sameKid (ts : List NodeD) (p x : Nat) (ty : Bool) (k : Nat) : Bool := elKid ts p k && (!ty || ((ts.getD k default).tag.toList == (ts.getD x default).tag.toList))

theorem lb_zero {P : Nat → Bool} {n : Nat} (h : ∀ k, k < n → P k = false) : lb P n = [] := by
  have := lb_gap (P := P) (a := 0) n (fun k _ hk => h k (by omega))
  rw [Nat.zero_add] at this
  rw [this]; rfl

theorem lb_from {P : Nat → Bool} {a b : Nat} (hab : a ≤ b) (h : ∀ k, a ≤ k → k < b → P k = false) : lb P b = lb P a := by
  have := lb_gap (P := P) (a := a) (b - a) (fun k h1 h2 => h k h1 (by omega))
  rwa [show a + (b - a) = b by omega] at this

theorem sameKid_par {ts : List NodeD} {p x k : Nat} {ty : Bool} (h : par (sz ts) k ≠ some p) : sameKid ts p x ty k = false := by
  have : (par (sz ts) k == some p) = false := by simpa using h
  simp [sameKid, elKid, this]

theorem same_start {ts : List NodeD} {p x : Nat} {ty : Bool} : lb (sameKid ts p x ty) (p + 1) = [] :=
  lb_zero (fun k hk => sameKid_par (fun h => by have := (par_some h).1; omega))

theorem same_gap {ts : List NodeD} {p x k : Nat} {ty : Bool} (hk : par (sz ts) k = some p) (hz : 1 ≤ sz ts k) : lb (sameKid ts p x ty) (k + sz ts k) = lb (sameKid ts p x ty) (k + 1) :=
  lb_from (by omega) (fun j h1 h2 => sameKid_par (fun h => by
    have := (par_some h).2.2 k (par_some hk).1 (by omega)
    omega))

theorem same_yes {ts : List NodeD} {p x k : Nat} {ty : Bool} (hk : par (sz ts) k = some p) (hz : 1 ≤ sz ts k) (hy : sameKid ts p x ty k = true) : (lb (sameKid ts p x ty) (k + sz ts k)).length = (lb (sameKid ts p x ty) k).length + 1 := by
  rw [same_gap hk hz]
  simp [lb, hy]

theorem same_no {ts : List NodeD} {p x k : Nat} {ty : Bool} (hk : par (sz ts) k = some p) (hz : 1 ≤ sz ts k) (hy : sameKid ts p x ty k = false) : (lb (sameKid ts p x ty) (k + sz ts k)).length = (lb (sameKid ts p x ty) k).length := by
  rw [same_gap hk hz]
  simp [lb, hy]

theorem same_end {ts : List NodeD} {p x n : Nat} {ty : Bool} (h : p + sz ts p ≤ n) : lb (sameKid ts p x ty) n = lb (sameKid ts p x ty) (p + sz ts p) :=
  lb_from h (fun j h1 h2 => sameKid_par (fun h => by
    have := (par_some h).2.1
    omega))

theorem lb_len_mono {P : Nat → Bool} {a b : Nat} (h : a ≤ b) : (lb P a).length ≤ (lb P b).length := by
  obtain ⟨r, h1, _⟩ := lb_split (P := P) (a := a) (b - a)
  rw [show a + (b - a) = b by omega] at h1
  rw [h1]; simp

/-- The next brother. -/
theorem nxt_kin {z : Nat → Nat} {k p : Nat} (hk : par z k = some p) : nxtK (fun i => i + z i) 0 k = if k + z k < p + z p then some (k + z k) else none := by
  unfold nxtK
  rw [up_par, hk]

/-- The kid that a place stands at, up to a node's end. -/
def kidAt (z : Nat → Nat) (p j : Nat) : Option Nat := if j < p + z p then some j else none

theorem fst_kin {z : Nat → Nat} {p : Nat} : fstK (fun i => i + z i) p = kidAt z p (p + 1) := rfl
theorem nxt_kidAt {z : Nat → Nat} {k p : Nat} (hk : par z k = some p) : nxtK (fun i => i + z i) 0 k = kidAt z p (k + z k) := nxt_kin hk
theorem kidAt_lt {z : Nat → Nat} {p j : Nat} (h : j < p + z p) : kidAt z p j = some j := if_pos h
theorem kidAt_end {z : Nat → Nat} {p : Nat} : kidAt z p (p + z p) = none := if_neg (Nat.lt_irrefl _)

theorem only_more' {ts : List NodeD} {p x k n : Nat} {ty : Bool} (hk : par (sz ts) k = some p) (hz : 1 ≤ sz ts k) (hn : k + sz ts k ≤ n) (hy : sameKid ts p x ty k = true) (h1 : (lb (sameKid ts p x ty) k).length = 1) : decide ((lb (sameKid ts p x ty) n).length = 1) = false := by
  have h2 := same_yes hk hz hy
  have h3 := lb_len_mono (P := sameKid ts p x ty) hn
  simp; omega

end Go.Proofs.Ytobnglgnoflbnaa
