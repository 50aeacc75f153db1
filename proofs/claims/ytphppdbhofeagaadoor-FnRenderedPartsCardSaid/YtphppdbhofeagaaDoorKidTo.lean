/- The kid that a place stands at, up to its parent's end; texts are short (plain). -/
import Derived.Test.YtphppdbhofeagaaDoorGrowAll
import Derived.Test.YtphppdbhofeagaaDoorRightAll
namespace Go.Proofs.YtphppdbhofeagaaDoor
open Go.RowKit
set_option linter.unusedVariables false
set_option linter.unusedSimpArgs false

theorem tsum_mono (ts : List NodeD) : ∀ {n k : Nat}, k < n → (ts.getD k default).text.size ≤ tsum ts n
  | 0, k, h => by omega
  | n + 1, k, h => by
    rw [tsum]
    by_cases e : k = n
    · subst e; omega
    · have := tsum_mono ts (n := n) (k := k) (by omega); omega

theorem RightT.text_le {ts : List NodeD} {len : Nat} (h : RightT ts len) {i : Nat} (hi : i < len) : (ts.getD i default).text.size ≤ 4000 :=
  Nat.le_trans (tsum_mono ts hi) h.texts

/-- The kid that a place stands at, up to a node's end. -/
def kidTo (z : Nat → Nat) (p j : Nat) : Option Nat := if j < p + z p then some j else none
theorem kidTo_lt {z : Nat → Nat} {p j : Nat} (h : j < p + z p) : kidTo z p j = some j := if_pos h
theorem kidTo_end {z : Nat → Nat} {p j : Nat} (h : ¬ j < p + z p) : kidTo z p j = none := if_neg h
theorem nxt_kidTo {z : Nat → Nat} {k p : Nat} (hk : par z k = some p) : nxtK (fun i => i + z i) 0 k = kidTo z p (k + z k) := by
  unfold nxtK
  rw [up_par, hk]
  rfl

end Go.Proofs.YtphppdbhofeagaaDoor
