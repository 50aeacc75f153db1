/- impl.TextWith$1: whether a node's parent has a name. -/
import Derived.Test.YtikimffifkiinaaGrown
import Derived.Test.YtikimffifkiinaaKin
import Derived.BigGuardPart
namespace Go.Proofs.Ytikimffifkiinaa
open Go.RowKit
set_option linter.unusedVariables false
set_option linter.unusedSimpArgs false

/-- Whether a node's parent has a name. -/
def kept (ts : List NodeD) (name : ByteArray) (x : Nat) : Bool := match par (sz ts) x with | none => false | some p => (dataOf (ts.getD p default)).toList == name.toList

def KeepPost (r : Bool) (w : World) (e : Ending) (w' : World) : Prop := e = .returned (.bool r) ∧ ∃ d, w' = w.drewN d

set_option maxRecDepth 100000 in
set_option maxHeartbeats 2000000 in
theorem keep_any {B' : Nat} (w : World) {bl len : Nat} {nb : Nat → Nat} {vv : Nat → Value} {ts : List NodeD} (hF : Forest B' w bl len nb vv ts) {x : Nat} (hx : x < len) (gb : Nat) (name : ByteArray) (hg : w.cell? ⟨gb, 0, none⟩ = some (.string name)) :
    Calls Try.prog 22 #[.pointer (some ⟨nb x, 0, none⟩), .pointer (some ⟨gb, 0, none⟩)] w (KeepPost (kept ts name x) w) := by
  have c0 := (hF.node hx).par
  simp only [nodeR] at c0
  rw [up_par] at c0
  unfold kept
  cases hp : par (sz ts) x with
  | none =>
    rw [hp, Option.map_none, lk_none] at c0
    clear hF hp
    go_enter Try.func22, Try.ntmps22
    go_wp2
    go_quiet (fail)
    go_wp2
    go_ret
    exact ⟨rfl, _, rfl⟩
  | some p =>
    rw [hp, Option.map_some, lk_some] at c0
    have hpl : p < len := by have := (par_some hp).1; omega
    have c7 := (hF.node hpl).data
    simp only [nodeR] at c7
    obtain ⟨d, hd⟩ : ∃ d, dataOf (ts.getD p default) = d := ⟨_, rfl⟩
    rw [hd] at c7
    simp only [hd]
    clear hF hp hpl hd
    cases hb : (d.toList == name.toList)
    · go_enter Try.func22, Try.ntmps22
      go_wp2
      go_quiet (fail)
      go_wp2
      go_ret
      exact ⟨rfl, _, rfl⟩
    · go_enter Try.func22, Try.ntmps22
      go_wp2
      go_quiet (fail)
      go_wp2
      go_ret
      exact ⟨rfl, _, rfl⟩

end Go.Proofs.Ytikimffifkiinaa
