/- What impl's changes hand back. -/
import Derived.Test.YtoleejaabiafcaaTakenAll
import Derived.Test.YtoleejaabiafcaaRemoveSel
namespace Go.Proofs.Ytoleejaabiafcaa
open Go.RowKit
set_option linter.unusedVariables false
set_option linter.unusedSimpArgs false

def DoneOfPost (lab : Nat → NodeD) (n : Nat) (C : List (Nat × Nat)) (W : World) (e : Ending) (w' : World) : Prop :=
  ∃ tv pv, e = .returned (.tuple #[tv, pv, .bool true]) ∧ Hid (OutAt w' W.heap.size tv lab C) ∧ Hid (OwnZ w' W.heap.size pv (placesW n C)) ∧ Hid (Below W.heap.size W w')

theorem WOk.order {n : Nat} {F : Wd} (hF : WOk n F) {C : List (Nat × Nat)} (h0 : 0 < n) (hC : Fs F.kids [0] C) : (C.map (·.1)).Nodup ∧ (∀ y ∈ C, y.1 < n) ∧ C.length ≤ n := by
  obtain ⟨C', h1, h2, h3, h4⟩ := hF.sized h0
  rw [hC.det h1]
  exact ⟨h2, h3, h4⟩

end Go.Proofs.Ytoleejaabiafcaa
