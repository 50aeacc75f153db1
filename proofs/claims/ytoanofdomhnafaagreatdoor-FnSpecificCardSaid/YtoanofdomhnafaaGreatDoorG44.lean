/- Parts of a proof: Views. -/
import Derived.Test.YtoanofdomhnafaaGreatDoorG00
import Derived.OpenShut
import Derived.ShutString
import Derived.ChangeOld
import Derived.Below
set_option linter.unusedVariables false
set_option linter.unusedSimpArgs false
namespace Go.Proofs.YtoanofdomhnafaaGreatDoor
open Go.RowKit Go.ChangeShapes Go.WideShapes
theorem Tryz.own : ownKnob Tryz.prog.godebug = none := by kernel_rfl
theorem Tryz.laidOut : laidOutB Tryz.prog = true := by kernel_rfl
theorem row_of_cells {w : World} {x : Addr} {len : Nat} (vs : List Value) (hl : vs.length = len) (hm : len ≤ maxLen) (hc : ∀ i, i < len → w.cell? (x.add i) = some (vs.getD i undef)) : Row w (some x) len vs := by
  refine ⟨hl, hm, fun h0 => ?_⟩
  obtain ⟨b, off, spot⟩ := x
  have h := hc 0 h0
  have hspot : spot = none := by simpa [Addr.add] using World.cell?_spot h
  subst hspot
  refine ⟨b, off, rfl, fun i hi => ?_⟩
  have := hc i hi
  by_cases h0 : i = 0
  · subst h0; simpa [Addr.add] using this
  · simpa [Addr.add, h0] using this
theorem row_nil (w : World) : Row w none 0 [] := ⟨rfl, Nat.zero_le _, fun h => absurd h (Nat.lt_irrefl 0)⟩
section
variable {H : Type} {enc : TypeId × Value → H} {W : World}
theorem strs_of {a : Option Addr} {len cap : Nat} {d : DataW H} {p : List MemPlace} (h : DataW.Trod enc Tryz.prog W 0 (fun _ => true) true 53 (.slice a len cap) d p) :
    ∃ ss : List ByteArray, Strs W a len ss ∧ ∀ s ∈ ss, s.size ≤ maxLen := by
  obtain ⟨fuel, hf⟩ := h
  rcases open_strings Tryz.underlying53 Tryz.underlying9 (by kernel_rfl) hf with ⟨hcs, _⟩ | ⟨x, l, c, ss, hcs, _, hl, hm, hz, _, hcell, hws⟩
  · simp [Value.cells] at hcs
    obtain ⟨rfl, rfl, rfl⟩ := hcs
    exact ⟨[], row_nil _, by simp⟩
  · simp [Value.cells] at hcs
    obtain ⟨rfl, rfl, rfl⟩ := hcs
    have hz' : ss.length = cap := by simpa using hz
    refine ⟨ss.take len, row_of_cells _ (by simp; omega) (by omega) (fun i hi => ?_), fun s hs => hws s (List.mem_of_mem_take hs)⟩
    rw [hcell i (by omega)]
    have hi' : i < ss.length := by omega
    simp [List.getD, hi, hi', List.getElem?_take]
end
end Go.Proofs.YtoanofdomhnafaaGreatDoor
