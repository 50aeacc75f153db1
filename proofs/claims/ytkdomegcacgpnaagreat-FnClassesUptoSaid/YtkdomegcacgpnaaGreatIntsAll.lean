/- Integers behind a slice's address. The attributes of a node, as a walk wants them. Results that lie in a cell: alone, ahead of two others, ahead of three. -/
import Derived.Test.YtkdomegcacgpnaaGreatPtrAll
import Derived.Test.YtkdomegcacgpnaaGreatAloneAll
import Derived.Tactics
import Derived.Test.YtkdomegcacgpnaaGreatKnotAll
namespace Go.Proofs.YtkdomegcacgpnaaGreat
open Go.RowKit
set_option linter.unusedVariables false
set_option linter.unusedSimpArgs false

def intZ (z : Int) : Value := .int .i64 z

/-- Integers behind a slice's address. -/
def Ints (w : World) (a : Option Addr) (n : Nat) (zs : List Int) : Prop := Row w a n (zs.map intZ)

theorem Ints.below {w w' : World} {a : Option Addr} {n : Nat} {zs : List Int} (h : Ints w a n zs) (hb : Below w.heap.size w w') : Ints w' a n zs := Row.below h hb

theorem Ints.open {w : World} {a : Option Addr} {n : Nat} {zs : List Int} (h : Ints w a n zs) : zs.length = n ∧ n ≤ 9223372036854775807 ∧ ∃ b off, (0 < n → a = some ⟨b, off, none⟩) ∧ ∀ i, i < n → w.cell? ⟨b, off + i, none⟩ = some (.int .i64 (zs.getD i 0)) := by
  obtain ⟨h1, h2, h3⟩ := h
  have hl : zs.length = n := by simpa using h1
  refine ⟨hl, h2, ?_⟩
  by_cases h0 : 0 < n
  · obtain ⟨b, off, rfl, hc⟩ := h3 h0
    refine ⟨b, off, fun _ => rfl, fun i hi => ?_⟩
    rw [hc i hi]
    have : i < zs.length := by omega
    simp [List.getD, this, intZ]
  · exact ⟨0, 0, fun h => absurd h h0, fun i hi => by omega⟩

end Go.Proofs.YtkdomegcacgpnaaGreat

namespace Go.Proofs.YtkdomegcacgpnaaGreat
open Go.RowKit
set_option linter.unusedVariables false
set_option linter.unusedSimpArgs false

theorem attrCells_get : ∀ (l : List (ByteArray × ByteArray)) (i : Nat), i < l.length → (attrCells l)[i * 3]? = some (.string ByteArray.empty) ∧ (attrCells l)[i * 3 + 1]? = some (.string (l.getD i default).1) ∧ (attrCells l)[i * 3 + 2]? = some (.string (l.getD i default).2) := by
  intro l
  induction l with
  | nil => intro i hi; simp at hi
  | cons x l ih =>
    intro i hi
    have hc : attrCells (x :: l) = [.string ByteArray.empty, .string x.1, .string x.2] ++ attrCells l := by simp [attrCells]
    rw [hc]
    cases i with
    | zero => simp
    | succ i =>
      have hi' : i < l.length := by simpa using hi
      obtain ⟨h1, h2, h3⟩ := ih i hi'
      have e : (i + 1) * 3 = 3 + i * 3 := by omega
      rw [e]
      refine ⟨?_, ?_, ?_⟩
      · rw [List.getElem?_append_right (by simp)]; simpa using h1
      · rw [List.getElem?_append_right (by simp; omega)]; simpa [show 3 + i * 3 + 1 - 3 = i * 3 + 1 by omega] using h2
      · rw [List.getElem?_append_right (by simp; omega)]; simpa [show 3 + i * 3 + 2 - 3 = i * 3 + 2 by omega] using h3

/-- The attributes of a node, as a walk wants them. -/
theorem attr_open {w : World} {B : Nat} {v : Value} {l : List (ByteArray × ByteArray)} (h : w.ownsRow B 119 3 v l.length (attrCells l)) :
    ∃ a cap g, v = .slice a l.length cap ∧ l.length ≤ 9223372036854775807 ∧ (0 < l.length → a = some ⟨g, 0, none⟩) ∧ ∀ i, i < l.length → w.cell? ⟨g, i * 3, none⟩ = some (.string ByteArray.empty) ∧ w.cell? ⟨g, i * 3 + 1, none⟩ = some (.string (l.getD i default).1) ∧ w.cell? ⟨g, i * 3 + 2, none⟩ = some (.string (l.getD i default).2) := by
  rcases h.2 with ⟨rfl, h0⟩ | ⟨g, cap, cur, rfl, hb, hg, hn, hm, hcs, ht⟩
  · exact ⟨none, 0, 0, by rw [h0], by omega, fun h => by omega, fun i hi => by omega⟩
  · refine ⟨_, cap, g, rfl, by unfold maxLen at hm; omega, fun _ => rfl, fun i hi => ?_⟩
    have hadd : ∀ j, (⟨g, 0, none⟩ : Addr).add j = ⟨g, j, none⟩ := fun j => by unfold Addr.add; split <;> simp_all
    obtain ⟨h1, h2, h3⟩ := attrCells_get l i hi
    have c1 := h.cells (g := g) rfl _ _ h1
    have c2 := h.cells (g := g) rfl _ _ h2
    have c3 := h.cells (g := g) rfl _ _ h3
    rw [hadd] at c1 c2 c3
    exact ⟨c1, c2, c3⟩

end Go.Proofs.YtkdomegcacgpnaaGreat

namespace Go.Proofs.YtkdomegcacgpnaaGreat
open Go.RowKit

theorem results_cell1 {fn : Func} {p : Tmp} {ty : TypeId} (h : fn.results = #[.cell p ty]) (tmps : Array Value) (P : Program) (w : World) :
    (results fn tmps).run P w = ((asAddr (tmps.getD p undef)).run P w).andThen fun a w₁ => (loadVar ty a).run P w₁ := by
  simp only [results, h]
  simp [Sem.run_bind, Result.andThen]

theorem results_cell3 {fn : Func} {p u v : Tmp} {ty : TypeId} (h : fn.results = #[.cell p ty, .tmp u, .tmp v]) (tmps : Array Value) (P : Program) (w : World) :
    (results fn tmps).run P w = ((asAddr (tmps.getD p undef)).run P w).andThen fun a w₁ => ((loadVar ty a).run P w₁).andThen fun x w₂ => .ok (.tuple #[x, tmps.getD u undef, tmps.getD v undef]) w₂ := by
  simp only [results, h]
  simp [Sem.run_bind, Result.andThen]

theorem results_cell4 {fn : Func} {p u v x : Tmp} {ty : TypeId} (h : fn.results = #[.cell p ty, .tmp u, .tmp v, .tmp x]) (tmps : Array Value) (P : Program) (w : World) :
    (results fn tmps).run P w = ((asAddr (tmps.getD p undef)).run P w).andThen fun a w₁ => ((loadVar ty a).run P w₁).andThen fun y w₂ => .ok (.tuple #[y, tmps.getD u undef, tmps.getD v undef, tmps.getD x undef]) w₂ := by
  simp only [results, h]
  simp [Sem.run_bind, Result.andThen]

end Go.Proofs.YtkdomegcacgpnaaGreat

