/- Attributes as data, of the call's own. -/
import Derived.Test.YtoleejaabiafcaaAttrPure
import Derived.Test.YtoleejaabiafcaaNodes
import Derived.Test.YtoleejaabiafcaaSegAll
import Derived.Deep.AppendLies
namespace Go.Proofs.Ytoleejaabiafcaa
open Go.RowKit
set_option linter.unusedVariables false
set_option linter.unusedSimpArgs false

theorem Try.infoKV : (Try.prog.info? 86).map (fun i => (i.zero, i.size, i.bytes)) = some (some (.agg #[.string ByteArray.empty, .string ByteArray.empty]), 2, 32) := by kernel_rfl

/-- The cells of attributes as data. -/
def kvCells (l : KVs) : List Value := l.flatMap fun x => [.string x.1, .string x.2]
theorem kvCells_snoc (l : KVs) (x : ByteArray × ByteArray) : kvCells (l ++ [x]) = kvCells l ++ [.string x.1, .string x.2] := by simp [kvCells]

/-- Attributes as data, of the call's own. -/
def OwnKV (w : World) (B : Nat) (v : Value) (l : KVs) : Prop := w.ownsRow B 86 2 v l.length (kvCells l)

theorem kvCells_get : ∀ (l : KVs) (i : Nat), i < l.length → (kvCells l)[i * 2]? = some (.string (l.getD i default).1) ∧ (kvCells l)[i * 2 + 1]? = some (.string (l.getD i default).2) := by
  intro l
  induction l with
  | nil => intro i hi; simp at hi
  | cons x l ih =>
    intro i hi
    have hc : kvCells (x :: l) = [.string x.1, .string x.2] ++ kvCells l := by simp [kvCells]
    rw [hc]
    cases i with
    | zero => simp
    | succ i =>
      have hi' : i < l.length := by simpa using hi
      obtain ⟨h1, h2⟩ := ih i hi'
      rw [show (i + 1) * 2 = 2 + i * 2 by omega]
      refine ⟨?_, ?_⟩
      · rw [List.getElem?_append_right (by simp)]; simpa using h1
      · rw [List.getElem?_append_right (by simp; omega)]; simpa [show 2 + i * 2 + 1 - 2 = i * 2 + 1 by omega] using h2

theorem OwnKV.at_ {w : World} {B : Nat} {v : Value} {l : KVs} (h : OwnKV w B v l) (hs : ∀ x ∈ l, x.1.size ≤ maxLen ∧ x.2.size ≤ maxLen) : ∃ a cap, v = .slice a l.length cap ∧ AttrsAt w a l.length l := by
  rcases h.2 with ⟨rfl, h0⟩ | ⟨g, cap, cur, rfl, hb, hg, hn, hm, hcs, ht⟩
  · exact ⟨none, 0, by rw [h0], rfl, by rw [h0]; exact Nat.zero_le _, hs, fun h => by omega⟩
  · refine ⟨_, cap, rfl, rfl, by omega, hs, fun hl => ⟨g, 0, rfl, fun i hi => ?_⟩⟩
    have hadd : ∀ j, (⟨g, 0, none⟩ : Addr).add j = ⟨g, 0 + j, none⟩ := fun j => by unfold Addr.add; split <;> simp_all
    obtain ⟨h1, h2⟩ := kvCells_get l i hi
    have c1 := World.ownsRow.cells (h := h) (g := g) rfl _ _ h1
    have c2 := World.ownsRow.cells (h := h) (g := g) rfl _ _ h2
    rw [hadd] at c1 c2
    exact ⟨c1, by rw [Nat.add_assoc]; exact c2⟩

theorem OwnKV.below {w w' : World} {B : Nat} {v : Value} {l : KVs} (h : OwnKV w B v l) (hb : Below w.heap.size w w') : OwnKV w' B v l := ownsRow_kept h (fun k hk => hb.block k (World.ownsRow.lt h k hk).2)

theorem ownsRow_slice {w : World} {B : Nat} {e : TypeId} {size : Nat} {v : Value} {n : Nat} {xs : List Value} (h : w.ownsRow B e size v n xs) : ∃ a c, v = .slice a n c := by
  rcases h.2 with ⟨rfl, rfl⟩ | ⟨g, cap, cur, rfl, _⟩
  · exact ⟨_, _, rfl⟩
  · exact ⟨_, _, rfl⟩

end Go.Proofs.Ytoleejaabiafcaa
