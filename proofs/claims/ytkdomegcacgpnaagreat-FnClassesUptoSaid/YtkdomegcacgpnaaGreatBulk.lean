/- What a bound of bulk says of a slice of strings. -/
import Derived.Test.YtkdomegcacgpnaaGreatViewsAll
import Derived.Test.YtkdomegcacgpnaaGreatRows
namespace Go.Proofs.YtkdomegcacgpnaaGreat
open Go.RowKit Go.ChangeShapes Go.WideShapes
set_option linter.unusedVariables false
set_option linter.unusedSimpArgs false

theorem bulk_strs {H : Type} : ∀ (L : List ByteArray), L.length ≤ Rows.uptoBulkAll (H := H) (L.map fun s => .lit (.string s.data.toList)) ∧ ∀ s ∈ L, s.size ≤ Rows.uptoBulkAll (H := H) (L.map fun s => .lit (.string s.data.toList))
  | [] => ⟨Nat.zero_le _, fun s hs => by simp at hs⟩
  | x :: L => by
    obtain ⟨h1, h2⟩ := bulk_strs (H := H) L
    have e : Rows.uptoBulkAll (H := H) ((x :: L).map fun s => .lit (.string s.data.toList)) = (x.size + 1) + Rows.uptoBulkAll (H := H) (L.map fun s => .lit (.string s.data.toList)) := by
      simp [Rows.uptoBulkAll, Rows.uptoBulk]
    rw [e]
    refine ⟨by simp only [List.length_cons]; omega, fun s hs => ?_⟩
    rcases List.mem_cons.1 hs with rfl | hs
    · omega
    · have := h2 s hs; omega

/-- A slice of strings among the arguments, with its capacity and its bulk. -/
theorem strs3_of {H : Type} {enc : TypeId × Value → H} {W : World} {a : Option Addr} {len cap : Nat} {d : DataW H} {p : List MemPlace} (h : DataW.Trod enc Tryz.prog W 0 (fun _ => true) true 24 (.slice a len cap) d p) :
    ∃ ss : List ByteArray, (Strs W a len ss ∧ (∀ s ∈ ss, s.size ≤ maxLen) ∧ len ≤ cap ∧ cap ≤ maxLen) ∧ ∀ B, Rows.uptoBulk d ≤ B → ss.length ≤ B ∧ ∀ s ∈ ss, s.size ≤ B := by
  obtain ⟨fuel, hf⟩ := h
  rcases open_strings Tryz.underlying24 Tryz.underlying9 (by kernel_rfl) hf with ⟨hcs, hd⟩ | ⟨x, l, c, ss, hcs, _, hl, hm, hz, hd, hcell, hws⟩
  · simp [Value.cells] at hcs
    obtain ⟨rfl, rfl, rfl⟩ := hcs
    exact ⟨[], ⟨row_nil _, by simp, Nat.le_refl _, Nat.zero_le _⟩, fun B _ => ⟨Nat.zero_le _, fun s hs => by simp at hs⟩⟩
  · simp [Value.cells] at hcs
    obtain ⟨rfl, rfl, rfl⟩ := hcs
    have hz' : ss.length = cap := by simpa using hz
    refine ⟨ss.take len, ⟨row_of_cells _ (by simp; omega) (by omega) (fun i hi => ?_), fun s hs => hws s (List.mem_of_mem_take hs), hl, hm⟩, fun B hB => ?_⟩
    · rw [hcell i (by omega)]
      have hi' : i < ss.length := by omega
      simp [List.getD, hi, hi', List.getElem?_take]
    · simp only [Prod.mk.injEq] at hd
      rw [hd.1] at hB
      simp only [Rows.uptoBulk] at hB
      obtain ⟨h1, h2⟩ := bulk_strs (H := H) (ss.take len)
      have hB' : Rows.uptoBulkAll (H := H) ((ss.take len).map fun s => .lit (.string s.data.toList)) + 1 ≤ B := by
        unfold strs at hB
        omega
      exact ⟨by omega, fun s hs => by have := h2 s hs; omega⟩

end Go.Proofs.YtkdomegcacgpnaaGreat
