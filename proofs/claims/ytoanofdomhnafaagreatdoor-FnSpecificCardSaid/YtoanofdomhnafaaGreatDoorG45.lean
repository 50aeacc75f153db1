/- Parts of a proof: ViewSels. -/
import Derived.Test.YtoanofdomhnafaaGreatDoorG44
import Derived.Test.YtoanofdomhnafaaGreatDoorG03
import Derived.Deep.SlicePairs
import Derived.Deep.Grids
import Derived.ChangeArms
import Derived.ChangeSlices
set_option linter.unusedVariables false
set_option linter.unusedSimpArgs false
namespace Go.Proofs.YtoanofdomhnafaaGreatDoor
open Go.RowKit Go.ChangeShapes Go.WideShapes Go.Deep
section
variable {H : Type} {enc : TypeId × Value → H} {W : World}
theorem wf_rangeS {n : Int} (h : (Lit.int .i64 n).wf = true) : -9223372036854775808 ≤ n ∧ n ≤ 9223372036854775807 := by
  simp [Lit.wf, IntKind.min, IntKind.max, IntKind.bits, IntKind.signed] at h
  omega
set_option maxRecDepth 100000 in
theorem sels_of {a : Option Addr} {len cap : Nat} {d : DataW H} {p : List MemPlace} (h : DataW.Trod enc Tryz.prog W 0 (fun _ => true) true 22 (.slice a len cap) d p) :
    ∃ l, Sels W a len l ∧ len ≤ cap ∧ cap ≤ maxLen := by
  obtain ⟨fuel, hf⟩ := h
  rcases open_slice Tryz.underlying22 hf with ⟨he, _⟩ | ⟨x, l, c, m, n, D, Pl, he, _, hl, hm, hmm, _, hx⟩
  · simp [Value.cells] at he
    obtain ⟨rfl, rfl, rfl⟩ := he
    exact ⟨[], ⟨rfl, Nat.zero_le _, fun h => absurd h (Nat.lt_irrefl 0)⟩, Nat.le_refl _, Nat.zero_le _⟩
  · simp [Value.cells] at he
    obtain ⟨rfl, rfl, rfl⟩ := he
    have hmm' : m = cap := by simpa using hmm
    have hce : Program.cellsOf Tryz.prog 25 = 8 := by kernel_rfl
    have hspot0 : ∀ i, i < m → x.spot = none := fun i hi => by
      obtain ⟨cs', h1, h2⟩ := hx 0 (by omega)
      rw [hce] at h1
      obtain ⟨_, hlen, hcell⟩ := World.cells?_some h1
      have h0 := hcell 0 (by omega)
      match cs', hlen with
      | [v0, v1, v2, v3, v4, v5, v6, v7], _ =>
        simp at h0
        have := World.cell?_spot h0
        simpa [Addr.add] using this
    have each : ∀ i, i < m → ∃ nd : SelD, SelCells W x.block (x.off + i * 8) nd := fun i hi => by
      have hsp := hspot0 i hi
      obtain ⟨cs', h1, h2⟩ := hx i hi
      rw [hce] at h1
      obtain ⟨_, hlen, hcell⟩ := World.cells?_some h1
      obtain ⟨xs, k, _, _, _, hxl, hf5⟩ := DataW.trod_struct Tryz.underlying25 h2
      have ca : ∀ j, (x.add (i * 8)).add j = ⟨x.block, x.off + i * 8 + j, none⟩ := fun j => by
        rw [Go.Deep.add_add]
        obtain ⟨b, off, spot⟩ := x
        simp only at hsp
        subst hsp
        have hadd : ∀ j, (⟨b, off, none⟩ : Addr).add j = ⟨b, off + j, none⟩ := fun j => by unfold Addr.add; split <;> simp_all
        rw [hadd, Nat.add_assoc]
      match xs, hxl, cs', hlen with
      | [y0, y1, y2, y3, y4, y5, y6, y7], _, [v0, v1, v2, v3, v4, v5, v6, v7], _ =>
        have g0 := hf5 0 _ rfl
        have g1 := hf5 1 _ rfl
        have g2 := hf5 2 _ rfl
        have g3 := hf5 3 _ rfl
        have g4 := hf5 4 _ rfl
        have g5 := hf5 5 _ rfl
        have g6 := hf5 6 _ rfl
        have g7 := hf5 7 _ rfl
        have n1 : Program.cellsOf Tryz.prog 3 = 1 := by kernel_rfl
        have n2 : Program.cellsOf Tryz.prog 9 = 1 := by kernel_rfl
        simp only [n1, n2, List.drop, List.take, List.getElem?_cons_zero, List.getElem?_cons_succ] at g0 g1 g2 g3 g4 g5 g6 g7
        obtain ⟨k0, e0, _, w0⟩ := DataW.trod_int Tryz.underlying3 g0
        obtain ⟨k1, e1, _, w1⟩ := DataW.trod_int Tryz.underlying3 g1
        obtain ⟨k2, e2, _, w2⟩ := DataW.trod_string Tryz.underlying9 g2
        obtain ⟨k3, e3, _, w3⟩ := DataW.trod_string Tryz.underlying9 g3
        obtain ⟨k4, e4, _, w4⟩ := DataW.trod_int Tryz.underlying3 g4
        obtain ⟨k5, e5, _, w5⟩ := DataW.trod_int Tryz.underlying3 g5
        obtain ⟨k6, e6, _, w6⟩ := DataW.trod_int Tryz.underlying3 g6
        obtain ⟨k7, e7, _, w7⟩ := DataW.trod_int Tryz.underlying3 g7
        simp [n1, n2] at e0 e1 e2 e3 e4 e5 e6 e7
        subst e0 e1 e2 e3 e4 e5 e6 e7
        have c0 := hcell 0 (by omega)
        have c1 := hcell 1 (by omega)
        have c2 := hcell 2 (by omega)
        have c3 := hcell 3 (by omega)
        have c4 := hcell 4 (by omega)
        have c5 := hcell 5 (by omega)
        have c6 := hcell 6 (by omega)
        have c7 := hcell 7 (by omega)
        rw [ca 0] at c0
        rw [ca 1] at c1
        rw [ca 2] at c2
        rw [ca 3] at c3
        rw [ca 4] at c4
        rw [ca 5] at c5
        rw [ca 6] at c6
        rw [ca 7] at c7
        exact ⟨⟨k0, k1, k2, k3, k4, k5, k6, k7⟩, by simpa using c0, c1, c2, c3, c4, c5, c6, c7, wf_rangeS w0, wf_rangeS w1, w2, w3, wf_rangeS w4, wf_rangeS w5, wf_rangeS w6, wf_rangeS w7⟩
    obtain ⟨q, hq⟩ := choose_lt each
    have hget : ∀ i, i < len → ((List.range len).map q).getD i default = q i := fun i hi => by simp [List.getD, hi]
    refine ⟨(List.range len).map q, ⟨by simp, by omega, fun h0 => ?_⟩, hl, hm⟩
    have hsp := hspot0 0 (by omega)
    obtain ⟨b, off, spot⟩ := x
    simp only at hsp
    subst hsp
    exact ⟨b, off, rfl, fun i hi => by rw [hget i hi]; exact hq i (by omega)⟩
end
end Go.Proofs.YtoanofdomhnafaaGreatDoor
