/- Slices of strings, of integers, of bools among the arguments, as views. Trees among the arguments, as views. -/
import Derived.Test.YtkdomegcacgpnaaGreatBaseAll
import Derived.OpenShut
import Derived.ShutString
import Derived.ChangeOld
import Derived.Below
import Derived.Test.YtkdomegcacgpnaaGreatIntsAll
import Derived.Deep.SlicePairs
import Derived.Deep.Grids
import Derived.ChangeArms
import Derived.ChangeSlices
namespace Go.Proofs.YtkdomegcacgpnaaGreat
open Go.RowKit Go.ChangeShapes Go.WideShapes
set_option linter.unusedVariables false
set_option linter.unusedSimpArgs false

theorem Tryz.own : ownKnob Tryz.prog.godebug = none := by kernel_rfl
theorem Tryz.laidOut : laidOutB Tryz.prog = true := by kernel_rfl

theorem row_of_cells {w : World} {x : Addr} {len : Nat} (vs : List Value) (hl : vs.length = len) (hm : len ≤ maxLen) (hc : ∀ i, i < len → w.cell? (x.add i) = some (vs.getD i undef)) : Row w (some x) len vs := by
  refine ⟨hl, hm, fun h0 => ?_⟩
  obtain ⟨b, off, spot⟩ := x
  have h := hc 0 h0
  have hspot : spot = none := by simpa [Addr.add] using World.cell?_spot h
  subst hspot
  refine ⟨b, off, rfl, fun i hi => ?_⟩
  have := hc i hi
  by_cases h0 : i = 0
  · subst h0; simpa [Addr.add] using this
  · simpa [Addr.add, h0] using this

theorem row_nil (w : World) : Row w none 0 [] := ⟨rfl, Nat.zero_le _, fun h => absurd h (Nat.lt_irrefl 0)⟩

section
variable {H : Type} {enc : TypeId × Value → H} {W : World}

theorem strs_of {a : Option Addr} {len cap : Nat} {d : DataW H} {p : List MemPlace} (h : DataW.Trod enc Tryz.prog W 0 (fun _ => true) true 24 (.slice a len cap) d p) :
    ∃ ss : List ByteArray, Strs W a len ss ∧ ∀ s ∈ ss, s.size ≤ maxLen := by
  obtain ⟨fuel, hf⟩ := h
  rcases open_strings Tryz.underlying24 Tryz.underlying9 (by kernel_rfl) hf with ⟨hcs, _⟩ | ⟨x, l, c, ss, hcs, _, hl, hm, hz, _, hcell, hws⟩
  · simp [Value.cells] at hcs
    obtain ⟨rfl, rfl, rfl⟩ := hcs
    exact ⟨[], row_nil _, by simp⟩
  · simp [Value.cells] at hcs
    obtain ⟨rfl, rfl, rfl⟩ := hcs
    have hz' : ss.length = cap := by simpa using hz
    refine ⟨ss.take len, row_of_cells _ (by simp; omega) (by omega) (fun i hi => ?_), fun s hs => hws s (List.mem_of_mem_take hs)⟩
    rw [hcell i (by omega)]
    have hi' : i < ss.length := by omega
    simp [List.getD, hi, hi', List.getElem?_take]

end
end Go.Proofs.YtkdomegcacgpnaaGreat

namespace Go.Proofs.YtkdomegcacgpnaaGreat
open Go.RowKit Go.ChangeShapes Go.WideShapes Go.Deep
set_option linter.unusedVariables false
set_option linter.unusedSimpArgs false

section
variable {H : Type} {enc : TypeId × Value → H} {W : World}

theorem ints_of {a : Option Addr} {len cap : Nat} {d : DataW H} {p : List MemPlace} (h : DataW.Trod enc Tryz.prog W 0 (fun _ => true) true 23 (.slice a len cap) d p) :
    ∃ zs : List Int, Ints W a len zs ∧ len ≤ cap ∧ cap ≤ maxLen := by
  obtain ⟨fuel, hf⟩ := h
  rcases open_ints Tryz.underlying23 Tryz.underlying3 (by kernel_rfl) hf with ⟨hcs, _⟩ | ⟨x, l, c, zs, hcs, _, hl, hm, hz, _, hcell, hws⟩
  · simp [Value.cells] at hcs
    obtain ⟨rfl, rfl, rfl⟩ := hcs
    exact ⟨[], row_nil _, Nat.le_refl _, Nat.zero_le _⟩
  · simp [Value.cells] at hcs
    obtain ⟨rfl, rfl, rfl⟩ := hcs
    have hz' : zs.length = cap := by simpa using hz
    refine ⟨zs.take len, row_of_cells _ (by simp; omega) (by omega) (fun i hi => ?_), hl, hm⟩
    rw [hcell i (by omega)]
    have hi' : i < zs.length := by omega
    simp [List.getD, hi, hi', List.getElem?_take, intZ]

theorem wf_range {n : Int} (h : (Lit.int .i64 n).wf = true) : -9223372036854775808 ≤ n ∧ n ≤ 9223372036854775807 := by
  simp [Lit.wf, IntKind.min, IntKind.max, IntKind.bits, IntKind.signed] at h
  omega


/-- Attributes: the cell of their slice, as a view. -/
theorem attrs_in {fuel : Nat} {cs : List Value} {x : DataW H × List MemPlace} (h : DataW.trod enc Tryz.prog W 0 (fun _ => true) true fuel 36 cs = some x) :
    ∃ a len cap l, cs = [.slice a len cap] ∧ AttrsAt W a len l ∧ len ≤ cap ∧ cap ≤ maxLen := by
  rcases open_slice_pairs Tryz.underlying36 Tryz.underlying61 (by kernel_rfl) rfl rfl (by kernel_rfl) (by kernel_rfl) h with ⟨rfl, _⟩ | ⟨x, len, cap, m, n, V0, V1, D0, D1, P0, P1, rfl, _, hl, hm, hmm, _, hx⟩
  · exact ⟨none, 0, 0, [], rfl, ⟨rfl, Nat.zero_le _, by simp, fun h => absurd h (Nat.lt_irrefl 0)⟩, Nat.le_refl _, Nat.zero_le _⟩
  · have hmm' : m = cap := by simpa using hmm
    have hs : ∀ i, i < m → ∃ q : ByteArray × ByteArray, V0 i = .string q.1 ∧ V1 i = .string q.2 ∧ q.1.size ≤ maxLen ∧ q.2.size ≤ maxLen := fun i hi => by
      obtain ⟨_, _, t0, t1⟩ := hx i hi
      obtain ⟨s0, h0, _, z0⟩ := DataW.trod_string Tryz.underlying9 t0
      obtain ⟨s1, h1, _, z1⟩ := DataW.trod_string Tryz.underlying9 t1
      simp at h0 h1
      exact ⟨(s0, s1), h0, h1, z0, z1⟩
    obtain ⟨q, hq⟩ := choose_lt hs
    have hget : ∀ i, i < len → ((List.range len).map q).getD i default = q i := fun i hi => by simp [List.getD, hi]
    refine ⟨some x, len, cap, (List.range len).map q, rfl, ⟨by simp, by omega, fun y hy => ?_, fun h0 => ?_⟩, hl, hm⟩
    · simp at hy
      obtain ⟨i, hi, rfl⟩ := hy
      exact (hq i (by omega)).2.2
    · obtain ⟨b, off, spot⟩ := x
      have c0 := (hx 0 (by omega)).1
      have hspot : spot = none := by simpa [Addr.add] using World.cell?_spot c0
      subst hspot
      have hadd : ∀ j, (⟨b, off, none⟩ : Addr).add j = ⟨b, off + j, none⟩ := fun j => by unfold Addr.add; split <;> simp_all
      refine ⟨b, off, rfl, fun i hi => ?_⟩
      obtain ⟨e0, e1, _, _⟩ := hx i (by omega)
      rw [hadd] at e0 e1
      rw [hget i hi, ← (hq i (by omega)).1, ← (hq i (by omega)).2.1]
      exact ⟨e0, by rw [Nat.add_assoc]; exact e1⟩

theorem attrs_of {a : Option Addr} {len cap : Nat} {d : DataW H} {p : List MemPlace} (h : DataW.Trod enc Tryz.prog W 0 (fun _ => true) true 36 (.slice a len cap) d p) :
    ∃ l, AttrsAt W a len l ∧ len ≤ cap ∧ cap ≤ maxLen := by
  obtain ⟨fuel, hf⟩ := h
  obtain ⟨a', len', cap', l, he, r⟩ := attrs_in hf
  simp [Value.cells] at he
  obtain ⟨rfl, rfl, rfl⟩ := he
  exact ⟨l, r⟩

set_option maxRecDepth 100000 in
theorem nodes_of {a : Option Addr} {len cap : Nat} {d : DataW H} {p : List MemPlace} (h : DataW.Trod enc Tryz.prog W 0 (fun _ => true) true 22 (.slice a len cap) d p) :
    ∃ ts, Nodes W a len ts ∧ len ≤ cap ∧ cap ≤ maxLen := by
  obtain ⟨fuel, hf⟩ := h
  rcases open_slice Tryz.underlying22 hf with ⟨he, _⟩ | ⟨x, l, c, m, n, D, Pl, he, _, hl, hm, hmm, _, hx⟩
  · simp [Value.cells] at he
    obtain ⟨rfl, rfl, rfl⟩ := he
    exact ⟨[], ⟨rfl, Nat.zero_le _, fun h => absurd h (Nat.lt_irrefl 0)⟩, Nat.le_refl _, Nat.zero_le _⟩
  · simp [Value.cells] at he
    obtain ⟨rfl, rfl, rfl⟩ := he
    have hmm' : m = cap := by simpa using hmm
    have hce : Program.cellsOf Tryz.prog 38 = 5 := by kernel_rfl
    have hspot0 : ∀ i, i < m → x.spot = none := fun i hi => by
      obtain ⟨cs', h1, h2⟩ := hx 0 (by omega)
      rw [hce] at h1
      obtain ⟨_, hlen, hcell⟩ := World.cells?_some h1
      have h0 := hcell 0 (by omega)
      match cs', hlen with
      | [v0, v1, v2, v3, v4], _ =>
        simp at h0
        have := World.cell?_spot h0
        simpa [Addr.add] using this
    have each : ∀ i, i < m → ∃ nd : NodeD, NodeCells W x.block (x.off + i * 5) nd := fun i hi => by
      have hsp := hspot0 i hi
      obtain ⟨cs', h1, h2⟩ := hx i hi
      rw [hce] at h1
      obtain ⟨_, hlen, hcell⟩ := World.cells?_some h1
      obtain ⟨xs, k, _, _, _, hxl, hf5⟩ := DataW.trod_struct Tryz.underlying38 h2
      have ca : ∀ j, (x.add (i * 5)).add j = ⟨x.block, x.off + i * 5 + j, none⟩ := fun j => by
        rw [Go.Deep.add_add]
        obtain ⟨b, off, spot⟩ := x
        simp only at hsp
        subst hsp
        have hadd : ∀ j, (⟨b, off, none⟩ : Addr).add j = ⟨b, off + j, none⟩ := fun j => by unfold Addr.add; split <;> simp_all
        rw [hadd, Nat.add_assoc]
      match xs, hxl, cs', hlen with
      | [y0, y1, y2, y3, y4], _, [v0, v1, v2, v3, v4], _ =>
        have g0 := hf5 0 _ rfl
        have g1 := hf5 1 _ rfl
        have g2 := hf5 2 _ rfl
        have g3 := hf5 3 _ rfl
        have g4 := hf5 4 _ rfl
        have n1 : Program.cellsOf Tryz.prog 3 = 1 := by kernel_rfl
        have n2 : Program.cellsOf Tryz.prog 9 = 1 := by kernel_rfl
        have n3 : Program.cellsOf Tryz.prog 36 = 1 := by kernel_rfl
        simp only [n1, n2, n3, List.drop, List.take, List.getElem?_cons_zero, List.getElem?_cons_succ] at g0 g1 g2 g3 g4
        obtain ⟨k0, e0, _, w0⟩ := DataW.trod_int Tryz.underlying3 g0
        obtain ⟨s1, e1, _, z1⟩ := DataW.trod_string Tryz.underlying9 g1
        obtain ⟨s2, e2, _, z2⟩ := DataW.trod_string Tryz.underlying9 g2
        obtain ⟨aa, al, ac, l, e3, hat, _, _⟩ := attrs_in g3
        obtain ⟨k4, e4, _, w4⟩ := DataW.trod_int Tryz.underlying3 g4
        simp [n1, n2, n3] at e0 e1 e2 e3 e4
        subst e0 e1 e2 e3 e4
        have c0 := hcell 0 (by omega)
        have c1 := hcell 1 (by omega)
        have c2 := hcell 2 (by omega)
        have c3 := hcell 3 (by omega)
        have c4 := hcell 4 (by omega)
        rw [ca] at c0 c1 c2 c3 c4
        have q0 := wf_range w0
        have q4 := wf_range w4
        exact ⟨⟨k0, s1, s2, aa, al, ac, l, k4⟩, c0, c1, c2, c3, c4, hat, q0, q4, z1, z2⟩
    obtain ⟨f, hf'⟩ := choose_lt each
    refine ⟨(List.range len).map f, ⟨by simp, by omega, fun h0 => ⟨x.block, x.off, ?_, fun i hi => ?_⟩⟩, hl, hm⟩
    · have hsp := hspot0 0 (by omega)
      obtain ⟨b, off, spot⟩ := x
      simp only at hsp
      subst hsp
      rfl
    · have : ((List.range len).map f).getD i default = f i := by simp [List.getD, hi]
      rw [this]
      exact hf' i (by omega)

end
end Go.Proofs.YtkdomegcacgpnaaGreat

