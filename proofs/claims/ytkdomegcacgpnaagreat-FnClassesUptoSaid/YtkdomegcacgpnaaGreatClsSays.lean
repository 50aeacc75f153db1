/- What steps of classes say, in plain words. -/
import Derived.Test.YtkdomegcacgpnaaGreatChangedC
import Derived.Test.YtkdomegcacgpnaaGreatStepClsAll
import Derived.Test.YtkdomegcacgpnaaGreatAlikeC
import Derived.Test.YtkdomegcacgpnaaGreatWordAll
import Derived.Test.YtkdomegcacgpnaaGreatUnderAll
namespace Go.Proofs.YtkdomegcacgpnaaGreat
open Go.RowKit
set_option linter.unusedVariables false
set_option linter.unusedSimpArgs false

theorem inW_mem {ws : List ByteArray} {x : ByteArray} : ∀ {k : Nat}, inW ws x k = false → ∀ j, j < k → (ws.getD j ByteArray.empty).toList ≠ x.toList
  | 0, _, _, h => absurd h (Nat.not_lt_zero _)
  | k + 1, h, j, hj => by
    simp only [inW, Bool.or_eq_false_iff] at h
    by_cases e : j = k
    · subst e; simpa using h.2
    · exact inW_mem h.1 j (by omega)

theorem goodC_start {l : KVs} {s : Nat} (hd : DistKV l) (hl : l.length ≤ 20) (hz : ∀ x ∈ l, x.1.size ≤ 200 ∧ x.2.size ≤ s) (hs : SimpleC (ClsVal l)) : GoodC l (Wc l) 20 s := by
  obtain ⟨s1, s2⟩ := hs rfl
  refine ⟨hd, rfl, ?_, fun b hb => ?_, hl, hz⟩
  · unfold Wc
    rw [← wordsF_wl]
    unfold List.Nodup
    rw [List.pairwise_iff_getElem]
    intro i j hi hj hij
    rw [List.length_map] at hi hj
    rw [List.getElem_map, List.getElem_map]
    have := inW_mem (s2 j hj) i hij
    rw [List.getD_eq_getElem?_getD, List.getD_eq_getElem?_getD, List.getElem?_eq_getElem hi, List.getElem?_eq_getElem hj, ByteArray.toList_eq, ByteArray.toList_eq] at this
    exact this
  · rw [Array.mem_toList_iff] at hb
    obtain ⟨j, hj, e⟩ := Array.getElem_of_mem hb
    have := s1 j hj
    rw [← e]
    exact ⟨this.2.2, this.2.1, this.1⟩

theorem tog_tog {W N : Wds} {w : List UInt8} : w ∈ togW (togW W N) N ↔ w ∈ W := by
  by_cases h : w ∈ N
  · have h1 : ∀ V : Wds, w ∈ togW V N ↔ w ∉ V := fun V => by
      unfold togW lessW
      simp [h]
    rw [h1, h1]
    simp
  · rw [tog_mem h, tog_mem h]

theorem opsF_tog {N W : Wds} {w : List UInt8} : w ∈ opsF [16, 16] N W ↔ w ∈ W := by
  have e : opsF [16, 16] N W = togW (togW W N) N := rfl
  rw [e, tog_tog]

theorem opsF_add {N W : Wds} {w : List UInt8} (h : w ∈ N) : w ∈ opsF [14] N W := by
  have e : opsF [14] N W = moreW W N := rfl
  rw [e]
  exact mem_more.2 (.inr h)

theorem opsF_gone {N W : Wds} {w : List UInt8} (h : w ∈ N) : w ∉ opsF [14, 15] N W := by
  have e : opsF [14, 15] N W = lessW (moreW W N) N := rfl
  rw [e]
  unfold lessW
  simp [h]

theorem half_of {l l2 : KVs} (hd : DistKV l) (hn : ∀ x ∈ l, x.1.toList ≠ clsK.toList → lookKV l2 x.1 = some x.2) (hz : ∀ x ∈ l, x.2.size ≤ 8000000000000) (hz2 : ∀ x ∈ l2, x.2.size ≤ 8000000000000) (hw : ∀ u ∈ Wc l, u ∈ Wc l2) : HalfC l l2 := by
  have hcls : clsK.toList = [99, 108, 97, 115, 115] := by rw [ByteArray.toList_eq]; rfl
  refine ⟨fun x hx he => hn x hx (by rw [hcls]; simpa using he), fun x hx he => ⟨hz x hx, clsVal_le hz2, fun j hj => ?_⟩⟩
  have h1 : lookKV l clsK = some x.2 := by
    rw [← look_mem hd hx]
    exact look_key (by rw [hcls]; exact (eq_of_beq he).symm)
  have h2 := val_mem h1
  rw [inW_all, decide_eq_true_iff, wordsF_wl]
  refine hw _ ?_
  unfold Wc
  rw [h2, ← wordsF_wl]
  refine List.mem_map_of_mem ?_
  rw [List.getD_eq_getElem?_getD, List.getElem?_eq_getElem hj]
  exact List.getElem_mem _

/-- Attributes behind a step that leaves the words as they were. -/
theorem half_back {l A : KVs} {m s : Nat} {V : Wds} (hd : DistKV l) (hz : ∀ x ∈ l, x.2.size ≤ 8000000000000) (hs : s ≤ 8000000000000) (hg : GoodC A V m s) (hn : NearC l A) (hw : ∀ u, u ∈ V ↔ u ∈ Wc l) : HalfC A l ∧ HalfC l A := by
  have hzA : ∀ x ∈ A, x.2.size ≤ 8000000000000 := fun x hx => Nat.le_trans (hg.size x hx).2 hs
  have e : Wc A = V := hg.words
  refine ⟨half_of hg.dist hn.2 hzA hz (fun u hu => (hw u).1 (by rw [← e]; exact hu)), half_of hd hn.1 hz hzA (fun u hu => by rw [e]; exact (hw u).2 hu)⟩

theorem half_same {l : KVs} (hd : DistKV l) (hz : ∀ x ∈ l, x.2.size ≤ 8000000000000) : HalfC l l := half_of hd (fun x hx _ => look_mem hd hx) hz hz (fun u hu => hu)

/-- A tree's own order. -/
theorem wd0_order {z : Nat → Nat} {n : Nat} (hz : Nest z n) (h0 : 0 < n) (hr : z 0 = n) {C : List (Nat × Nat)} (hC : Fs (wd0 z n).kids [0] C) : C.length = n ∧ ∀ i, i < n → C.getD i default = (i, z i) := by
  have h1 := hC.fl.det (wd0_root hz h0 hr)
  have hl : C.length = n := by
    have := congrArg List.length h1
    simpa using this
  refine ⟨hl, fun i hi => ?_⟩
  have hiC : i < C.length := by omega
  have b1 : (C.getD i default).1 = i := by
    have h2 : (C.map (·.1)).getD i 0 = i := by
      rw [h1, List.getD_eq_getElem?_getD, List.getElem?_range' hi]
      simp
    simpa [List.getD_eq_getElem?_getD, List.getElem?_eq_getElem hiC] using h2
  obtain ⟨A, c1, c2, _, _⟩ := hC.underAt i hiC
  rw [b1] at c1
  have e2 := (wd0_flat hz (z i) i hi (Nat.le_refl _)).fs_len c1
  have : A.length + 1 = z i := by
    have := congrArg List.length e2
    simp at this
    omega
  exact Prod.ext b1 (c2.trans this)

theorem strs_cells {w : World} {a : Option Addr} {n : Nat} {ss : List ByteArray} (h : Strs w a n ss) : StrCells w a n ss := by
  obtain ⟨h1, h2, h3⟩ := h
  refine ⟨h2, fun h0 => ?_⟩
  obtain ⟨b, off, rfl, hc⟩ := h3 h0
  refine ⟨b, off, rfl, fun i hi => ?_⟩
  have := hc i hi
  rw [List.length_map] at h1
  rw [List.getD_eq_getElem?_getD, List.getElem?_map, List.getElem?_eq_getElem (by omega)] at this
  rw [this, List.getD_eq_getElem?_getD, List.getElem?_eq_getElem (by omega)]
  rfl

theorem names_at {w : World} {a : Option Addr} {xs : List ByteArray} {c : Nat} (h : StrCells w a xs.length xs) (hc : xs.length ≤ c) (hs : NamesSure xs) (hp : 0 < xs.length) (hn : xs.length ≤ 1048576) (hz : ∀ x ∈ xs, x.size ≤ 1048576) : NamesAt w a xs c :=
  ⟨h, hc, fun x hx => by
    obtain ⟨j, hj, rfl⟩ := List.getElem_of_mem hx
    have h1 := hs.1 j hj
    rw [List.getD_eq_getElem?_getD, List.getElem?_eq_getElem hj] at h1
    exact name_ok h1 (hz _ (List.getElem_mem _)), hs.2, hp, hn⟩

/-- The nodes of the reference's domain are good. -/
theorem sure_good {W : World} {a : Option Addr} {len : Nat} {ts : List NodeD} {zs : List Int} {xs : List ByteArray} {l : List Nat} (h : SureC ts len zs xs l) (hN : Nodes W a len ts) : ∀ x ∈ l, GoodC (ts.getD x default).attrs (Wc (ts.getD x default).attrs) 20 4000 := fun x hx => by
  have hl := h.picks.lt x hx
  have hf := fit_of h.right hN x hl
  have hn := h.right.node x hl
  have hk := h.el x hx
  refine goodC_start hf.dist (hn.attrs hk).1 (fun y hy => ⟨?_, hf.vals y hy⟩) (h.simp_ x hx)
  obtain ⟨j, hj, rfl⟩ := List.getElem_of_mem hy
  have := hn.keys hk j hj
  rw [List.getD_eq_getElem?_getD, List.getElem?_eq_getElem hj] at this
  have h2 : (ts.getD x default).attrs[j].1.size ≤ 40 := this
  omega

end Go.Proofs.YtkdomegcacgpnaaGreat
