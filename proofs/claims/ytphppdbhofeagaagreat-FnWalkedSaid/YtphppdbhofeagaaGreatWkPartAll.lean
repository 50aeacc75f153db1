/- spec.parted. spec.Related at every step, any pick. (Printed by gen_wkreltop.py.) -/
import Derived.Test.YtphppdbhofeagaaGreatWkRelAll
import Derived.BigQuiet
import Derived.Deep.RegionHeld3
namespace Go.Proofs.YtphppdbhofeagaaGreat
open Go.RowKit
set_option linter.unusedVariables false
set_option linter.unusedSimpArgs false

theorem below_drewN {B : Nat} {a w : World} (h : Below B a w) (k : Nat) : Below B a (w.drewN k) := ⟨h.os, h.tape, h.output, h.size, h.block⟩

/-- A slice of places whose pointer is said. -/
def IntsOn (w : World) (v : Value) (l : List Nat) : Prop := ReadsAs w v (l.map intV) ∧ ((v = .slice none 0 0) ∨ ∃ b off n c, v = .slice (some ⟨b, off, none⟩) n c)

theorem IntsOn.below {w w' : World} {v : Value} {l : List Nat} (h : IntsOn w v l) (hb : Below w.heap.size w w') : IntsOn w' v l := ⟨h.1.below hb, h.2⟩

theorem OwnPl.on {w : World} {B : Nat} {v : Value} {l : List Nat} (h : OwnPl w B v l) : IntsOn w v l := by
  refine ⟨h.reads, ?_⟩
  rcases h.2 with ⟨rfl, _⟩ | ⟨g, cap, cur, rfl, _⟩
  · exact .inl rfl
  · exact .inr ⟨g, 0, _, cap, rfl⟩

theorem intsOn_nil (w : World) : IntsOn w (.slice none 0 0) [] := ⟨⟨none, 0, rfl, Nat.le_refl _, Nat.zero_le _, rfl, Nat.zero_le _, fun h => absurd h (Nat.lt_irrefl 0)⟩, .inl rfl⟩

theorem intsOn_cut {w : World} {b off c : Nat} {l : List Nat} (h : IntsOn w (.slice (some ⟨b, off, none⟩) l.length c) l) (f t : Nat) (hft : f ≤ t) (ht : t ≤ l.length) {off' k c' : Nat} (ho : off' = off + f ∨ t = f) (hk : k = t - f) (hc : c' = c - f) :
    IntsOn w (.slice (some ⟨b, off', none⟩) k c') (cutL l (f, t)) := by
  obtain ⟨⟨a0, c0, he, h2, h3, h4, h5, h6⟩, _⟩ := h
  simp at he
  obtain ⟨rfl, rfl⟩ := he
  have hcl : (cutL l (f, t)).length = t - f := by
    unfold cutL
    simp only [List.length_take, List.length_drop]
    omega
  rw [List.length_map] at h2
  refine ⟨⟨some ⟨b, off', none⟩, c', by rw [List.length_map, hcl, hk], by rw [List.length_map, hcl]; omega, by omega, by simp, by rw [List.length_map] at h5 ⊢; omega, fun h0 => ?_⟩, .inr ⟨b, off', k, c', rfl⟩⟩
  rw [List.length_map, hcl] at h0 ⊢
  obtain ⟨b1, o1, e1, hcell⟩ := h6 (by rw [List.length_map]; omega)
  simp at e1
  obtain ⟨rfl, rfl⟩ := e1
  refine ⟨b, off', rfl, fun i hi => ?_⟩
  have hcl2 := hcell (f + i) (by rw [List.length_map]; omega)
  obtain rfl : off' = off + f := by omega
  rw [Nat.add_assoc, hcl2]
  unfold cutL
  simp [List.getD, List.getElem?_take, List.getElem?_drop, hi]

def RelYes (M : List Nat) (v0 : Value) (w : World) (e : Ending) (w' : World) : Prop :=
  ∃ v, e = .returned (.tuple #[v, .bool true]) ∧ Hid (IntsOn w' v M) ∧ Hid (∀ j, v.ownBlock = some j → v0.ownBlock = some j ∨ (w.heap.size ≤ j ∧ j < w'.heap.size)) ∧ Hid (Below w.heap.size w w')
def RelNot (w : World) (e : Ending) (w' : World) : Prop := ∃ v, e = .returned (.tuple #[v, .bool false]) ∧ Hid (Below w.heap.size w w')
def RelSPost (o : Option (List Nat)) (v0 : Value) (w : World) : Ending → World → Prop := match o with | some M => RelYes M v0 w | none => RelNot w

set_option maxRecDepth 100000 in
set_option maxHeartbeats 4000000 in
theorem parted_32 (tx : ByteArray) (wa : Option Addr) (wc : Nat) (l2 : List Nat) (pa pb : Int) (hra : -9223372036854775808 ≤ pa ∧ pa ≤ 9223372036854775807) (hrb : -9223372036854775808 ≤ pb ∧ pb ≤ 9223372036854775807) (b off vc : Nat) (l : List Nat) (w : World) (hv : IntsOn w (.slice (some ⟨b, off, none⟩) l.length vc) l) (hn : l.length ≤ 200) :
    Calls Tryz.prog 19 #[(.slice (some ⟨b, off, none⟩) l.length vc), .agg #[.int .i64 32, .string tx, .slice wa l2.length wc, .int .i64 pa, .int .i64 pb]] w (RelSPost ((partOf ⟨32, l2, pa, pb⟩ l.length).map (cutL l)) (.slice (some ⟨b, off, none⟩) l.length vc) w) := by
  have hb0 : Below w.heap.size w (w.alloc (.cells #[.int .i64 32, .string tx, .slice wa l2.length wc, .int .i64 pa, .int .i64 pb] 27)) := (Below.refl _ _).alloc (Nat.le_refl _) _
  have hp : ∀ i u, (#[.int .i64 32, .string tx, .slice wa l2.length wc, .int .i64 pa, .int .i64 pb] : Array Value)[i]? = some u → (w.alloc (.cells #[.int .i64 32, .string tx, .slice wa l2.length wc, .int .i64 pa, .int .i64 pb] 27)).cell? ⟨w.heap.size, i, none⟩ = some u := fun i u h => cell_alloc_new' _ _ _ rfl h
  obtain ⟨w0, hw0⟩ : ∃ w0, w.alloc (.cells #[.int .i64 32, .string tx, .slice wa l2.length wc, .int .i64 pa, .int .i64 pb] 27) = w0 := ⟨_, rfl⟩
  rw [hw0] at hp hb0
  have q0 : w0.cell? ⟨w.heap.size, 0, none⟩ = some (.int .i64 32) := hp 0 _ rfl
  have q3 : w0.cell? ⟨w.heap.size, 3, none⟩ = some (.int .i64 pa) := hp 3 _ rfl
  have q4 : w0.cell? ⟨w.heap.size, 4, none⟩ = some (.int .i64 pb) := hp 4 _ rfl
  have hvc : l.length ≤ vc ∧ vc ≤ 9223372036854775807 := by
    obtain ⟨⟨a0, c0, he, h2, h3, _⟩, _⟩ := hv
    simp at he
    rw [List.length_map] at h2
    unfold maxLen at h3
    omega
  have hcut := fun (f t : Nat) (hft : f ≤ t) (ht : t ≤ l.length) (off' k c' : Nat) (ho : off' = off + f ∨ t = f) (hk : k = t - f) (hc : c' = vc - f) => intsOn_cut hv f t hft ht ho hk hc
  obtain ⟨n, hnn⟩ : ∃ n, l.length = n := ⟨_, rfl⟩
  rw [hnn] at hn hvc hcut ⊢
  have HCUT := Lib.hid hcut
  have HB := Lib.hid (fun k => below_drewN hb0 k)
  clear hp hv hnn hb0 hcut
  obtain ⟨f, hf⟩ : ∃ f : Int, (if pa < 0 then pa + n else pa) = f := ⟨_, rfl⟩
  obtain ⟨t, ht⟩ : ∃ t : Int, (if pb < 0 then pb + n else pb) = t := ⟨_, rfl⟩
  have hpo : partOf ⟨32, l2, pa, pb⟩ n = if f < 0 ∨ (n : Int) < t ∨ t < f then none else some (f.toNat, t.toNat) := by
    unfold partOf
    rw [if_neg (show ¬((32 : Int) = 34) by decide), if_neg (show ¬((32 : Int) = 35) by decide), if_neg (show ¬((32 : Int) = 36) by decide)]
    rw [if_neg (show ¬((32 : Int) = 33) by decide)]
    simp only [hf]
    rw [ht]
  rw [hpo]
  clear hpo
  by_cases hbad : f < 0 ∨ (n : Int) < t ∨ t < f
  · rw [if_pos hbad]
    show Calls _ _ _ _ (RelNot w)
    by_cases h1 : pa < 0 <;> by_cases h2 : pb < 0 <;> (simp only [h1, h2, if_true, if_false] at hf ht; subst hf ht)
    all_goals
      go_enter Tryz.func19, Tryz.ntmps19
      go_wp2
      go_quiet (fail)
      go_wp2
      all_goals
        go_ret2
        exact ⟨_, rfl, Lib.hid (HB.out _)⟩
  · rw [if_neg hbad]
    show Calls _ _ _ _ (RelYes (cutL l (f.toNat, t.toNat)) _ w)
    obtain ⟨f', rfl⟩ : ∃ f' : Nat, f = (f' : Int) := ⟨f.toNat, by omega⟩
    obtain ⟨t', rfl⟩ : ∃ t' : Nat, t = (t' : Int) := ⟨t.toNat, by omega⟩
    have hft : f' ≤ t' := by omega
    have htn : t' ≤ n := by omega
    have hftI : (f' : Int) ≤ (t' : Int) := by omega
    have htnI : (t' : Int) ≤ (n : Int) := by omega
    have htcI : (t' : Int) ≤ (vc : Int) := by omega
    have hft0 : 0 ≤ (f' : Int) := by omega
    simp only [Int.toNat_natCast]
    have HC := Lib.hid (HCUT.out f' t' hft htn)
    clear hbad HCUT
    by_cases hz : vc - f' = 0
    all_goals
      rcases (show pa < 0 ∧ pa = (f' : Int) - n ∨ 0 ≤ pa ∧ pa = (f' : Int) by split at hf <;> omega) with ⟨h1, rfl⟩ | ⟨h1, rfl⟩
    all_goals
      clear hf
      rcases (show pb < 0 ∧ pb = (t' : Int) - n ∨ 0 ≤ pb ∧ pb = (t' : Int) by split at ht <;> omega) with ⟨h2, rfl⟩ | ⟨h2, rfl⟩
    all_goals
      clear ht
      try (exfalso; omega)
    all_goals
      go_enter Tryz.func19, Tryz.ntmps19
      go_wp2
      go_quiet (fail)
      go_wp2
      all_goals
        first
        | (exfalso; omega)
        | skip
      all_goals
        go_ret2
        exact ⟨_, rfl, Lib.hid ((HC.out _ _ _ (by first | exact .inl rfl | (right; omega)) (by omega) (by omega)).below (HB.out _)), Lib.hid (fun j h => .inl h), Lib.hid (HB.out _)⟩

set_option maxRecDepth 100000 in
set_option maxHeartbeats 4000000 in
theorem parted_33 (tx : ByteArray) (wa : Option Addr) (wc : Nat) (l2 : List Nat) (pa pb : Int) (hra : -9223372036854775808 ≤ pa ∧ pa ≤ 9223372036854775807) (hrb : -9223372036854775808 ≤ pb ∧ pb ≤ 9223372036854775807) (b off vc : Nat) (l : List Nat) (w : World) (hv : IntsOn w (.slice (some ⟨b, off, none⟩) l.length vc) l) (hn : l.length ≤ 200) :
    Calls Tryz.prog 19 #[(.slice (some ⟨b, off, none⟩) l.length vc), .agg #[.int .i64 33, .string tx, .slice wa l2.length wc, .int .i64 pa, .int .i64 pb]] w (RelSPost ((partOf ⟨33, l2, pa, pb⟩ l.length).map (cutL l)) (.slice (some ⟨b, off, none⟩) l.length vc) w) := by
  have hb0 : Below w.heap.size w (w.alloc (.cells #[.int .i64 33, .string tx, .slice wa l2.length wc, .int .i64 pa, .int .i64 pb] 27)) := (Below.refl _ _).alloc (Nat.le_refl _) _
  have hp : ∀ i u, (#[.int .i64 33, .string tx, .slice wa l2.length wc, .int .i64 pa, .int .i64 pb] : Array Value)[i]? = some u → (w.alloc (.cells #[.int .i64 33, .string tx, .slice wa l2.length wc, .int .i64 pa, .int .i64 pb] 27)).cell? ⟨w.heap.size, i, none⟩ = some u := fun i u h => cell_alloc_new' _ _ _ rfl h
  obtain ⟨w0, hw0⟩ : ∃ w0, w.alloc (.cells #[.int .i64 33, .string tx, .slice wa l2.length wc, .int .i64 pa, .int .i64 pb] 27) = w0 := ⟨_, rfl⟩
  rw [hw0] at hp hb0
  have q0 : w0.cell? ⟨w.heap.size, 0, none⟩ = some (.int .i64 33) := hp 0 _ rfl
  have q3 : w0.cell? ⟨w.heap.size, 3, none⟩ = some (.int .i64 pa) := hp 3 _ rfl
  have q4 : w0.cell? ⟨w.heap.size, 4, none⟩ = some (.int .i64 pb) := hp 4 _ rfl
  have hvc : l.length ≤ vc ∧ vc ≤ 9223372036854775807 := by
    obtain ⟨⟨a0, c0, he, h2, h3, _⟩, _⟩ := hv
    simp at he
    rw [List.length_map] at h2
    unfold maxLen at h3
    omega
  have hcut := fun (f t : Nat) (hft : f ≤ t) (ht : t ≤ l.length) (off' k c' : Nat) (ho : off' = off + f ∨ t = f) (hk : k = t - f) (hc : c' = vc - f) => intsOn_cut hv f t hft ht ho hk hc
  obtain ⟨n, hnn⟩ : ∃ n, l.length = n := ⟨_, rfl⟩
  rw [hnn] at hn hvc hcut ⊢
  have HCUT := Lib.hid hcut
  have HB := Lib.hid (fun k => below_drewN hb0 k)
  clear hp hv hnn hb0 hcut
  obtain ⟨f, hf⟩ : ∃ f : Int, (if pa < 0 then pa + n else pa) = f := ⟨_, rfl⟩
  obtain ⟨t, ht⟩ : ∃ t : Int, (n : Int) = t := ⟨_, rfl⟩
  have hpo : partOf ⟨33, l2, pa, pb⟩ n = if f < 0 ∨ (n : Int) < t ∨ t < f then none else some (f.toNat, t.toNat) := by
    unfold partOf
    rw [if_neg (show ¬((33 : Int) = 34) by decide), if_neg (show ¬((33 : Int) = 35) by decide), if_neg (show ¬((33 : Int) = 36) by decide)]
    rw [if_pos (show (33 : Int) = 33 from rfl)]
    simp only [hf]
    rw [if_neg (show ¬((n : Int) < 0) by omega), ht]
  rw [hpo]
  clear hpo
  by_cases hbad : f < 0 ∨ (n : Int) < t ∨ t < f
  · rw [if_pos hbad]
    show Calls _ _ _ _ (RelNot w)
    by_cases h1 : pa < 0 <;> (simp only [h1, if_true, if_false] at hf; subst hf ht)
    all_goals
      go_enter Tryz.func19, Tryz.ntmps19
      go_wp2
      go_quiet (fail)
      go_wp2
      all_goals
        go_ret2
        exact ⟨_, rfl, Lib.hid (HB.out _)⟩
  · rw [if_neg hbad]
    show Calls _ _ _ _ (RelYes (cutL l (f.toNat, t.toNat)) _ w)
    obtain ⟨f', rfl⟩ : ∃ f' : Nat, f = (f' : Int) := ⟨f.toNat, by omega⟩
    obtain ⟨t', rfl⟩ : ∃ t' : Nat, t = (t' : Int) := ⟨t.toNat, by omega⟩
    have hft : f' ≤ t' := by omega
    have htn : t' ≤ n := by omega
    have hftI : (f' : Int) ≤ (t' : Int) := by omega
    have htnI : (t' : Int) ≤ (n : Int) := by omega
    have htcI : (t' : Int) ≤ (vc : Int) := by omega
    have hft0 : 0 ≤ (f' : Int) := by omega
    simp only [Int.toNat_natCast]
    have HC := Lib.hid (HCUT.out f' t' hft htn)
    clear hbad HCUT
    by_cases hz : vc - f' = 0
    all_goals
      rcases (show pa < 0 ∧ pa = (f' : Int) - n ∨ 0 ≤ pa ∧ pa = (f' : Int) by split at hf <;> omega) with ⟨h1, rfl⟩ | ⟨h1, rfl⟩
    all_goals
      clear hf
      obtain rfl : n = t' := by omega
    all_goals
      clear ht
      try (exfalso; omega)
    all_goals
      go_enter Tryz.func19, Tryz.ntmps19
      go_wp2
      go_quiet (fail)
      go_wp2
      all_goals
        first
        | (exfalso; omega)
        | skip
      all_goals
        go_ret2
        exact ⟨_, rfl, Lib.hid ((HC.out _ _ _ (by first | exact .inl rfl | (right; omega)) (by omega) (by omega)).below (HB.out _)), Lib.hid (fun j h => .inl h), Lib.hid (HB.out _)⟩

set_option maxRecDepth 100000 in
set_option maxHeartbeats 4000000 in
theorem parted_36 (tx : ByteArray) (wa : Option Addr) (wc : Nat) (l2 : List Nat) (pa pb : Int) (hra : -9223372036854775808 ≤ pa ∧ pa ≤ 9223372036854775807) (hrb : -9223372036854775808 ≤ pb ∧ pb ≤ 9223372036854775807) (b off vc : Nat) (l : List Nat) (w : World) (hv : IntsOn w (.slice (some ⟨b, off, none⟩) l.length vc) l) (hn : l.length ≤ 200) :
    Calls Tryz.prog 19 #[(.slice (some ⟨b, off, none⟩) l.length vc), .agg #[.int .i64 36, .string tx, .slice wa l2.length wc, .int .i64 pa, .int .i64 pb]] w (RelSPost ((partOf ⟨36, l2, pa, pb⟩ l.length).map (cutL l)) (.slice (some ⟨b, off, none⟩) l.length vc) w) := by
  have hb0 : Below w.heap.size w (w.alloc (.cells #[.int .i64 36, .string tx, .slice wa l2.length wc, .int .i64 pa, .int .i64 pb] 27)) := (Below.refl _ _).alloc (Nat.le_refl _) _
  have hp : ∀ i u, (#[.int .i64 36, .string tx, .slice wa l2.length wc, .int .i64 pa, .int .i64 pb] : Array Value)[i]? = some u → (w.alloc (.cells #[.int .i64 36, .string tx, .slice wa l2.length wc, .int .i64 pa, .int .i64 pb] 27)).cell? ⟨w.heap.size, i, none⟩ = some u := fun i u h => cell_alloc_new' _ _ _ rfl h
  obtain ⟨w0, hw0⟩ : ∃ w0, w.alloc (.cells #[.int .i64 36, .string tx, .slice wa l2.length wc, .int .i64 pa, .int .i64 pb] 27) = w0 := ⟨_, rfl⟩
  rw [hw0] at hp hb0
  have q0 : w0.cell? ⟨w.heap.size, 0, none⟩ = some (.int .i64 36) := hp 0 _ rfl
  have q3 : w0.cell? ⟨w.heap.size, 3, none⟩ = some (.int .i64 pa) := hp 3 _ rfl
  have q4 : w0.cell? ⟨w.heap.size, 4, none⟩ = some (.int .i64 pb) := hp 4 _ rfl
  have hvc : l.length ≤ vc ∧ vc ≤ 9223372036854775807 := by
    obtain ⟨⟨a0, c0, he, h2, h3, _⟩, _⟩ := hv
    simp at he
    rw [List.length_map] at h2
    unfold maxLen at h3
    omega
  have hcut := fun (f t : Nat) (hft : f ≤ t) (ht : t ≤ l.length) (off' k c' : Nat) (ho : off' = off + f ∨ t = f) (hk : k = t - f) (hc : c' = vc - f) => intsOn_cut hv f t hft ht ho hk hc
  obtain ⟨n, hnn⟩ : ∃ n, l.length = n := ⟨_, rfl⟩
  rw [hnn] at hn hvc hcut ⊢
  have HCUT := Lib.hid hcut
  have HB := Lib.hid (fun k => below_drewN hb0 k)
  clear hp hv hnn hb0 hcut
  obtain ⟨f, hf⟩ : ∃ f : Int, (if pa < 0 then pa + n else pa) = f := ⟨_, rfl⟩
  have hpo : partOf ⟨36, l2, pa, pb⟩ n = if f < 0 ∨ (n : Int) ≤ f then some (0, 0) else some (f.toNat, f.toNat + 1) := by
    unfold partOf
    rw [if_neg (show ¬((36 : Int) = 34) by decide), if_neg (show ¬((36 : Int) = 35) by decide), if_pos (show (36 : Int) = 36 from rfl)]
    simp only [hf]
  rw [hpo]
  clear hpo
  by_cases hbad : f < 0 ∨ (n : Int) ≤ f
  · rw [if_pos hbad]
    show Calls _ _ _ _ (RelYes (cutL l (0, 0)) _ w)
    by_cases h1 : pa < 0 <;> (simp only [h1, if_true, if_false] at hf; subst hf)
    all_goals
      go_enter Tryz.func19, Tryz.ntmps19
      go_wp2
      go_quiet (fail)
      go_wp2
      all_goals
        go_ret2
        exact ⟨_, rfl, Lib.hid ⟨⟨none, 0, rfl, Nat.le_refl _, Nat.zero_le _, rfl, Nat.zero_le _, fun h => absurd h (Nat.lt_irrefl 0)⟩, .inl rfl⟩, Lib.hid (fun j h => by simp [Value.ownBlock] at h), Lib.hid (HB.out _)⟩
  · rw [if_neg hbad]
    show Calls _ _ _ _ (RelYes (cutL l (f.toNat, f.toNat + 1)) _ w)
    obtain ⟨f', rfl⟩ : ∃ f' : Nat, f = (f' : Int) := ⟨f.toNat, by omega⟩
    have hfn : f' < n := by omega
    have hfnI : (f' : Int) < (n : Int) := by omega
    have hfnI1 : (f' : Int) + 1 ≤ (n : Int) := by omega
    have hfcI1 : (f' : Int) + 1 ≤ (vc : Int) := by omega
    have hft0 : 0 ≤ (f' : Int) := by omega
    simp only [Int.toNat_natCast]
    have HC := Lib.hid (HCUT.out f' (f' + 1) (by omega) (by omega))
    clear hbad HCUT
    have hz : ¬(vc - f' = 0) := by omega
    rcases (show pa < 0 ∧ pa = (f' : Int) - n ∨ 0 ≤ pa ∧ pa = (f' : Int) by split at hf <;> omega) with ⟨h1, rfl⟩ | ⟨h1, rfl⟩
    all_goals
      clear hf
      go_enter Tryz.func19, Tryz.ntmps19
      go_wp2
      go_quiet (fail)
      go_wp2
      all_goals
        first
        | (exfalso; omega)
        | skip
      all_goals
        go_ret2
        exact ⟨_, rfl, Lib.hid ((HC.out _ _ _ (by first | exact .inl rfl | (right; omega)) (by omega) (by omega)).below (HB.out _)), Lib.hid (fun j h => .inl h), Lib.hid (HB.out _)⟩

set_option maxRecDepth 100000 in
set_option maxHeartbeats 4000000 in
theorem parted_35 (tx : ByteArray) (wa : Option Addr) (wc : Nat) (l2 : List Nat) (pa pb : Int) (hra : -9223372036854775808 ≤ pa ∧ pa ≤ 9223372036854775807) (hrb : -9223372036854775808 ≤ pb ∧ pb ≤ 9223372036854775807) (b off vc : Nat) (l : List Nat) (w : World) (hv : IntsOn w (.slice (some ⟨b, off, none⟩) l.length vc) l) (hn : l.length ≤ 200) :
    Calls Tryz.prog 19 #[(.slice (some ⟨b, off, none⟩) l.length vc), .agg #[.int .i64 35, .string tx, .slice wa l2.length wc, .int .i64 pa, .int .i64 pb]] w (RelSPost ((partOf ⟨35, l2, pa, pb⟩ l.length).map (cutL l)) (.slice (some ⟨b, off, none⟩) l.length vc) w) := by
  have hb0 : Below w.heap.size w (w.alloc (.cells #[.int .i64 35, .string tx, .slice wa l2.length wc, .int .i64 pa, .int .i64 pb] 27)) := (Below.refl _ _).alloc (Nat.le_refl _) _
  have hp : ∀ i u, (#[.int .i64 35, .string tx, .slice wa l2.length wc, .int .i64 pa, .int .i64 pb] : Array Value)[i]? = some u → (w.alloc (.cells #[.int .i64 35, .string tx, .slice wa l2.length wc, .int .i64 pa, .int .i64 pb] 27)).cell? ⟨w.heap.size, i, none⟩ = some u := fun i u h => cell_alloc_new' _ _ _ rfl h
  obtain ⟨w0, hw0⟩ : ∃ w0, w.alloc (.cells #[.int .i64 35, .string tx, .slice wa l2.length wc, .int .i64 pa, .int .i64 pb] 27) = w0 := ⟨_, rfl⟩
  rw [hw0] at hp hb0
  have q0 : w0.cell? ⟨w.heap.size, 0, none⟩ = some (.int .i64 35) := hp 0 _ rfl
  have q3 : w0.cell? ⟨w.heap.size, 3, none⟩ = some (.int .i64 pa) := hp 3 _ rfl
  have q4 : w0.cell? ⟨w.heap.size, 4, none⟩ = some (.int .i64 pb) := hp 4 _ rfl
  have hvc : l.length ≤ vc ∧ vc ≤ 9223372036854775807 := by
    obtain ⟨⟨a0, c0, he, h2, h3, _⟩, _⟩ := hv
    simp at he
    rw [List.length_map] at h2
    unfold maxLen at h3
    omega
  have hcut := fun (f t : Nat) (hft : f ≤ t) (ht : t ≤ l.length) (off' k c' : Nat) (ho : off' = off + f ∨ t = f) (hk : k = t - f) (hc : c' = vc - f) => intsOn_cut hv f t hft ht ho hk hc
  obtain ⟨n, hnn⟩ : ∃ n, l.length = n := ⟨_, rfl⟩
  rw [hnn] at hn hvc hcut ⊢
  have HCUT := Lib.hid hcut
  have HB := Lib.hid (fun k => below_drewN hb0 k)
  clear hp hv hnn hb0 hcut
  have hpo : partOf ⟨35, l2, pa, pb⟩ n = some (n - 1, n) := rfl
  rw [hpo]
  clear hpo
  show Calls _ _ _ _ (RelYes (cutL l (n - 1, n)) _ w)
  have HC := Lib.hid (HCUT.out (n - 1) n (by omega) (Nat.le_refl _))
  clear HCUT
  rcases Nat.eq_zero_or_pos n with h0 | h0
  · subst h0
    by_cases hz : vc = 0
    all_goals
      go_enter Tryz.func19, Tryz.ntmps19
      go_wp2
      go_quiet (fail)
      go_wp2
      all_goals
        first
        | (exfalso; omega)
        | skip
      all_goals
        go_ret2
        exact ⟨_, rfl, Lib.hid ((HC.out _ _ _ (by first | exact .inl rfl | (right; omega)) (by omega) (by omega)).below (HB.out _)), Lib.hid (fun j h => .inl h), Lib.hid (HB.out _)⟩
  · obtain ⟨m, rfl⟩ : ∃ m, n = m + 1 := ⟨n - 1, by omega⟩
    have hz : ¬(vc - m = 0) := by omega
    have e1 : ((m + 1 : Nat) : Int) - 1 = (m : Int) := by omega
    have e2 : ¬((m : Int) < 0) := by omega
    simp only [Nat.add_sub_cancel] at HC ⊢
    go_enter Tryz.func19, Tryz.ntmps19
    go_wp2
    go_quiet (fail)
    go_wp2
    all_goals
      first
      | (exfalso; omega)
      | skip
    all_goals
      go_ret2
      exact ⟨_, rfl, Lib.hid ((HC.out _ _ _ (by first | exact .inl rfl | (left; omega) | (right; omega)) (by omega) (by omega)).below (HB.out _)), Lib.hid (fun j h => .inl h), Lib.hid (HB.out _)⟩

set_option maxRecDepth 100000 in
set_option maxHeartbeats 4000000 in
theorem partedN_36 (tx : ByteArray) (wa : Option Addr) (wc : Nat) (l2 : List Nat) (pa pb : Int) (hra : -9223372036854775808 ≤ pa ∧ pa ≤ 9223372036854775807) (hrb : -9223372036854775808 ≤ pb ∧ pb ≤ 9223372036854775807) (w : World) :
    Calls Tryz.prog 19 #[(.slice none 0 0), .agg #[.int .i64 36, .string tx, .slice wa l2.length wc, .int .i64 pa, .int .i64 pb]] w (RelSPost ((partOf ⟨36, l2, pa, pb⟩ 0).map (cutL [])) (.slice none 0 0) w) := by
  have hb0 : Below w.heap.size w (w.alloc (.cells #[.int .i64 36, .string tx, .slice wa l2.length wc, .int .i64 pa, .int .i64 pb] 27)) := (Below.refl _ _).alloc (Nat.le_refl _) _
  have hp : ∀ i u, (#[.int .i64 36, .string tx, .slice wa l2.length wc, .int .i64 pa, .int .i64 pb] : Array Value)[i]? = some u → (w.alloc (.cells #[.int .i64 36, .string tx, .slice wa l2.length wc, .int .i64 pa, .int .i64 pb] 27)).cell? ⟨w.heap.size, i, none⟩ = some u := fun i u h => cell_alloc_new' _ _ _ rfl h
  obtain ⟨w0, hw0⟩ : ∃ w0, w.alloc (.cells #[.int .i64 36, .string tx, .slice wa l2.length wc, .int .i64 pa, .int .i64 pb] 27) = w0 := ⟨_, rfl⟩
  rw [hw0] at hp hb0
  have q0 : w0.cell? ⟨w.heap.size, 0, none⟩ = some (.int .i64 36) := hp 0 _ rfl
  have q3 : w0.cell? ⟨w.heap.size, 3, none⟩ = some (.int .i64 pa) := hp 3 _ rfl
  have q4 : w0.cell? ⟨w.heap.size, 4, none⟩ = some (.int .i64 pb) := hp 4 _ rfl
  have HB := Lib.hid (fun k => below_drewN hb0 k)
  clear hp hb0
  have hpo : (partOf ⟨36, l2, pa, pb⟩ 0).map (cutL []) = some [] := by
    have h2 : partOf ⟨36, l2, pa, pb⟩ 0 = some (0, 0) := by
      unfold partOf
      rw [if_neg (show ¬((36 : Int) = 34) by decide), if_neg (show ¬((36 : Int) = 35) by decide), if_pos (show (36 : Int) = 36 from rfl)]
      exact if_pos (by split <;> omega)
    rw [h2]
    rfl
  rw [hpo]
  clear hpo
  show Calls _ _ _ _ (RelYes [] _ w)
  by_cases h1 : pa < 0
  all_goals
    go_enter Tryz.func19, Tryz.ntmps19
    go_wp2
    go_quiet (fail)
    go_wp2
    all_goals
      first
      | (exfalso; omega)
      | skip
    all_goals
      go_ret2
      exact ⟨_, rfl, Lib.hid (intsOn_nil _), Lib.hid (fun j h => by simp [Value.ownBlock] at h), Lib.hid (HB.out _)⟩

set_option maxRecDepth 100000 in
set_option maxHeartbeats 4000000 in
theorem partedN_35 (tx : ByteArray) (wa : Option Addr) (wc : Nat) (l2 : List Nat) (pa pb : Int) (hra : -9223372036854775808 ≤ pa ∧ pa ≤ 9223372036854775807) (hrb : -9223372036854775808 ≤ pb ∧ pb ≤ 9223372036854775807) (w : World) :
    Calls Tryz.prog 19 #[(.slice none 0 0), .agg #[.int .i64 35, .string tx, .slice wa l2.length wc, .int .i64 pa, .int .i64 pb]] w (RelSPost ((partOf ⟨35, l2, pa, pb⟩ 0).map (cutL [])) (.slice none 0 0) w) := by
  have hb0 : Below w.heap.size w (w.alloc (.cells #[.int .i64 35, .string tx, .slice wa l2.length wc, .int .i64 pa, .int .i64 pb] 27)) := (Below.refl _ _).alloc (Nat.le_refl _) _
  have hp : ∀ i u, (#[.int .i64 35, .string tx, .slice wa l2.length wc, .int .i64 pa, .int .i64 pb] : Array Value)[i]? = some u → (w.alloc (.cells #[.int .i64 35, .string tx, .slice wa l2.length wc, .int .i64 pa, .int .i64 pb] 27)).cell? ⟨w.heap.size, i, none⟩ = some u := fun i u h => cell_alloc_new' _ _ _ rfl h
  obtain ⟨w0, hw0⟩ : ∃ w0, w.alloc (.cells #[.int .i64 35, .string tx, .slice wa l2.length wc, .int .i64 pa, .int .i64 pb] 27) = w0 := ⟨_, rfl⟩
  rw [hw0] at hp hb0
  have q0 : w0.cell? ⟨w.heap.size, 0, none⟩ = some (.int .i64 35) := hp 0 _ rfl
  have q3 : w0.cell? ⟨w.heap.size, 3, none⟩ = some (.int .i64 pa) := hp 3 _ rfl
  have q4 : w0.cell? ⟨w.heap.size, 4, none⟩ = some (.int .i64 pb) := hp 4 _ rfl
  have HB := Lib.hid (fun k => below_drewN hb0 k)
  clear hp hb0
  show Calls _ _ _ _ (RelYes [] _ w)
  go_enter Tryz.func19, Tryz.ntmps19
  go_wp2
  go_quiet (fail)
  go_wp2
  all_goals
    go_ret2
    exact ⟨_, rfl, Lib.hid (intsOn_nil _), Lib.hid (fun j h => by simp [Value.ownBlock] at h), Lib.hid (HB.out _)⟩

theorem partN_33 (l2 : List Nat) (pa pb : Int) : (partOf ⟨33, l2, pa, pb⟩ 0).map (cutL []) = if pa = 0 then some [] else none := by
  have h0 : ∀ q, cutL [] q = [] := fun q => by simp [cutL]
  unfold partOf
  rw [if_neg (show ¬((33 : Int) = 34) by decide), if_neg (show ¬((33 : Int) = 35) by decide), if_neg (show ¬((33 : Int) = 36) by decide)]
  rw [if_pos (show (33 : Int) = 33 from rfl)]
  simp only []
  by_cases hc : pa = 0
  · rw [if_pos hc]
    rw [if_neg (by subst hc; decide)]
    simp [h0]
  · rw [if_neg hc, if_pos (by split <;> (try split) <;> omega)]
    rfl

set_option maxRecDepth 100000 in
set_option maxHeartbeats 4000000 in
theorem partedN_33 (tx : ByteArray) (wa : Option Addr) (wc : Nat) (l2 : List Nat) (pa pb : Int) (hra : -9223372036854775808 ≤ pa ∧ pa ≤ 9223372036854775807) (hrb : -9223372036854775808 ≤ pb ∧ pb ≤ 9223372036854775807) (w : World) :
    Calls Tryz.prog 19 #[(.slice none 0 0), .agg #[.int .i64 33, .string tx, .slice wa l2.length wc, .int .i64 pa, .int .i64 pb]] w (RelSPost ((partOf ⟨33, l2, pa, pb⟩ 0).map (cutL [])) (.slice none 0 0) w) := by
  have hb0 : Below w.heap.size w (w.alloc (.cells #[.int .i64 33, .string tx, .slice wa l2.length wc, .int .i64 pa, .int .i64 pb] 27)) := (Below.refl _ _).alloc (Nat.le_refl _) _
  have hp : ∀ i u, (#[.int .i64 33, .string tx, .slice wa l2.length wc, .int .i64 pa, .int .i64 pb] : Array Value)[i]? = some u → (w.alloc (.cells #[.int .i64 33, .string tx, .slice wa l2.length wc, .int .i64 pa, .int .i64 pb] 27)).cell? ⟨w.heap.size, i, none⟩ = some u := fun i u h => cell_alloc_new' _ _ _ rfl h
  obtain ⟨w0, hw0⟩ : ∃ w0, w.alloc (.cells #[.int .i64 33, .string tx, .slice wa l2.length wc, .int .i64 pa, .int .i64 pb] 27) = w0 := ⟨_, rfl⟩
  rw [hw0] at hp hb0
  have q0 : w0.cell? ⟨w.heap.size, 0, none⟩ = some (.int .i64 33) := hp 0 _ rfl
  have q3 : w0.cell? ⟨w.heap.size, 3, none⟩ = some (.int .i64 pa) := hp 3 _ rfl
  have q4 : w0.cell? ⟨w.heap.size, 4, none⟩ = some (.int .i64 pb) := hp 4 _ rfl
  have HB := Lib.hid (fun k => below_drewN hb0 k)
  clear hp hb0
  rw [partN_33]
  by_cases hc : pa = 0
  · rw [if_pos hc]
    show Calls _ _ _ _ (RelYes [] _ w)
    subst hc
    go_enter Tryz.func19, Tryz.ntmps19
    go_wp2
    go_quiet (fail)
    go_wp2
    all_goals
      go_ret2
      exact ⟨_, rfl, Lib.hid (intsOn_nil _), Lib.hid (fun j h => by simp [Value.ownBlock] at h), Lib.hid (HB.out _)⟩
  · rw [if_neg hc]
    show Calls _ _ _ _ (RelNot w)
    rcases (show pa < 0 ∨ pa = 0 ∨ 0 < pa by omega) with h1 | h1 | h1
    all_goals
      skip
    all_goals
      try (exfalso; omega)
    all_goals
      clear hc
      (try subst h1)
      skip
      go_enter Tryz.func19, Tryz.ntmps19
      go_wp2
      go_quiet (fail)
      go_wp2
      all_goals
        first
        | (exfalso; omega)
        | skip
      all_goals
        go_ret2
        exact ⟨_, rfl, Lib.hid (HB.out _)⟩

theorem partN_32 (l2 : List Nat) (pa pb : Int) : (partOf ⟨32, l2, pa, pb⟩ 0).map (cutL []) = if pa = 0 ∧ pb = 0 then some [] else none := by
  have h0 : ∀ q, cutL [] q = [] := fun q => by simp [cutL]
  unfold partOf
  rw [if_neg (show ¬((32 : Int) = 34) by decide), if_neg (show ¬((32 : Int) = 35) by decide), if_neg (show ¬((32 : Int) = 36) by decide)]
  rw [if_neg (show ¬((32 : Int) = 33) by decide)]
  simp only []
  by_cases hc : pa = 0 ∧ pb = 0
  · rw [if_pos hc]
    rw [if_neg (by obtain ⟨rfl, rfl⟩ := hc; decide)]
    simp [h0]
  · rw [if_neg hc, if_pos (by split <;> (try split) <;> omega)]
    rfl

set_option maxRecDepth 100000 in
set_option maxHeartbeats 4000000 in
theorem partedN_32 (tx : ByteArray) (wa : Option Addr) (wc : Nat) (l2 : List Nat) (pa pb : Int) (hra : -9223372036854775808 ≤ pa ∧ pa ≤ 9223372036854775807) (hrb : -9223372036854775808 ≤ pb ∧ pb ≤ 9223372036854775807) (w : World) :
    Calls Tryz.prog 19 #[(.slice none 0 0), .agg #[.int .i64 32, .string tx, .slice wa l2.length wc, .int .i64 pa, .int .i64 pb]] w (RelSPost ((partOf ⟨32, l2, pa, pb⟩ 0).map (cutL [])) (.slice none 0 0) w) := by
  have hb0 : Below w.heap.size w (w.alloc (.cells #[.int .i64 32, .string tx, .slice wa l2.length wc, .int .i64 pa, .int .i64 pb] 27)) := (Below.refl _ _).alloc (Nat.le_refl _) _
  have hp : ∀ i u, (#[.int .i64 32, .string tx, .slice wa l2.length wc, .int .i64 pa, .int .i64 pb] : Array Value)[i]? = some u → (w.alloc (.cells #[.int .i64 32, .string tx, .slice wa l2.length wc, .int .i64 pa, .int .i64 pb] 27)).cell? ⟨w.heap.size, i, none⟩ = some u := fun i u h => cell_alloc_new' _ _ _ rfl h
  obtain ⟨w0, hw0⟩ : ∃ w0, w.alloc (.cells #[.int .i64 32, .string tx, .slice wa l2.length wc, .int .i64 pa, .int .i64 pb] 27) = w0 := ⟨_, rfl⟩
  rw [hw0] at hp hb0
  have q0 : w0.cell? ⟨w.heap.size, 0, none⟩ = some (.int .i64 32) := hp 0 _ rfl
  have q3 : w0.cell? ⟨w.heap.size, 3, none⟩ = some (.int .i64 pa) := hp 3 _ rfl
  have q4 : w0.cell? ⟨w.heap.size, 4, none⟩ = some (.int .i64 pb) := hp 4 _ rfl
  have HB := Lib.hid (fun k => below_drewN hb0 k)
  clear hp hb0
  rw [partN_32]
  by_cases hc : pa = 0 ∧ pb = 0
  · rw [if_pos hc]
    show Calls _ _ _ _ (RelYes [] _ w)
    obtain ⟨rfl, rfl⟩ := hc
    go_enter Tryz.func19, Tryz.ntmps19
    go_wp2
    go_quiet (fail)
    go_wp2
    all_goals
      go_ret2
      exact ⟨_, rfl, Lib.hid (intsOn_nil _), Lib.hid (fun j h => by simp [Value.ownBlock] at h), Lib.hid (HB.out _)⟩
  · rw [if_neg hc]
    show Calls _ _ _ _ (RelNot w)
    rcases (show pa < 0 ∨ pa = 0 ∨ 0 < pa by omega) with h1 | h1 | h1
    all_goals
      rcases (show pb < 0 ∨ pb = 0 ∨ 0 < pb by omega) with h2 | h2 | h2
    all_goals
      try (exfalso; omega)
    all_goals
      clear hc
      (try subst h1)
      (try subst h2)
      go_enter Tryz.func19, Tryz.ntmps19
      go_wp2
      go_quiet (fail)
      go_wp2
      all_goals
        first
        | (exfalso; omega)
        | skip
      all_goals
        go_ret2
        exact ⟨_, rfl, Lib.hid (HB.out _)⟩

end Go.Proofs.YtphppdbhofeagaaGreat

namespace Go.Proofs.YtphppdbhofeagaaGreat
open Go.RowKit
set_option linter.unusedVariables false
set_option linter.unusedSimpArgs false

set_option maxRecDepth 100000 in
set_option maxHeartbeats 1000000 in
theorem atMost_on (b off vc : Nat) (l : List Nat) (w : World) (h : IntsOn w (.slice (some ⟨b, off, none⟩) l.length vc) l) :
    Calls Tryz.prog 33 #[.slice (some ⟨b, off, none⟩) l.length vc] w (fun e w' => e = .returned (.slice (some ⟨b, off, none⟩) (min l.length 1) vc) ∧ w = w') := by
  have hvc : l.length ≤ vc ∧ vc ≤ 9223372036854775807 := by
    obtain ⟨⟨a0, c0, he, h2, h3, _⟩, _⟩ := h
    simp at he
    rw [List.length_map] at h2
    unfold maxLen at h3
    omega
  obtain ⟨n, hn⟩ : ∃ n, l.length = n := ⟨_, rfl⟩
  rw [hn] at hvc ⊢
  clear h hn
  have h1n : 1 < n → (1 : Int) ≤ (n : Int) := by omega
  rcases (show n = 0 ∨ n = 1 ∨ 2 ≤ n by omega) with rfl | rfl | h2
  · go_enter Tryz.func33, Tryz.ntmps33
    go_wp2
    all_goals
      go_ret
      exact ⟨rfl, rfl⟩
  · go_enter Tryz.func33, Tryz.ntmps33
    go_wp2
    all_goals
      first
      | (exfalso; omega)
      | skip
    all_goals
      go_ret
      exact ⟨rfl, rfl⟩
  · have hm : min n 1 = 1 := by omega
    rw [hm]
    have hI : (1 : Int) < (n : Int) := by omega
    have hc1 : (1 : Int) ≤ (vc : Int) := by omega
    go_enter Tryz.func33, Tryz.ntmps33
    go_wp2
    all_goals
      first
      | (exfalso; omega)
      | skip
    all_goals
      go_ret
      exact ⟨rfl, rfl⟩

set_option maxRecDepth 100000 in
set_option maxHeartbeats 1000000 in
theorem atMost_nil (w : World) :
    Calls Tryz.prog 33 #[.slice none 0 0] w (fun e w' => e = .returned (.slice none 0 0) ∧ w = w') := by
  go_enter Tryz.func33, Tryz.ntmps33
  go_wp2
  all_goals
    go_ret
    exact ⟨rfl, rfl⟩

set_option maxRecDepth 100000 in
set_option maxHeartbeats 4000000 in
theorem partedN_34 (tx : ByteArray) (wa : Option Addr) (wc : Nat) (l2 : List Nat) (pa pb : Int) (hra : -9223372036854775808 ≤ pa ∧ pa ≤ 9223372036854775807) (hrb : -9223372036854775808 ≤ pb ∧ pb ≤ 9223372036854775807) (w : World) :
    Calls Tryz.prog 19 #[(.slice none 0 0), .agg #[.int .i64 34, .string tx, .slice wa l2.length wc, .int .i64 pa, .int .i64 pb]] w (RelSPost ((partOf ⟨34, l2, pa, pb⟩ 0).map (cutL [])) (.slice none 0 0) w) := by
  have hb0 : Below w.heap.size w (w.alloc (.cells #[.int .i64 34, .string tx, .slice wa l2.length wc, .int .i64 pa, .int .i64 pb] 27)) := (Below.refl _ _).alloc (Nat.le_refl _) _
  have hp : ∀ i u, (#[.int .i64 34, .string tx, .slice wa l2.length wc, .int .i64 pa, .int .i64 pb] : Array Value)[i]? = some u → (w.alloc (.cells #[.int .i64 34, .string tx, .slice wa l2.length wc, .int .i64 pa, .int .i64 pb] 27)).cell? ⟨w.heap.size, i, none⟩ = some u := fun i u h => cell_alloc_new' _ _ _ rfl h
  obtain ⟨w0, hw0⟩ : ∃ w0, w.alloc (.cells #[.int .i64 34, .string tx, .slice wa l2.length wc, .int .i64 pa, .int .i64 pb] 27) = w0 := ⟨_, rfl⟩
  rw [hw0] at hp hb0
  have q0 : w0.cell? ⟨w.heap.size, 0, none⟩ = some (.int .i64 34) := hp 0 _ rfl
  have q3 : w0.cell? ⟨w.heap.size, 3, none⟩ = some (.int .i64 pa) := hp 3 _ rfl
  have q4 : w0.cell? ⟨w.heap.size, 4, none⟩ = some (.int .i64 pb) := hp 4 _ rfl
  have HB := Lib.hid (fun k => below_drewN hb0 k)
  have HAM := Lib.hid (fun w' => atMost_nil w')
  show Calls _ _ _ _ (RelYes [] _ w)
  clear hp hb0
  go_enter Tryz.func19, Tryz.ntmps19
  go_wp2
  go_quiet (fail)
  go_wp2_with fail
  refine (HAM.out _).mono ?_
  rintro e w1 ⟨rfl, rfl⟩
  go_wp2
  go_ret2
  exact ⟨_, rfl, Lib.hid (intsOn_nil _), Lib.hid (fun j h => by simp [Value.ownBlock] at h), Lib.hid (HB.out _)⟩

set_option maxRecDepth 100000 in
set_option maxHeartbeats 4000000 in
theorem parted_34 (tx : ByteArray) (wa : Option Addr) (wc : Nat) (l2 : List Nat) (pa pb : Int) (hra : -9223372036854775808 ≤ pa ∧ pa ≤ 9223372036854775807) (hrb : -9223372036854775808 ≤ pb ∧ pb ≤ 9223372036854775807) (b off vc : Nat) (l : List Nat) (w : World) (hv : IntsOn w (.slice (some ⟨b, off, none⟩) l.length vc) l) (hn : l.length ≤ 200) :
    Calls Tryz.prog 19 #[(.slice (some ⟨b, off, none⟩) l.length vc), .agg #[.int .i64 34, .string tx, .slice wa l2.length wc, .int .i64 pa, .int .i64 pb]] w (RelSPost ((partOf ⟨34, l2, pa, pb⟩ l.length).map (cutL l)) (.slice (some ⟨b, off, none⟩) l.length vc) w) := by
  have hb0 : Below w.heap.size w (w.alloc (.cells #[.int .i64 34, .string tx, .slice wa l2.length wc, .int .i64 pa, .int .i64 pb] 27)) := (Below.refl _ _).alloc (Nat.le_refl _) _
  have hp : ∀ i u, (#[.int .i64 34, .string tx, .slice wa l2.length wc, .int .i64 pa, .int .i64 pb] : Array Value)[i]? = some u → (w.alloc (.cells #[.int .i64 34, .string tx, .slice wa l2.length wc, .int .i64 pa, .int .i64 pb] 27)).cell? ⟨w.heap.size, i, none⟩ = some u := fun i u h => cell_alloc_new' _ _ _ rfl h
  obtain ⟨w0, hw0⟩ : ∃ w0, w.alloc (.cells #[.int .i64 34, .string tx, .slice wa l2.length wc, .int .i64 pa, .int .i64 pb] 27) = w0 := ⟨_, rfl⟩
  rw [hw0] at hp hb0
  have q0 : w0.cell? ⟨w.heap.size, 0, none⟩ = some (.int .i64 34) := hp 0 _ rfl
  have q3 : w0.cell? ⟨w.heap.size, 3, none⟩ = some (.int .i64 pa) := hp 3 _ rfl
  have q4 : w0.cell? ⟨w.heap.size, 4, none⟩ = some (.int .i64 pb) := hp 4 _ rfl
  have HB := Lib.hid (fun k => below_drewN hb0 k)
  have HAM := Lib.hid (fun w' (h : Below w.heap.size w w') => atMost_on b off vc l w' (hv.below h))
  have HCUT := Lib.hid (intsOn_cut hv 0 (min l.length 1) (Nat.zero_le _) (Nat.min_le_left _ _) (off' := off) (k := min l.length 1) (c' := vc) (.inl rfl) (by omega) (by omega))
  show Calls _ _ _ _ (RelYes (cutL l (0, min l.length 1)) _ w)
  obtain ⟨M, hM⟩ : ∃ M, cutL l (0, min l.length 1) = M := ⟨_, rfl⟩
  rw [hM] at HCUT ⊢
  obtain ⟨n, hnn⟩ : ∃ n, l.length = n := ⟨_, rfl⟩
  rw [hnn] at HAM HCUT hn ⊢
  clear hv hM hnn
  clear hp hb0
  go_enter Tryz.func19, Tryz.ntmps19
  go_wp2
  go_quiet (fail)
  go_wp2_with fail
  refine (HAM.out _ (HB.out _)).mono ?_
  rintro e w1 ⟨rfl, rfl⟩
  go_wp2
  go_ret2
  exact ⟨_, rfl, Lib.hid (HCUT.out.below (HB.out _)), Lib.hid (fun j h => .inl h), Lib.hid (HB.out _)⟩

/-- A part by position of any slice of places. -/
theorem parted_any (tx : ByteArray) (wa : Option Addr) (wc : Nat) (l2 : List Nat) (pa pb : Int) (hra : -9223372036854775808 ≤ pa ∧ pa ≤ 9223372036854775807) (hrb : -9223372036854775808 ≤ pb ∧ pb ≤ 9223372036854775807) (op : Int) (hop : 32 ≤ op ∧ op ≤ 36) (v : Value) (l : List Nat) (w : World) (hv : IntsOn w v l) (hn : l.length ≤ 200) :
    Calls Tryz.prog 19 #[v, .agg #[.int .i64 op, .string tx, .slice wa l2.length wc, .int .i64 pa, .int .i64 pb]] w (RelSPost ((partOf ⟨op, l2, pa, pb⟩ l.length).map (cutL l)) v w) := by
  have hv2 := hv
  obtain ⟨⟨a0, c0, he, _⟩, rfl | ⟨b, off, n, c, rfl⟩⟩ := hv2
  · simp at he
    have hl : l = [] := List.eq_nil_of_length_eq_zero he.2.1.symm
    subst hl
    rcases (show op = 32 ∨ op = 33 ∨ op = 34 ∨ op = 35 ∨ op = 36 by omega) with rfl | rfl | rfl | rfl | rfl
    · exact partedN_32 tx wa wc l2 pa pb hra hrb w
    · exact partedN_33 tx wa wc l2 pa pb hra hrb w
    · exact partedN_34 tx wa wc l2 pa pb hra hrb w
    · exact partedN_35 tx wa wc l2 pa pb hra hrb w
    · exact partedN_36 tx wa wc l2 pa pb hra hrb w
  · simp at he
    obtain ⟨_, rfl, _⟩ := he
    rcases (show op = 32 ∨ op = 33 ∨ op = 34 ∨ op = 35 ∨ op = 36 by omega) with rfl | rfl | rfl | rfl | rfl
    · exact parted_32 tx wa wc l2 pa pb hra hrb b off c l w hv hn
    · exact parted_33 tx wa wc l2 pa pb hra hrb b off c l w hv hn
    · exact parted_34 tx wa wc l2 pa pb hra hrb b off c l w hv hn
    · exact parted_35 tx wa wc l2 pa pb hra hrb b off c l w hv hn
    · exact parted_36 tx wa wc l2 pa pb hra hrb b off c l w hv hn

set_option maxRecDepth 100000 in
set_option maxHeartbeats 1000000 in
theorem relatedP_32 (tx : ByteArray) (wa : Option Addr) (wc : Nat) (l2 : List Nat) (pa pb : Int) (P : World → Ending → World → Prop) (ta : Option Addr) (len cap : Nat) (v : Value) (w : World)
    (hp : ∀ w', Below w.heap.size w w' → Calls Tryz.prog 19 #[v, .agg #[.int .i64 32, .string tx, .slice wa l2.length wc, .int .i64 pa, .int .i64 pb]] w' (P w')) (hP : ∀ w' e w'', Below w.heap.size w w' → P w' e w'' → ∃ v' q, e = .returned (.tuple #[v', .bool q])) :
    Calls Tryz.prog 8 #[.slice ta len cap, v, .agg #[.int .i64 32, .string tx, .slice wa l2.length wc, .int .i64 pa, .int .i64 pb]] w (fun e w'' => ∃ w', Below w.heap.size w w' ∧ P w' e w'') := by
  have hb0 : Below w.heap.size w (w.alloc (.cells #[.int .i64 32, .string tx, .slice wa l2.length wc, .int .i64 pa, .int .i64 pb] 27)) := (Below.refl _ _).alloc (Nat.le_refl _) _
  have hp0 : ∀ i u, (#[.int .i64 32, .string tx, .slice wa l2.length wc, .int .i64 pa, .int .i64 pb] : Array Value)[i]? = some u → (w.alloc (.cells #[.int .i64 32, .string tx, .slice wa l2.length wc, .int .i64 pa, .int .i64 pb] 27)).cell? ⟨w.heap.size, i, none⟩ = some u := fun i u h => cell_alloc_new' _ _ _ rfl h
  obtain ⟨w0, hw0⟩ : ∃ w0, w.alloc (.cells #[.int .i64 32, .string tx, .slice wa l2.length wc, .int .i64 pa, .int .i64 pb] 27) = w0 := ⟨_, rfl⟩
  rw [hw0] at hp0 hb0
  have q0 : w0.cell? ⟨w.heap.size, 0, none⟩ = some (.int .i64 32) := hp0 0 _ rfl
  have q1 : w0.cell? ⟨w.heap.size, 1, none⟩ = some (.string tx) := hp0 1 _ rfl
  have q2 : w0.cell? ⟨w.heap.size, 2, none⟩ = some (.slice wa l2.length wc) := hp0 2 _ rfl
  have q3 : w0.cell? ⟨w.heap.size, 3, none⟩ = some (.int .i64 pa) := hp0 3 _ rfl
  have q4 : w0.cell? ⟨w.heap.size, 4, none⟩ = some (.int .i64 pb) := hp0 4 _ rfl
  have HB := Lib.hid hb0
  have HP := Lib.hid (And.intro (hp w0 hb0) (fun e w'' => hP w0 e w'' hb0))
  clear hp0 hb0 hp hP
  go_enter Tryz.func8, Tryz.ntmps8
  go_wp2_with fail
  refine HP.out.1.mono ?_
  intro e w1 h
  obtain ⟨v', q, rfl⟩ := HP.out.2 e w1 h
  have H := Lib.hid h
  clear h HP
  go_wp2
  go_ret2
  exact ⟨w0, HB.out, H.out⟩

set_option maxRecDepth 100000 in
set_option maxHeartbeats 1000000 in
theorem relatedP_33 (tx : ByteArray) (wa : Option Addr) (wc : Nat) (l2 : List Nat) (pa pb : Int) (P : World → Ending → World → Prop) (ta : Option Addr) (len cap : Nat) (v : Value) (w : World)
    (hp : ∀ w', Below w.heap.size w w' → Calls Tryz.prog 19 #[v, .agg #[.int .i64 33, .string tx, .slice wa l2.length wc, .int .i64 pa, .int .i64 pb]] w' (P w')) (hP : ∀ w' e w'', Below w.heap.size w w' → P w' e w'' → ∃ v' q, e = .returned (.tuple #[v', .bool q])) :
    Calls Tryz.prog 8 #[.slice ta len cap, v, .agg #[.int .i64 33, .string tx, .slice wa l2.length wc, .int .i64 pa, .int .i64 pb]] w (fun e w'' => ∃ w', Below w.heap.size w w' ∧ P w' e w'') := by
  have hb0 : Below w.heap.size w (w.alloc (.cells #[.int .i64 33, .string tx, .slice wa l2.length wc, .int .i64 pa, .int .i64 pb] 27)) := (Below.refl _ _).alloc (Nat.le_refl _) _
  have hp0 : ∀ i u, (#[.int .i64 33, .string tx, .slice wa l2.length wc, .int .i64 pa, .int .i64 pb] : Array Value)[i]? = some u → (w.alloc (.cells #[.int .i64 33, .string tx, .slice wa l2.length wc, .int .i64 pa, .int .i64 pb] 27)).cell? ⟨w.heap.size, i, none⟩ = some u := fun i u h => cell_alloc_new' _ _ _ rfl h
  obtain ⟨w0, hw0⟩ : ∃ w0, w.alloc (.cells #[.int .i64 33, .string tx, .slice wa l2.length wc, .int .i64 pa, .int .i64 pb] 27) = w0 := ⟨_, rfl⟩
  rw [hw0] at hp0 hb0
  have q0 : w0.cell? ⟨w.heap.size, 0, none⟩ = some (.int .i64 33) := hp0 0 _ rfl
  have q1 : w0.cell? ⟨w.heap.size, 1, none⟩ = some (.string tx) := hp0 1 _ rfl
  have q2 : w0.cell? ⟨w.heap.size, 2, none⟩ = some (.slice wa l2.length wc) := hp0 2 _ rfl
  have q3 : w0.cell? ⟨w.heap.size, 3, none⟩ = some (.int .i64 pa) := hp0 3 _ rfl
  have q4 : w0.cell? ⟨w.heap.size, 4, none⟩ = some (.int .i64 pb) := hp0 4 _ rfl
  have HB := Lib.hid hb0
  have HP := Lib.hid (And.intro (hp w0 hb0) (fun e w'' => hP w0 e w'' hb0))
  clear hp0 hb0 hp hP
  go_enter Tryz.func8, Tryz.ntmps8
  go_wp2_with fail
  refine HP.out.1.mono ?_
  intro e w1 h
  obtain ⟨v', q, rfl⟩ := HP.out.2 e w1 h
  have H := Lib.hid h
  clear h HP
  go_wp2
  go_ret2
  exact ⟨w0, HB.out, H.out⟩

set_option maxRecDepth 100000 in
set_option maxHeartbeats 1000000 in
theorem relatedP_34 (tx : ByteArray) (wa : Option Addr) (wc : Nat) (l2 : List Nat) (pa pb : Int) (P : World → Ending → World → Prop) (ta : Option Addr) (len cap : Nat) (v : Value) (w : World)
    (hp : ∀ w', Below w.heap.size w w' → Calls Tryz.prog 19 #[v, .agg #[.int .i64 34, .string tx, .slice wa l2.length wc, .int .i64 pa, .int .i64 pb]] w' (P w')) (hP : ∀ w' e w'', Below w.heap.size w w' → P w' e w'' → ∃ v' q, e = .returned (.tuple #[v', .bool q])) :
    Calls Tryz.prog 8 #[.slice ta len cap, v, .agg #[.int .i64 34, .string tx, .slice wa l2.length wc, .int .i64 pa, .int .i64 pb]] w (fun e w'' => ∃ w', Below w.heap.size w w' ∧ P w' e w'') := by
  have hb0 : Below w.heap.size w (w.alloc (.cells #[.int .i64 34, .string tx, .slice wa l2.length wc, .int .i64 pa, .int .i64 pb] 27)) := (Below.refl _ _).alloc (Nat.le_refl _) _
  have hp0 : ∀ i u, (#[.int .i64 34, .string tx, .slice wa l2.length wc, .int .i64 pa, .int .i64 pb] : Array Value)[i]? = some u → (w.alloc (.cells #[.int .i64 34, .string tx, .slice wa l2.length wc, .int .i64 pa, .int .i64 pb] 27)).cell? ⟨w.heap.size, i, none⟩ = some u := fun i u h => cell_alloc_new' _ _ _ rfl h
  obtain ⟨w0, hw0⟩ : ∃ w0, w.alloc (.cells #[.int .i64 34, .string tx, .slice wa l2.length wc, .int .i64 pa, .int .i64 pb] 27) = w0 := ⟨_, rfl⟩
  rw [hw0] at hp0 hb0
  have q0 : w0.cell? ⟨w.heap.size, 0, none⟩ = some (.int .i64 34) := hp0 0 _ rfl
  have q1 : w0.cell? ⟨w.heap.size, 1, none⟩ = some (.string tx) := hp0 1 _ rfl
  have q2 : w0.cell? ⟨w.heap.size, 2, none⟩ = some (.slice wa l2.length wc) := hp0 2 _ rfl
  have q3 : w0.cell? ⟨w.heap.size, 3, none⟩ = some (.int .i64 pa) := hp0 3 _ rfl
  have q4 : w0.cell? ⟨w.heap.size, 4, none⟩ = some (.int .i64 pb) := hp0 4 _ rfl
  have HB := Lib.hid hb0
  have HP := Lib.hid (And.intro (hp w0 hb0) (fun e w'' => hP w0 e w'' hb0))
  clear hp0 hb0 hp hP
  go_enter Tryz.func8, Tryz.ntmps8
  go_wp2_with fail
  refine HP.out.1.mono ?_
  intro e w1 h
  obtain ⟨v', q, rfl⟩ := HP.out.2 e w1 h
  have H := Lib.hid h
  clear h HP
  go_wp2
  go_ret2
  exact ⟨w0, HB.out, H.out⟩

set_option maxRecDepth 100000 in
set_option maxHeartbeats 1000000 in
theorem relatedP_35 (tx : ByteArray) (wa : Option Addr) (wc : Nat) (l2 : List Nat) (pa pb : Int) (P : World → Ending → World → Prop) (ta : Option Addr) (len cap : Nat) (v : Value) (w : World)
    (hp : ∀ w', Below w.heap.size w w' → Calls Tryz.prog 19 #[v, .agg #[.int .i64 35, .string tx, .slice wa l2.length wc, .int .i64 pa, .int .i64 pb]] w' (P w')) (hP : ∀ w' e w'', Below w.heap.size w w' → P w' e w'' → ∃ v' q, e = .returned (.tuple #[v', .bool q])) :
    Calls Tryz.prog 8 #[.slice ta len cap, v, .agg #[.int .i64 35, .string tx, .slice wa l2.length wc, .int .i64 pa, .int .i64 pb]] w (fun e w'' => ∃ w', Below w.heap.size w w' ∧ P w' e w'') := by
  have hb0 : Below w.heap.size w (w.alloc (.cells #[.int .i64 35, .string tx, .slice wa l2.length wc, .int .i64 pa, .int .i64 pb] 27)) := (Below.refl _ _).alloc (Nat.le_refl _) _
  have hp0 : ∀ i u, (#[.int .i64 35, .string tx, .slice wa l2.length wc, .int .i64 pa, .int .i64 pb] : Array Value)[i]? = some u → (w.alloc (.cells #[.int .i64 35, .string tx, .slice wa l2.length wc, .int .i64 pa, .int .i64 pb] 27)).cell? ⟨w.heap.size, i, none⟩ = some u := fun i u h => cell_alloc_new' _ _ _ rfl h
  obtain ⟨w0, hw0⟩ : ∃ w0, w.alloc (.cells #[.int .i64 35, .string tx, .slice wa l2.length wc, .int .i64 pa, .int .i64 pb] 27) = w0 := ⟨_, rfl⟩
  rw [hw0] at hp0 hb0
  have q0 : w0.cell? ⟨w.heap.size, 0, none⟩ = some (.int .i64 35) := hp0 0 _ rfl
  have q1 : w0.cell? ⟨w.heap.size, 1, none⟩ = some (.string tx) := hp0 1 _ rfl
  have q2 : w0.cell? ⟨w.heap.size, 2, none⟩ = some (.slice wa l2.length wc) := hp0 2 _ rfl
  have q3 : w0.cell? ⟨w.heap.size, 3, none⟩ = some (.int .i64 pa) := hp0 3 _ rfl
  have q4 : w0.cell? ⟨w.heap.size, 4, none⟩ = some (.int .i64 pb) := hp0 4 _ rfl
  have HB := Lib.hid hb0
  have HP := Lib.hid (And.intro (hp w0 hb0) (fun e w'' => hP w0 e w'' hb0))
  clear hp0 hb0 hp hP
  go_enter Tryz.func8, Tryz.ntmps8
  go_wp2_with fail
  refine HP.out.1.mono ?_
  intro e w1 h
  obtain ⟨v', q, rfl⟩ := HP.out.2 e w1 h
  have H := Lib.hid h
  clear h HP
  go_wp2
  go_ret2
  exact ⟨w0, HB.out, H.out⟩

set_option maxRecDepth 100000 in
set_option maxHeartbeats 1000000 in
theorem relatedP_36 (tx : ByteArray) (wa : Option Addr) (wc : Nat) (l2 : List Nat) (pa pb : Int) (P : World → Ending → World → Prop) (ta : Option Addr) (len cap : Nat) (v : Value) (w : World)
    (hp : ∀ w', Below w.heap.size w w' → Calls Tryz.prog 19 #[v, .agg #[.int .i64 36, .string tx, .slice wa l2.length wc, .int .i64 pa, .int .i64 pb]] w' (P w')) (hP : ∀ w' e w'', Below w.heap.size w w' → P w' e w'' → ∃ v' q, e = .returned (.tuple #[v', .bool q])) :
    Calls Tryz.prog 8 #[.slice ta len cap, v, .agg #[.int .i64 36, .string tx, .slice wa l2.length wc, .int .i64 pa, .int .i64 pb]] w (fun e w'' => ∃ w', Below w.heap.size w w' ∧ P w' e w'') := by
  have hb0 : Below w.heap.size w (w.alloc (.cells #[.int .i64 36, .string tx, .slice wa l2.length wc, .int .i64 pa, .int .i64 pb] 27)) := (Below.refl _ _).alloc (Nat.le_refl _) _
  have hp0 : ∀ i u, (#[.int .i64 36, .string tx, .slice wa l2.length wc, .int .i64 pa, .int .i64 pb] : Array Value)[i]? = some u → (w.alloc (.cells #[.int .i64 36, .string tx, .slice wa l2.length wc, .int .i64 pa, .int .i64 pb] 27)).cell? ⟨w.heap.size, i, none⟩ = some u := fun i u h => cell_alloc_new' _ _ _ rfl h
  obtain ⟨w0, hw0⟩ : ∃ w0, w.alloc (.cells #[.int .i64 36, .string tx, .slice wa l2.length wc, .int .i64 pa, .int .i64 pb] 27) = w0 := ⟨_, rfl⟩
  rw [hw0] at hp0 hb0
  have q0 : w0.cell? ⟨w.heap.size, 0, none⟩ = some (.int .i64 36) := hp0 0 _ rfl
  have q1 : w0.cell? ⟨w.heap.size, 1, none⟩ = some (.string tx) := hp0 1 _ rfl
  have q2 : w0.cell? ⟨w.heap.size, 2, none⟩ = some (.slice wa l2.length wc) := hp0 2 _ rfl
  have q3 : w0.cell? ⟨w.heap.size, 3, none⟩ = some (.int .i64 pa) := hp0 3 _ rfl
  have q4 : w0.cell? ⟨w.heap.size, 4, none⟩ = some (.int .i64 pb) := hp0 4 _ rfl
  have HB := Lib.hid hb0
  have HP := Lib.hid (And.intro (hp w0 hb0) (fun e w'' => hP w0 e w'' hb0))
  clear hp0 hb0 hp hP
  go_enter Tryz.func8, Tryz.ntmps8
  go_wp2_with fail
  refine HP.out.1.mono ?_
  intro e w1 h
  obtain ⟨v', q, rfl⟩ := HP.out.2 e w1 h
  have H := Lib.hid h
  clear h HP
  go_wp2
  go_ret2
  exact ⟨w0, HB.out, H.out⟩

end Go.Proofs.YtphppdbhofeagaaGreat

