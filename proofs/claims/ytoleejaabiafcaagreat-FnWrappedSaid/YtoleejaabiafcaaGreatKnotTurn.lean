/- The reference's cut and put, on its forest in memory. -/
import Derived.Test.YtoleejaabiafcaaGreatKnotAll
import Derived.Deep.RegionHeld3
namespace Go.Proofs.YtoleejaabiafcaaGreat
open Go.RowKit
set_option linter.unusedVariables false
set_option linter.unusedSimpArgs false

theorem slice_hi {g L cap m : Nat} (h : m ≤ cap) (w : World) :
    (Instr.sliceAt 63 (.slice (some ⟨g, 0, none⟩) L cap) none (some (.int .i64 (m : Int))) none).run Tryz.prog w = .ok (.slice (some ⟨g, 0, none⟩) m cap) w ∧
    (Instr.slice 63 (.slice (some ⟨g, 0, none⟩) L cap) none (some (.int .i64 (m : Int))) none).run Tryz.prog w = .ok (.slice (some ⟨g, 0, none⟩) m cap) w := by
  obtain ⟨i0, hi, hz0, hz1, hz2⟩ := info_parts Tryz.infoKnotP
  have hmI : (m : Int) ≤ (cap : Int) := by omega
  have h1 : (Instr.slice 63 (.slice (some ⟨g, 0, none⟩) L cap) none (some (.int .i64 (m : Int))) none).run Tryz.prog w = .ok (.slice (some ⟨g, 0, none⟩) m cap) w := by
    simp [Instr.slice, run_underlying Tryz.underlying63, Instr.sliceBounds, run_sliceBound, hmI, sizeOf, typeInfo, hi, Result.andThen, Addr.add]
  exact ⟨by simp [Instr.sliceAt, run_underlying Tryz.underlying63, h1], h1⟩

theorem slice_lo {g L cap m : Nat} (h : m ≤ L) (z : Int) (hz : z = (m : Int)) :
    ∃ A, (∀ w, (Instr.sliceAt 63 (.slice (some ⟨g, 0, none⟩) L cap) (some (.int .i64 z)) none none).run Tryz.prog w = .ok (.slice A (L - m) (cap - m)) w ∧
      (Instr.slice 63 (.slice (some ⟨g, 0, none⟩) L cap) (some (.int .i64 z)) none none).run Tryz.prog w = .ok (.slice A (L - m) (cap - m)) w) ∧ (A = some ⟨g, m, none⟩ ∨ (cap = m ∧ A = some ⟨g, 0, none⟩)) := by
  obtain ⟨i0, hi, hz0, hz1, hz2⟩ := info_parts Tryz.infoKnotP
  have hmI : (m : Int) ≤ (L : Int) := by omega
  subst hz
  have hA : (if m = 0 then (⟨g, 0, none⟩ : Addr) else ⟨g, m, none⟩) = ⟨g, m, none⟩ := by
    split
    · rename_i e0; subst e0; rfl
    · rfl
  refine ⟨if cap = m then some ⟨g, 0, none⟩ else some ⟨g, m, none⟩, fun w => ?_, ?_⟩
  · have h1 : (Instr.slice 63 (.slice (some ⟨g, 0, none⟩) L cap) (some (.int .i64 (m : Int))) none none).run Tryz.prog w = .ok (.slice (if cap = m then some ⟨g, 0, none⟩ else some ⟨g, m, none⟩) (L - m) (cap - m)) w := by
      simp [Instr.slice, run_underlying Tryz.underlying63, Instr.sliceBounds, run_sliceBound, hmI, sizeOf, typeInfo, hi, hz1, Result.andThen, Addr.add, hA]
    exact ⟨by simp [Instr.sliceAt, run_underlying Tryz.underlying63, h1], h1⟩
  · by_cases e : cap = m
    · rw [if_pos e]; exact .inr ⟨e, rfl⟩
    · rw [if_neg e]; exact .inl rfl

theorem ptrK_one {kn : Nat → Nat} {l : List Nat} : ∀ u ∈ l.map fun y => ptrV (kn y), u.oneCell' = true := by
  intro u hu
  obtain ⟨n, _, rfl⟩ := List.mem_map.1 hu
  rfl

def TurnKPost (B n : Nat) (kn : Nat → Nat) (av : Nat → Value) (pl : Nat → Int) (lab : Nat → NodeD) (F : Wd) (w : World) (e : Ending) (w' : World) : Prop := ∃ kv, e = .returned (.tuple #[]) ∧ Hid (Knots B w' n kn kv av pl lab F) ∧ Hid (OnlyK n kn w w')

/-- Each row is as it was, or new. -/
def FreshK (w : World) (kv kv' : Nat → Value) : Prop := ∀ i, kv' i = kv i ∨ ∀ q, (kv' i).ownBlock = some q → w.heap.size ≤ q
theorem fresh_upd {w w3 : World} {kv : Nat → Value} {p : Nat} {e : TypeId} {size N : Nat} {v : Value} {xs : List Value} (h : w3.ownsRow w.heap.size e size v N xs) : FreshK w kv (updV kv p v) := fun i => by
  unfold updV
  by_cases c : i = p
  · rw [if_pos c]; exact .inr (fun q hq => (World.ownsRow.lt h q hq).1)
  · rw [if_neg c]; exact .inl rfl
def FreshKPost (B n : Nat) (kn : Nat → Nat) (kv0 av : Nat → Value) (pl : Nat → Int) (lab : Nat → NodeD) (F : Wd) (w : World) (e : Ending) (w' : World) : Prop := ∃ kv, e = .returned (.tuple #[]) ∧ Hid (Knots B w' n kn kv av pl lab F) ∧ Hid (OnlyK n kn w w') ∧ Hid (FreshK w kv0 kv)

def StillKPost (w : World) (e : Ending) (w' : World) : Prop := e = .returned (.tuple #[]) ∧ w = w'

set_option maxRecDepth 100000 in
set_option maxHeartbeats 1000000 in
theorem cut_none {B : Nat} {w : World} {n : Nat} {kn : Nat → Nat} {kv av : Nat → Value} {pl : Nat → Int} {lab : Nat → NodeD} {F : Wd} (h : Knots B w n kn kv av pl lab F) {x : Nat} (hx : x < n) (hu : F.up x = none) :
    Calls Tryz.prog 44 #[.pointer (some ⟨kn x, 0, none⟩)] w (StillKPost w) := by
  have hpl := place_none h hx hu
  have HPL := Lib.hid hpl
  clear h hpl hu
  go_enter Tryz.func44, Tryz.ntmps44
  go_wp2_with fail
  refine HPL.out.mono ?_
  rintro e w1 ⟨rfl, rfl⟩
  go_wp2
  go_end0
  exact ⟨rfl, rfl⟩

theorem irrK {n : Nat} {F : Wd} (h : WOk n F) {x p : Nat} {a b : List Nat} (hl : F.kids p = a ++ x :: b) : x ≠ p := fun e => by
  obtain ⟨d, M, h1, h2⟩ := h.deep
  have := h2 p x ((h.iff p x).1 (by rw [hl]; simp))
  subst e
  omega

theorem cell_setCell_far {w : World} {b : Nat} {cs : Array Value} {t : TypeId} (ho : World.objAt w b cs t) (o : Nat) (v : Value) {p : Addr} (hp : p.block ≠ b) : (w.setCell ⟨b, o, none⟩ v).cell? p = w.cell? p :=
  World.cell?_of_block (setCell_block ho o v hp)

theorem cutK_end {B : Nat} {w w3 : World} {n : Nat} {kn : Nat → Nat} {kv av : Nat → Value} {pl : Nat → Int} {lab : Nat → NodeD} {F : Wd} (h : Knots B w n kn kv av pl lab F) (hF : WOk n F) {x p : Nat} {a b : List Nat} (hl : F.kids p = a ++ x :: b) (hp : p < n) (hx : x < n)
    (hb : Below w.heap.size w w3) {v : Value} {N : Nat} {xs : List Value} (ho : w3.ownsRow w.heap.size 66 1 v N xs) (hN : N = (a ++ b).length) (hxs : xs = (a ++ b).map fun y => ptrV (kn y)) :
    Knots B ((w3.setCell ⟨kn p, 7, none⟩ v).setCell ⟨kn x, 6, none⟩ (.pointer none)) n kn (updV kv p v) av pl lab (F.cut x) ∧ OnlyK n kn w ((w3.setCell ⟨kn p, 7, none⟩ v).setCell ⟨kn x, 6, none⟩ (.pointer none)) := by
  subst hN hxs
  have hu : F.up x = some p := (hF.iff p x).1 (by rw [hl]; simp)
  have hnd := hF.nd p
  rw [hl] at hnd
  have hBw : B ≤ w.heap.size := Nat.le_trans (h.base p hp) (Nat.le_of_lt (h.node p hp).lt)
  have h3 := h.below hb
  have h4 := h3.set7 hp (ownsRow_base ho hBw)
  have h5 := h4.set6 hx none
  have o3 : OnlyK n kn w w3 := OnlyK.of_below hb
  have o4 := o3.set hp (h3.node p hp) 7 v
  have o5 := o4.set hx (h4.node x hx) 6 (.pointer none)
  refine ⟨h5.congr (fun i hi => ?_) (fun i hi => rfl), o5⟩
  simp only [Wd.cut]
  by_cases e : i = p
  · subst e
    rw [if_pos rfl, hl, filter_ne hnd]
  · rw [if_neg e, filter_none (fun hm => by rw [hF.iff, hu] at hm; exact e (Option.some.inj hm).symm)]

set_option maxRecDepth 100000 in
set_option maxHeartbeats 4000000 in
theorem cutK_fresh {B : Nat} {w : World} {n : Nat} {kn : Nat → Nat} {kv av : Nat → Value} {pl : Nat → Int} {lab : Nat → NodeD} {F : Wd} (h : Knots B w n kn kv av pl lab F) (hF : WOk n F) (hn : n ≤ 1000000) {x p : Nat} {a b : List Nat} (hl : F.kids p = a ++ x :: b) :
    Calls Tryz.prog 44 #[.pointer (some ⟨kn x, 0, none⟩)] w (FreshKPost B n kn kv av pl lab (F.cut x) w) := by
  have hpl := place_some h hF hl
  have hu : F.up x = some p := (hF.iff p x).1 (by rw [hl]; simp)
  obtain ⟨hx, hp⟩ := hF.lt p x (by rw [hl]; simp) |>.symm
  have c6 := (h.cells hx).2.1
  have c7 := (h.cells hp).2.2
  rw [hu] at c6
  simp only [Option.map_some, lk_some] at c6
  have hrow := h.row p hp
  obtain ⟨s, cap, g, hv, hcap, hcm, hs, hc, _, _⟩ := own_open hrow
  have hlen : (F.kids p).length = a.length + 1 + b.length := by rw [hl]; simp; omega
  have hs := hs (by omega)
  have hkc := hF.few p
  rw [hv, hs] at c7
  obtain ⟨i0, hi, hz0, hz1, hz2⟩ := info_parts Tryz.infoKnotP
  have hr1 : Row w (some ⟨g, 0, none⟩) a.length (a.map fun y => ptrV (kn y)) := by
    refine ⟨by simp, by unfold maxLen; omega, fun h0 => ⟨g, 0, rfl, fun i hi => ?_⟩⟩
    rw [Nat.zero_add, hc i (by omega), hl]
    simp [List.getD, hi, List.getElem?_append_left hi, ptrV]
  have hr2 : Row w (some ⟨g, 0 + (a.length + 1), none⟩) b.length (b.map fun y => ptrV (kn y)) := by
    refine ⟨by simp, by unfold maxLen; omega, fun h0 => ⟨g, 0 + (a.length + 1), rfl, fun i hi => ?_⟩⟩
    rw [Nat.zero_add, hc (a.length + 1 + i) (by omega), hl]
    have : (a ++ x :: b).getD (a.length + 1 + i) 0 = b.getD i 0 := by
      rw [List.getD_eq_getElem?_getD, List.getElem?_append_right (by omega), show a.length + 1 + i - a.length = i + 1 by omega, List.getElem?_cons_succ, List.getD_eq_getElem?_getD]
    rw [this]
    simp [List.getD, hi, ptrV]
  have HPL := Lib.hid hpl
  have HR1 := Lib.hid hr1
  have HR2 := Lib.hid hr2
  have H := Lib.hid h
  have HF := Lib.hid hF
  have HL := Lib.hid hl
  have HX := Lib.hid (And.intro hx hp)
  obtain ⟨L, hL⟩ : ∃ L, (F.kids p).length = L := ⟨_, rfl⟩
  rw [hL] at c7 hlen hcap hkc
  obtain ⟨m, hm⟩ : ∃ m, a.length = m := ⟨_, rfl⟩
  rw [hm] at HR1 HR2 HPL hlen
  have hr : b.length = L - (m + 1) := by omega
  rw [hr] at HR2
  obtain ⟨k1, hk1⟩ : ∃ k1, m + 1 = k1 := ⟨_, rfl⟩
  rw [hk1] at HR2
  rw [hk1] at hr
  have HLEN := Lib.hid (And.intro hL (And.intro hm hr))
  have lx := World.block_lt_of_cell? w _ c6
  have lp := World.block_lt_of_cell? w _ c7
  have hb0 : (0 : Int) ≤ (m : Int) := Int.natCast_nonneg _
  have hb1 : (m : Int) ≤ (cap : Int) := by omega
  have hb2 : (k1 : Int) ≤ (L : Int) := by omega
  have hb3 : (L : Int) ≤ (cap : Int) := by omega
  have hb4 : ¬ (m : Int) < 0 := by omega
  have hb5 : (0 : Int) ≤ (k1 : Int) := Int.natCast_nonneg _
  have hb6 : IntKind.i64.wrap ((m : Int) + 1) = (k1 : Int) := by rw [IntKind.wrap_i64]; omega
  have hb7 : (k1 : Int) ≤ (cap : Int) := by omega
  have hk1L : k1 ≤ L := by omega
  have hmk : m + (L - k1) ≤ 1000000 := by omega
  have hmL : m ≤ 1000000 := by omega
  have c7a := cell_alloc_old c7 (.cells #[] 66)
  have n1 := World.new_ne w _ c6
  have n2 := World.new_ne w _ c7
  clear hpl hr1 hr2 h hF hl hu hrow hv hs hc hL hm hr hk1 hlen hx hp
  go_enter Tryz.func44, Tryz.ntmps44
  go_wp2_with fail
  refine HPL.out.mono ?_
  rintro e w1 ⟨rfl, rfl⟩
  go_wp2_with fail
  by_cases hcm1 : cap = k1
  · subst hcm1
    have HRR := Lib.hid (show Row w (some ⟨g, 0, none⟩) 0 (b.map fun y => ptrV (kn y)) from ⟨by have := HLEN.out.2.2; simp only [List.length_map]; omega, by unfold maxLen; omega, fun h0 => by omega⟩)
    refine wp_region_noPanic ?_
    refine wp_region_held_drew (S := fun w' => w'.cell? ⟨kn x, 6, none⟩ = some (.pointer (some ⟨kn p, 0, none⟩))) (by kernel_rfl) ?_ (fun hHeld => ?_)
    · go_keep
    refine wpAnyH_take (i := 0) (oi := { dst := some 7, op := .move (.tmp 0), type := 66, pos := "change.go:102", after := #[], guard := none }) (v := ?_) rfl (by kernel_rfl) (by kernel_rfl) (by kernel_rfl) (fun _ _ _ h => h) (Or.inl ⟨by rfl, ?_⟩) (by assumption) ?_
    rotate_left
    · (intro w hSw; (try dsimp only at hSw); go_simp; try with_reducible rfl)
    try simp only [Act.put, List.setIfInBounds_toArray, List.set_cons_zero, List.set_cons_succ]
    refine wpAnyH_take (i := 1) (oi := { dst := some 8, op := .nilCheck (.tmp 7), type := 0, pos := "change.go:102", after := #[{ on := 0, ground := .data }], guard := none }) (v := ?_) rfl (by kernel_rfl) (by kernel_rfl) (by kernel_rfl) (fun _ _ _ h => h) (Or.inl ⟨by rfl, ?_⟩) (by assumption) ?_
    rotate_left
    · (intro w hSw; (try dsimp only at hSw); go_simp; try with_reducible rfl)
    try simp only [Act.put, List.setIfInBounds_toArray, List.set_cons_zero, List.set_cons_succ]
    refine wpAnyH_take (i := 2) (oi := { dst := some 9, op := .fieldAddr 93 (.tmp 8) 2, type := 0, pos := "change.go:102", after := #[{ on := 1, ground := .data }], guard := none }) (v := ?_) rfl (by kernel_rfl) (by kernel_rfl) (by kernel_rfl) (fun _ _ _ h => h) (Or.inl ⟨by rfl, ?_⟩) (by assumption) ?_
    rotate_left
    · (intro w hSw; (try dsimp only at hSw); go_simp; try with_reducible rfl)
    try simp only [Act.put, List.setIfInBounds_toArray, List.set_cons_zero, List.set_cons_succ]
    refine wpAnyH_take (i := 3) (oi := { dst := some 10, op := .load 66 (.tmp 9), type := 66, pos := "change.go:102", after := #[{ on := 2, ground := .data }], guard := none }) (v := ?_) rfl (by kernel_rfl) (by kernel_rfl) (by kernel_rfl) (fun _ _ _ h => h) (Or.inl ⟨by rfl, ?_⟩) (by assumption) ?_
    rotate_left
    · (intro w hSw; (try dsimp only at hSw); go_simp; try with_reducible rfl)
    try simp only [Act.put, List.setIfInBounds_toArray, List.set_cons_zero, List.set_cons_succ]
    refine wpAnyH_take (i := 5) (oi := { dst := some 12, op := .move (.tmp 0), type := 66, pos := "change.go:102", after := #[], guard := none }) (v := ?_) rfl (by kernel_rfl) (by kernel_rfl) (by kernel_rfl) (fun _ _ _ h => h) (Or.inl ⟨by rfl, ?_⟩) (by assumption) ?_
    rotate_left
    · (intro w hSw; (try dsimp only at hSw); go_simp; try with_reducible rfl)
    try simp only [Act.put, List.setIfInBounds_toArray, List.set_cons_zero, List.set_cons_succ]
    refine wpAnyH_take (i := 6) (oi := { dst := some 13, op := .nilCheck (.tmp 12), type := 0, pos := "change.go:102", after := #[{ on := 5, ground := .data }], guard := none }) (v := ?_) rfl (by kernel_rfl) (by kernel_rfl) (by kernel_rfl) (fun _ _ _ h => h) (Or.inl ⟨by rfl, ?_⟩) (by assumption) ?_
    rotate_left
    · (intro w hSw; (try dsimp only at hSw); go_simp; try with_reducible rfl)
    try simp only [Act.put, List.setIfInBounds_toArray, List.set_cons_zero, List.set_cons_succ]
    refine wpAnyH_take (i := 7) (oi := { dst := some 14, op := .fieldAddr 93 (.tmp 13) 2, type := 0, pos := "change.go:102", after := #[{ on := 6, ground := .data }], guard := none }) (v := ?_) rfl (by kernel_rfl) (by kernel_rfl) (by kernel_rfl) (fun _ _ _ h => h) (Or.inl ⟨by rfl, ?_⟩) (by assumption) ?_
    rotate_left
    · (intro w hSw; (try dsimp only at hSw); go_simp; try with_reducible rfl)
    try simp only [Act.put, List.setIfInBounds_toArray, List.set_cons_zero, List.set_cons_succ]
    refine wpAnyH_take (i := 8) (oi := { dst := some 15, op := .load 66 (.tmp 14), type := 66, pos := "change.go:102", after := #[{ on := 7, ground := .data }], guard := none }) (v := ?_) rfl (by kernel_rfl) (by kernel_rfl) (by kernel_rfl) (fun _ _ _ h => h) (Or.inl ⟨by rfl, ?_⟩) (by assumption) ?_
    rotate_left
    · (intro w hSw; (try dsimp only at hSw); go_simp; try with_reducible rfl)
    try simp only [Act.put, List.setIfInBounds_toArray, List.set_cons_zero, List.set_cons_succ]
    refine wpAnyH_take (i := 9) (oi := { dst := some 16, op := .nilCheck (.tmp 15), type := 0, pos := "change.go:102", after := #[{ on := 8, ground := .data }], guard := none }) (v := ?_) rfl (by kernel_rfl) (by kernel_rfl) (by kernel_rfl) (fun _ _ _ h => h) (Or.inl ⟨by rfl, ?_⟩) (by assumption) ?_
    rotate_left
    · (intro w hSw; (try dsimp only at hSw); go_simp; try with_reducible rfl)
    try simp only [Act.put, List.setIfInBounds_toArray, List.set_cons_zero, List.set_cons_succ]
    refine wpAnyH_take (i := 10) (oi := { dst := some 17, op := .fieldAddr 93 (.tmp 16) 3, type := 0, pos := "change.go:102", after := #[{ on := 9, ground := .data }], guard := none }) (v := ?_) rfl (by kernel_rfl) (by kernel_rfl) (by kernel_rfl) (fun _ _ _ h => h) (Or.inl ⟨by rfl, ?_⟩) (by assumption) ?_
    rotate_left
    · (intro w hSw; (try dsimp only at hSw); go_simp; try with_reducible rfl)
    try simp only [Act.put, List.setIfInBounds_toArray, List.set_cons_zero, List.set_cons_succ]
    refine wpAnyH_take (i := 12) (oi := { dst := some 19, op := .move (.tmp 2), type := 3, pos := "change.go:102", after := #[], guard := none }) (v := ?_) rfl (by kernel_rfl) (by kernel_rfl) (by kernel_rfl) (fun _ _ _ h => h) (Or.inl ⟨by rfl, ?_⟩) (by assumption) ?_
    rotate_left
    · (intro w hSw; (try dsimp only at hSw); go_simp; try with_reducible rfl)
    try simp only [Act.put, List.setIfInBounds_toArray, List.set_cons_zero, List.set_cons_succ]
    refine wpAnyH_take (i := 15) (oi := { dst := some 22, op := .move (.tmp 0), type := 66, pos := "change.go:102", after := #[], guard := none }) (v := ?_) rfl (by kernel_rfl) (by kernel_rfl) (by kernel_rfl) (fun _ _ _ h => h) (Or.inl ⟨by rfl, ?_⟩) (by assumption) ?_
    rotate_left
    · (intro w hSw; (try dsimp only at hSw); go_simp; try with_reducible rfl)
    try simp only [Act.put, List.setIfInBounds_toArray, List.set_cons_zero, List.set_cons_succ]
    refine wpAnyH_take (i := 16) (oi := { dst := some 23, op := .nilCheck (.tmp 22), type := 0, pos := "change.go:102", after := #[{ on := 15, ground := .data }], guard := none }) (v := ?_) rfl (by kernel_rfl) (by kernel_rfl) (by kernel_rfl) (fun _ _ _ h => h) (Or.inl ⟨by rfl, ?_⟩) (by assumption) ?_
    rotate_left
    · (intro w hSw; (try dsimp only at hSw); go_simp; try with_reducible rfl)
    try simp only [Act.put, List.setIfInBounds_toArray, List.set_cons_zero, List.set_cons_succ]
    refine wpAnyH_take (i := 17) (oi := { dst := some 24, op := .fieldAddr 93 (.tmp 23) 2, type := 0, pos := "change.go:102", after := #[{ on := 16, ground := .data }], guard := none }) (v := ?_) rfl (by kernel_rfl) (by kernel_rfl) (by kernel_rfl) (fun _ _ _ h => h) (Or.inl ⟨by rfl, ?_⟩) (by assumption) ?_
    rotate_left
    · (intro w hSw; (try dsimp only at hSw); go_simp; try with_reducible rfl)
    try simp only [Act.put, List.setIfInBounds_toArray, List.set_cons_zero, List.set_cons_succ]
    refine wpAnyH_take (i := 18) (oi := { dst := some 25, op := .load 66 (.tmp 24), type := 66, pos := "change.go:102", after := #[{ on := 17, ground := .data }], guard := none }) (v := ?_) rfl (by kernel_rfl) (by kernel_rfl) (by kernel_rfl) (fun _ _ _ h => h) (Or.inl ⟨by rfl, ?_⟩) (by assumption) ?_
    rotate_left
    · (intro w hSw; (try dsimp only at hSw); go_simp; try with_reducible rfl)
    try simp only [Act.put, List.setIfInBounds_toArray, List.set_cons_zero, List.set_cons_succ]
    refine wpAnyH_take (i := 19) (oi := { dst := some 26, op := .nilCheck (.tmp 25), type := 0, pos := "change.go:102", after := #[{ on := 18, ground := .data }], guard := none }) (v := ?_) rfl (by kernel_rfl) (by kernel_rfl) (by kernel_rfl) (fun _ _ _ h => h) (Or.inl ⟨by rfl, ?_⟩) (by assumption) ?_
    rotate_left
    · (intro w hSw; (try dsimp only at hSw); go_simp; try with_reducible rfl)
    try simp only [Act.put, List.setIfInBounds_toArray, List.set_cons_zero, List.set_cons_succ]
    refine wpAnyH_take (i := 20) (oi := { dst := some 27, op := .fieldAddr 93 (.tmp 26) 3, type := 0, pos := "change.go:102", after := #[{ on := 19, ground := .data }], guard := none }) (v := ?_) rfl (by kernel_rfl) (by kernel_rfl) (by kernel_rfl) (fun _ _ _ h => h) (Or.inl ⟨by rfl, ?_⟩) (by assumption) ?_
    rotate_left
    · (intro w hSw; (try dsimp only at hSw); go_simp; try with_reducible rfl)
    try simp only [Act.put, List.setIfInBounds_toArray, List.set_cons_zero, List.set_cons_succ]
    refine wpAnyH_take (i := 22) (oi := { dst := some 29, op := .move (.tmp 2), type := 3, pos := "change.go:102", after := #[], guard := none }) (v := ?_) rfl (by kernel_rfl) (by kernel_rfl) (by kernel_rfl) (fun _ _ _ h => h) (Or.inl ⟨by rfl, ?_⟩) (by assumption) ?_
    rotate_left
    · (intro w hSw; (try dsimp only at hSw); go_simp; try with_reducible rfl)
    try simp only [Act.put, List.setIfInBounds_toArray, List.set_cons_zero, List.set_cons_succ]
    refine wpAnyH_take (i := 23) (oi := { dst := some 30, op := .binOp .add 3 (.tmp 29) (.const (.int .i64 1)) 3, type := 3, pos := "change.go:102", after := #[{ on := 22, ground := .data }], guard := none }) (v := ?_) rfl (by kernel_rfl) (by kernel_rfl) (by kernel_rfl) (fun _ _ _ h => h) (Or.inl ⟨by rfl, ?_⟩) (by assumption) ?_
    rotate_left
    · (intro w hSw; (try dsimp only at hSw); go_simp; try with_reducible rfl)
    try simp only [Act.put, List.setIfInBounds_toArray, List.set_cons_zero, List.set_cons_succ]
    refine wpAnyH_ready (rs := [4, 11, 21]) (by kernel_rfl) (by simp) ?_
    refine AllReadyH.cons (o := { dst := some 11, op := .buildSlice 63 0 #[], type := 63, pos := "change.go:102", after := #[], guard := none }) rfl (fun K hK => ?_) ?_
    · skip
      go_simp
      refine hK.out _ _ ?_ (fun hHeld => ?_)
      · (first | go_keep | exact e10' _ | exact e6' | exact e6)
      clear hK K
      try simp only [Act.put, List.setIfInBounds_toArray, List.set_cons_zero, List.set_cons_succ]
      refine wpAnyH_ready (rs := [11, 21]) (by kernel_rfl) (by simp) ?_
      refine AllReadyH.cons (o := { dst := some 18, op := .load 63 (.tmp 17), type := 63, pos := "change.go:102", after := #[{ on := 10, ground := .data }], guard := none }) rfl (fun K hK => ?_) ?_
      · skip
        go_simp
        refine hK.out _ _ ?_ (fun hHeld => ?_)
        · (first | go_keep | exact e10' _ | exact e6' | exact e6)
        clear hK K
        try simp only [Act.put, List.setIfInBounds_toArray, List.set_cons_zero, List.set_cons_succ]
        refine wpAnyH_take (i := 13) (oi := { dst := some 20, op := .slice 63 (.tmp 18) none (some (.tmp 19)) none, type := 63, pos := "change.go:102", after := #[{ on := 11, ground := .data }, { on := 12, ground := .data }], guard := none }) (v := ?_) rfl (by kernel_rfl) (by kernel_rfl) (by kernel_rfl) (fun _ _ _ h => h) (Or.inl ⟨by rfl, ?_⟩) (by assumption) ?_
        rotate_left
        · (intro w hSw; (try dsimp only at hSw); go_simp; try with_reducible rfl)
        try simp only [Act.put, List.setIfInBounds_toArray, List.set_cons_zero, List.set_cons_succ]
        refine wpAnyH_ready (rs := [14, 21]) (by kernel_rfl) (by simp) ?_
        refine AllReadyH.cons (o := { dst := some 21, op := .call { callee := .builtin .append, args := #[.tmp 11, .tmp 20], argTypes := #[63, 63] }, type := 63, pos := "change.go:102", after := #[{ on := 4, ground := .data }, { on := 13, ground := .data }], guard := none }) rfl (fun K hK => ?_) ?_
        · skip
          refine step_append_reads (by rfl) _ _ _ (by rfl) w.heap.size 66 i0 (.pointer none) 8 Tryz.underlying63 hi hz0 hz1 hz2 rfl (some ⟨w.heap.size, 0, none⟩) 0 0 [] (by rfl) (owns_empty w w.heap.size (Nat.le_refl _) _).drew (some ⟨g, 0, none⟩) m cap (a.map fun y => ptrV (kn y)) (by rfl) (HR1.out.below ((Below.refl _ _).alloc (Nat.le_refl _) _).drew) ptrK_one (by unfold maxLen; omega) (by omega) (by simp) ?_
          intro b2 c2 w2 hown2 hgrow2
          rw [Nat.zero_add, List.nil_append] at hown2
          rw [Nat.zero_add]
          have hbel2 : Below w.heap.size w w2 := (((Below.refl _ _).alloc (Nat.le_refl _) _).drew).grown hgrow2 (by simp) (fun q hq => by simp [Value.ownBlock] at hq; omega)
          have HR2w := HRR.out.below hbel2
          have hszw := hbel2.size
          have e6 := cell_below hbel2 c6
          have e7 := cell_below hbel2 c7
          refine hK.out _ _ ?_ (fun hHeld => ?_)
          · (first | go_keep | exact e10' _ | exact e6' | exact e6)
          clear hK K
          try simp only [Act.put, List.setIfInBounds_toArray, List.set_cons_zero, List.set_cons_succ]
          refine wpAnyH_ready (rs := [21]) (by kernel_rfl) (by simp) ?_
          refine AllReadyH.cons (o := { dst := some 28, op := .load 63 (.tmp 27), type := 63, pos := "change.go:102", after := #[{ on := 20, ground := .data }], guard := none }) rfl (fun K hK => ?_) ?_
          · skip
            go_simp
            refine hK.out _ _ ?_ (fun hHeld => ?_)
            · (first | go_keep | exact e10' _ | exact e6' | exact e6)
            clear hK K
            try simp only [Act.put, List.setIfInBounds_toArray, List.set_cons_zero, List.set_cons_succ]
            refine wpAnyH_take (i := 24) (oi := { dst := some 31, op := .slice 63 (.tmp 28) (some (.tmp 30)) none none, type := 63, pos := "change.go:102", after := #[{ on := 21, ground := .data }, { on := 23, ground := .data }], guard := none }) (v := ?_) rfl (by kernel_rfl) (by kernel_rfl) (by kernel_rfl) (fun _ _ _ h => h) (Or.inl ⟨by rfl, ?_⟩) (by assumption) ?_
            rotate_left
            · (intro w hSw; (try dsimp only at hSw); go_simp; try with_reducible rfl)
            try simp only [Act.put, List.setIfInBounds_toArray, List.set_cons_zero, List.set_cons_succ]
            refine wpAnyH_ready (rs := [25]) (by kernel_rfl) (by simp) ?_
            refine AllReadyH.cons (o := { dst := some 32, op := .call { callee := .builtin .append, args := #[.tmp 21, .tmp 31], argTypes := #[63, 63] }, type := 63, pos := "change.go:102", after := #[{ on := 14, ground := .data }, { on := 24, ground := .data }, { on := 14, ground := .chain }], guard := none }) rfl (fun K hK => ?_) ?_
            · skip
              refine step_append_reads (by rfl) _ _ _ (by rfl) w.heap.size 66 i0 (.pointer none) 8 Tryz.underlying63 hi hz0 hz1 hz2 rfl b2 m c2 (a.map fun y => ptrV (kn y)) (by rfl) hown2 (some ⟨g, 0, none⟩) 0 0 (b.map fun y => ptrV (kn y)) (by rfl) HR2w ptrK_one (by unfold maxLen; omega) (by omega) hszw ?_
              intro b3 c3 w3 hown3 hgrow3
              have hbel3 : Below w.heap.size w w3 := hbel2.grown hgrow3 hbel2.size (fun q hq => (World.ownsRow.lt hown2 q hq).1)
              have e6' := cell_below hbel3 c6
              have e7' := cell_below hbel3 c7
              have e8' : w3.frozen? ⟨kn p, 7, none⟩ = false := ((H.out.below hbel3).node p HX.out.2).free 7
              have e9' : w3.frozen? ⟨kn x, 6, none⟩ = false := ((H.out.below hbel3).node x HX.out.1).free 6
              have e10' : ∀ u, (w3.setCell ⟨kn p, 7, none⟩ u).cell? ⟨kn x, 6, none⟩ = some (.pointer (some ⟨kn p, 0, none⟩)) := fun u => (cell_setCell_far ((H.out.below hbel3).node p HX.out.2) 7 u (p := ⟨kn x, 6, none⟩) (H.out.ne HX.out.1 HX.out.2 (irrK HF.out HL.out))).trans e6'
              have HEND := Lib.hid (cutK_end H.out HF.out HL.out HX.out.2 HX.out.1 hbel3 hown3 (by have := HLEN.out; simp only [List.length_append]; omega) (by simp))
              refine hK.out _ _ ?_ (fun hHeld => ?_)
              · (first | go_keep | exact e10' _ | exact e6' | exact e6)
              clear hK K
              try simp only [Act.put, List.setIfInBounds_toArray, List.set_cons_zero, List.set_cons_succ]
              refine wpAnyH_take (i := 26) (oi := { dst := some 33, op := .nilCheck (.tmp 10), type := 0, pos := "change.go:102", after := #[{ on := 3, ground := .data }, { on := 0, ground := .phase }, { on := 1, ground := .phase }, { on := 2, ground := .phase }, { on := 3, ground := .phase }, { on := 4, ground := .phase }, { on := 5, ground := .phase }, { on := 6, ground := .phase }, { on := 7, ground := .phase }, { on := 8, ground := .phase }, { on := 9, ground := .phase }, { on := 10, ground := .phase }, { on := 11, ground := .phase }, { on := 12, ground := .phase }, { on := 13, ground := .phase }, { on := 14, ground := .phase }, { on := 15, ground := .phase }, { on := 16, ground := .phase }, { on := 17, ground := .phase }, { on := 18, ground := .phase }, { on := 19, ground := .phase }, { on := 20, ground := .phase }, { on := 21, ground := .phase }, { on := 22, ground := .phase }, { on := 23, ground := .phase }, { on := 24, ground := .phase }, { on := 25, ground := .phase }], guard := none }) (v := ?_) rfl (by kernel_rfl) (by kernel_rfl) (by kernel_rfl) (fun _ _ _ h => h) (Or.inl ⟨by rfl, ?_⟩) (by assumption) ?_
              rotate_left
              · (intro w hSw; (try dsimp only at hSw); go_simp; try with_reducible rfl)
              try simp only [Act.put, List.setIfInBounds_toArray, List.set_cons_zero, List.set_cons_succ]
              refine wpAnyH_take (i := 27) (oi := { dst := some 34, op := .fieldAddr 93 (.tmp 33) 3, type := 0, pos := "change.go:102", after := #[{ on := 26, ground := .data }, { on := 0, ground := .phase }, { on := 1, ground := .phase }, { on := 2, ground := .phase }, { on := 3, ground := .phase }, { on := 4, ground := .phase }, { on := 5, ground := .phase }, { on := 6, ground := .phase }, { on := 7, ground := .phase }, { on := 8, ground := .phase }, { on := 9, ground := .phase }, { on := 10, ground := .phase }, { on := 11, ground := .phase }, { on := 12, ground := .phase }, { on := 13, ground := .phase }, { on := 14, ground := .phase }, { on := 15, ground := .phase }, { on := 16, ground := .phase }, { on := 17, ground := .phase }, { on := 18, ground := .phase }, { on := 19, ground := .phase }, { on := 20, ground := .phase }, { on := 21, ground := .phase }, { on := 22, ground := .phase }, { on := 23, ground := .phase }, { on := 24, ground := .phase }, { on := 25, ground := .phase }], guard := none }) (v := ?_) rfl (by kernel_rfl) (by kernel_rfl) (by kernel_rfl) (fun _ _ _ h => h) (Or.inl ⟨by rfl, ?_⟩) (by assumption) ?_
              rotate_left
              · (intro w hSw; (try dsimp only at hSw); go_simp; try with_reducible rfl)
              try simp only [Act.put, List.setIfInBounds_toArray, List.set_cons_zero, List.set_cons_succ]
              refine wpAnyH_ready (rs := [28]) (by kernel_rfl) (by simp) ?_
              refine AllReadyH.cons (o := { dst := none, op := .store 63 (.tmp 34) (.tmp 32), type := 0, pos := "change.go:102", after := #[{ on := 27, ground := .data }, { on := 25, ground := .data }, { on := 25, ground := .chain }, { on := 0, ground := .phase }, { on := 1, ground := .phase }, { on := 2, ground := .phase }, { on := 3, ground := .phase }, { on := 4, ground := .phase }, { on := 5, ground := .phase }, { on := 6, ground := .phase }, { on := 7, ground := .phase }, { on := 8, ground := .phase }, { on := 9, ground := .phase }, { on := 10, ground := .phase }, { on := 11, ground := .phase }, { on := 12, ground := .phase }, { on := 13, ground := .phase }, { on := 14, ground := .phase }, { on := 15, ground := .phase }, { on := 16, ground := .phase }, { on := 17, ground := .phase }, { on := 18, ground := .phase }, { on := 19, ground := .phase }, { on := 20, ground := .phase }, { on := 21, ground := .phase }, { on := 22, ground := .phase }, { on := 23, ground := .phase }, { on := 24, ground := .phase }, { on := 25, ground := .phase }], guard := none }) rfl (fun K hK => ?_) ?_
              · skip
                go_simp
                refine hK.out _ _ ?_ (fun hHeld => ?_)
                · (first | go_keep | exact e10' _ | exact e6' | exact e6)
                clear hK K
                try simp only [Act.put, List.setIfInBounds_toArray, List.set_cons_zero, List.set_cons_succ]
                refine wpAnyH_done (by kernel_rfl) ?_ _
                refine NoPanic.normal ?_
                have HE := Lib.hid (show Knots B ((w3.setCell ⟨kn p, 7, none⟩ (.slice b3 m c3)).setCell ⟨kn x, 6, none⟩ (.pointer none)) n kn _ av pl lab (F.cut x) ∧ OnlyK n kn w _ by simpa only [Nat.zero_add, Nat.add_zero] using HEND.out)
                have HFR := Lib.hid (show FreshK w kv (updV kv p (.slice b3 m c3)) by first | exact fresh_upd hown3 | simpa only [Nat.zero_add, Nat.add_zero] using fresh_upd (kv := kv) (p := p) hown3)
                clear HEND hown2 hgrow2 hown3 hgrow3
                go_wp2
                go_end0
                exact ⟨_, rfl, Lib.hid HE.out.1, Lib.hid HE.out.2, HFR⟩
              exact AllReadyH.nil
            exact AllReadyH.nil
          exact AllReadyH.nil
        refine AllReadyH.cons (o := { dst := some 28, op := .load 63 (.tmp 27), type := 63, pos := "change.go:102", after := #[{ on := 20, ground := .data }], guard := none }) rfl (fun K hK => ?_) ?_
        · skip
          go_simp
          refine hK.out _ _ ?_ (fun hHeld => ?_)
          · (first | go_keep | exact e10' _ | exact e6' | exact e6)
          clear hK K
          try simp only [Act.put, List.setIfInBounds_toArray, List.set_cons_zero, List.set_cons_succ]
          refine wpAnyH_take (i := 24) (oi := { dst := some 31, op := .slice 63 (.tmp 28) (some (.tmp 30)) none none, type := 63, pos := "change.go:102", after := #[{ on := 21, ground := .data }, { on := 23, ground := .data }], guard := none }) (v := ?_) rfl (by kernel_rfl) (by kernel_rfl) (by kernel_rfl) (fun _ _ _ h => h) (Or.inl ⟨by rfl, ?_⟩) (by assumption) ?_
          rotate_left
          · (intro w hSw; (try dsimp only at hSw); go_simp; try with_reducible rfl)
          try simp only [Act.put, List.setIfInBounds_toArray, List.set_cons_zero, List.set_cons_succ]
          refine wpAnyH_ready (rs := [14]) (by kernel_rfl) (by simp) ?_
          refine AllReadyH.cons (o := { dst := some 21, op := .call { callee := .builtin .append, args := #[.tmp 11, .tmp 20], argTypes := #[63, 63] }, type := 63, pos := "change.go:102", after := #[{ on := 4, ground := .data }, { on := 13, ground := .data }], guard := none }) rfl (fun K hK => ?_) ?_
          · skip
            refine step_append_reads (by rfl) _ _ _ (by rfl) w.heap.size 66 i0 (.pointer none) 8 Tryz.underlying63 hi hz0 hz1 hz2 rfl (some ⟨w.heap.size, 0, none⟩) 0 0 [] (by rfl) (owns_empty w w.heap.size (Nat.le_refl _) _).drew (some ⟨g, 0, none⟩) m cap (a.map fun y => ptrV (kn y)) (by rfl) (HR1.out.below ((Below.refl _ _).alloc (Nat.le_refl _) _).drew) ptrK_one (by unfold maxLen; omega) (by omega) (by simp) ?_
            intro b2 c2 w2 hown2 hgrow2
            rw [Nat.zero_add, List.nil_append] at hown2
            rw [Nat.zero_add]
            have hbel2 : Below w.heap.size w w2 := (((Below.refl _ _).alloc (Nat.le_refl _) _).drew).grown hgrow2 (by simp) (fun q hq => by simp [Value.ownBlock] at hq; omega)
            have HR2w := HRR.out.below hbel2
            have hszw := hbel2.size
            have e6 := cell_below hbel2 c6
            have e7 := cell_below hbel2 c7
            refine hK.out _ _ ?_ (fun hHeld => ?_)
            · (first | go_keep | exact e10' _ | exact e6' | exact e6)
            clear hK K
            try simp only [Act.put, List.setIfInBounds_toArray, List.set_cons_zero, List.set_cons_succ]
            refine wpAnyH_ready (rs := [25]) (by kernel_rfl) (by simp) ?_
            refine AllReadyH.cons (o := { dst := some 32, op := .call { callee := .builtin .append, args := #[.tmp 21, .tmp 31], argTypes := #[63, 63] }, type := 63, pos := "change.go:102", after := #[{ on := 14, ground := .data }, { on := 24, ground := .data }, { on := 14, ground := .chain }], guard := none }) rfl (fun K hK => ?_) ?_
            · skip
              refine step_append_reads (by rfl) _ _ _ (by rfl) w.heap.size 66 i0 (.pointer none) 8 Tryz.underlying63 hi hz0 hz1 hz2 rfl b2 m c2 (a.map fun y => ptrV (kn y)) (by rfl) hown2 (some ⟨g, 0, none⟩) 0 0 (b.map fun y => ptrV (kn y)) (by rfl) HR2w ptrK_one (by unfold maxLen; omega) (by omega) hszw ?_
              intro b3 c3 w3 hown3 hgrow3
              have hbel3 : Below w.heap.size w w3 := hbel2.grown hgrow3 hbel2.size (fun q hq => (World.ownsRow.lt hown2 q hq).1)
              have e6' := cell_below hbel3 c6
              have e7' := cell_below hbel3 c7
              have e8' : w3.frozen? ⟨kn p, 7, none⟩ = false := ((H.out.below hbel3).node p HX.out.2).free 7
              have e9' : w3.frozen? ⟨kn x, 6, none⟩ = false := ((H.out.below hbel3).node x HX.out.1).free 6
              have e10' : ∀ u, (w3.setCell ⟨kn p, 7, none⟩ u).cell? ⟨kn x, 6, none⟩ = some (.pointer (some ⟨kn p, 0, none⟩)) := fun u => (cell_setCell_far ((H.out.below hbel3).node p HX.out.2) 7 u (p := ⟨kn x, 6, none⟩) (H.out.ne HX.out.1 HX.out.2 (irrK HF.out HL.out))).trans e6'
              have HEND := Lib.hid (cutK_end H.out HF.out HL.out HX.out.2 HX.out.1 hbel3 hown3 (by have := HLEN.out; simp only [List.length_append]; omega) (by simp))
              refine hK.out _ _ ?_ (fun hHeld => ?_)
              · (first | go_keep | exact e10' _ | exact e6' | exact e6)
              clear hK K
              try simp only [Act.put, List.setIfInBounds_toArray, List.set_cons_zero, List.set_cons_succ]
              refine wpAnyH_take (i := 26) (oi := { dst := some 33, op := .nilCheck (.tmp 10), type := 0, pos := "change.go:102", after := #[{ on := 3, ground := .data }, { on := 0, ground := .phase }, { on := 1, ground := .phase }, { on := 2, ground := .phase }, { on := 3, ground := .phase }, { on := 4, ground := .phase }, { on := 5, ground := .phase }, { on := 6, ground := .phase }, { on := 7, ground := .phase }, { on := 8, ground := .phase }, { on := 9, ground := .phase }, { on := 10, ground := .phase }, { on := 11, ground := .phase }, { on := 12, ground := .phase }, { on := 13, ground := .phase }, { on := 14, ground := .phase }, { on := 15, ground := .phase }, { on := 16, ground := .phase }, { on := 17, ground := .phase }, { on := 18, ground := .phase }, { on := 19, ground := .phase }, { on := 20, ground := .phase }, { on := 21, ground := .phase }, { on := 22, ground := .phase }, { on := 23, ground := .phase }, { on := 24, ground := .phase }, { on := 25, ground := .phase }], guard := none }) (v := ?_) rfl (by kernel_rfl) (by kernel_rfl) (by kernel_rfl) (fun _ _ _ h => h) (Or.inl ⟨by rfl, ?_⟩) (by assumption) ?_
              rotate_left
              · (intro w hSw; (try dsimp only at hSw); go_simp; try with_reducible rfl)
              try simp only [Act.put, List.setIfInBounds_toArray, List.set_cons_zero, List.set_cons_succ]
              refine wpAnyH_take (i := 27) (oi := { dst := some 34, op := .fieldAddr 93 (.tmp 33) 3, type := 0, pos := "change.go:102", after := #[{ on := 26, ground := .data }, { on := 0, ground := .phase }, { on := 1, ground := .phase }, { on := 2, ground := .phase }, { on := 3, ground := .phase }, { on := 4, ground := .phase }, { on := 5, ground := .phase }, { on := 6, ground := .phase }, { on := 7, ground := .phase }, { on := 8, ground := .phase }, { on := 9, ground := .phase }, { on := 10, ground := .phase }, { on := 11, ground := .phase }, { on := 12, ground := .phase }, { on := 13, ground := .phase }, { on := 14, ground := .phase }, { on := 15, ground := .phase }, { on := 16, ground := .phase }, { on := 17, ground := .phase }, { on := 18, ground := .phase }, { on := 19, ground := .phase }, { on := 20, ground := .phase }, { on := 21, ground := .phase }, { on := 22, ground := .phase }, { on := 23, ground := .phase }, { on := 24, ground := .phase }, { on := 25, ground := .phase }], guard := none }) (v := ?_) rfl (by kernel_rfl) (by kernel_rfl) (by kernel_rfl) (fun _ _ _ h => h) (Or.inl ⟨by rfl, ?_⟩) (by assumption) ?_
              rotate_left
              · (intro w hSw; (try dsimp only at hSw); go_simp; try with_reducible rfl)
              try simp only [Act.put, List.setIfInBounds_toArray, List.set_cons_zero, List.set_cons_succ]
              refine wpAnyH_ready (rs := [28]) (by kernel_rfl) (by simp) ?_
              refine AllReadyH.cons (o := { dst := none, op := .store 63 (.tmp 34) (.tmp 32), type := 0, pos := "change.go:102", after := #[{ on := 27, ground := .data }, { on := 25, ground := .data }, { on := 25, ground := .chain }, { on := 0, ground := .phase }, { on := 1, ground := .phase }, { on := 2, ground := .phase }, { on := 3, ground := .phase }, { on := 4, ground := .phase }, { on := 5, ground := .phase }, { on := 6, ground := .phase }, { on := 7, ground := .phase }, { on := 8, ground := .phase }, { on := 9, ground := .phase }, { on := 10, ground := .phase }, { on := 11, ground := .phase }, { on := 12, ground := .phase }, { on := 13, ground := .phase }, { on := 14, ground := .phase }, { on := 15, ground := .phase }, { on := 16, ground := .phase }, { on := 17, ground := .phase }, { on := 18, ground := .phase }, { on := 19, ground := .phase }, { on := 20, ground := .phase }, { on := 21, ground := .phase }, { on := 22, ground := .phase }, { on := 23, ground := .phase }, { on := 24, ground := .phase }, { on := 25, ground := .phase }], guard := none }) rfl (fun K hK => ?_) ?_
              · skip
                go_simp
                refine hK.out _ _ ?_ (fun hHeld => ?_)
                · (first | go_keep | exact e10' _ | exact e6' | exact e6)
                clear hK K
                try simp only [Act.put, List.setIfInBounds_toArray, List.set_cons_zero, List.set_cons_succ]
                refine wpAnyH_done (by kernel_rfl) ?_ _
                refine NoPanic.normal ?_
                have HE := Lib.hid (show Knots B ((w3.setCell ⟨kn p, 7, none⟩ (.slice b3 m c3)).setCell ⟨kn x, 6, none⟩ (.pointer none)) n kn _ av pl lab (F.cut x) ∧ OnlyK n kn w _ by simpa only [Nat.zero_add, Nat.add_zero] using HEND.out)
                have HFR := Lib.hid (show FreshK w kv (updV kv p (.slice b3 m c3)) by first | exact fresh_upd hown3 | simpa only [Nat.zero_add, Nat.add_zero] using fresh_upd (kv := kv) (p := p) hown3)
                clear HEND hown2 hgrow2 hown3 hgrow3
                go_wp2
                go_end0
                exact ⟨_, rfl, Lib.hid HE.out.1, Lib.hid HE.out.2, HFR⟩
              exact AllReadyH.nil
            exact AllReadyH.nil
          exact AllReadyH.nil
        exact AllReadyH.nil
      refine AllReadyH.cons (o := { dst := some 28, op := .load 63 (.tmp 27), type := 63, pos := "change.go:102", after := #[{ on := 20, ground := .data }], guard := none }) rfl (fun K hK => ?_) ?_
      · skip
        go_simp
        refine hK.out _ _ ?_ (fun hHeld => ?_)
        · (first | go_keep | exact e10' _ | exact e6' | exact e6)
        clear hK K
        try simp only [Act.put, List.setIfInBounds_toArray, List.set_cons_zero, List.set_cons_succ]
        refine wpAnyH_take (i := 24) (oi := { dst := some 31, op := .slice 63 (.tmp 28) (some (.tmp 30)) none none, type := 63, pos := "change.go:102", after := #[{ on := 21, ground := .data }, { on := 23, ground := .data }], guard := none }) (v := ?_) rfl (by kernel_rfl) (by kernel_rfl) (by kernel_rfl) (fun _ _ _ h => h) (Or.inl ⟨by rfl, ?_⟩) (by assumption) ?_
        rotate_left
        · (intro w hSw; (try dsimp only at hSw); go_simp; try with_reducible rfl)
        try simp only [Act.put, List.setIfInBounds_toArray, List.set_cons_zero, List.set_cons_succ]
        refine wpAnyH_ready (rs := [11]) (by kernel_rfl) (by simp) ?_
        refine AllReadyH.cons (o := { dst := some 18, op := .load 63 (.tmp 17), type := 63, pos := "change.go:102", after := #[{ on := 10, ground := .data }], guard := none }) rfl (fun K hK => ?_) ?_
        · skip
          go_simp
          refine hK.out _ _ ?_ (fun hHeld => ?_)
          · (first | go_keep | exact e10' _ | exact e6' | exact e6)
          clear hK K
          try simp only [Act.put, List.setIfInBounds_toArray, List.set_cons_zero, List.set_cons_succ]
          refine wpAnyH_take (i := 13) (oi := { dst := some 20, op := .slice 63 (.tmp 18) none (some (.tmp 19)) none, type := 63, pos := "change.go:102", after := #[{ on := 11, ground := .data }, { on := 12, ground := .data }], guard := none }) (v := ?_) rfl (by kernel_rfl) (by kernel_rfl) (by kernel_rfl) (fun _ _ _ h => h) (Or.inl ⟨by rfl, ?_⟩) (by assumption) ?_
          rotate_left
          · (intro w hSw; (try dsimp only at hSw); go_simp; try with_reducible rfl)
          try simp only [Act.put, List.setIfInBounds_toArray, List.set_cons_zero, List.set_cons_succ]
          refine wpAnyH_ready (rs := [14]) (by kernel_rfl) (by simp) ?_
          refine AllReadyH.cons (o := { dst := some 21, op := .call { callee := .builtin .append, args := #[.tmp 11, .tmp 20], argTypes := #[63, 63] }, type := 63, pos := "change.go:102", after := #[{ on := 4, ground := .data }, { on := 13, ground := .data }], guard := none }) rfl (fun K hK => ?_) ?_
          · skip
            refine step_append_reads (by rfl) _ _ _ (by rfl) w.heap.size 66 i0 (.pointer none) 8 Tryz.underlying63 hi hz0 hz1 hz2 rfl (some ⟨w.heap.size, 0, none⟩) 0 0 [] (by rfl) (owns_empty w w.heap.size (Nat.le_refl _) _).drew (some ⟨g, 0, none⟩) m cap (a.map fun y => ptrV (kn y)) (by rfl) (HR1.out.below ((Below.refl _ _).alloc (Nat.le_refl _) _).drew) ptrK_one (by unfold maxLen; omega) (by omega) (by simp) ?_
            intro b2 c2 w2 hown2 hgrow2
            rw [Nat.zero_add, List.nil_append] at hown2
            rw [Nat.zero_add]
            have hbel2 : Below w.heap.size w w2 := (((Below.refl _ _).alloc (Nat.le_refl _) _).drew).grown hgrow2 (by simp) (fun q hq => by simp [Value.ownBlock] at hq; omega)
            have HR2w := HRR.out.below hbel2
            have hszw := hbel2.size
            have e6 := cell_below hbel2 c6
            have e7 := cell_below hbel2 c7
            refine hK.out _ _ ?_ (fun hHeld => ?_)
            · (first | go_keep | exact e10' _ | exact e6' | exact e6)
            clear hK K
            try simp only [Act.put, List.setIfInBounds_toArray, List.set_cons_zero, List.set_cons_succ]
            refine wpAnyH_ready (rs := [25]) (by kernel_rfl) (by simp) ?_
            refine AllReadyH.cons (o := { dst := some 32, op := .call { callee := .builtin .append, args := #[.tmp 21, .tmp 31], argTypes := #[63, 63] }, type := 63, pos := "change.go:102", after := #[{ on := 14, ground := .data }, { on := 24, ground := .data }, { on := 14, ground := .chain }], guard := none }) rfl (fun K hK => ?_) ?_
            · skip
              refine step_append_reads (by rfl) _ _ _ (by rfl) w.heap.size 66 i0 (.pointer none) 8 Tryz.underlying63 hi hz0 hz1 hz2 rfl b2 m c2 (a.map fun y => ptrV (kn y)) (by rfl) hown2 (some ⟨g, 0, none⟩) 0 0 (b.map fun y => ptrV (kn y)) (by rfl) HR2w ptrK_one (by unfold maxLen; omega) (by omega) hszw ?_
              intro b3 c3 w3 hown3 hgrow3
              have hbel3 : Below w.heap.size w w3 := hbel2.grown hgrow3 hbel2.size (fun q hq => (World.ownsRow.lt hown2 q hq).1)
              have e6' := cell_below hbel3 c6
              have e7' := cell_below hbel3 c7
              have e8' : w3.frozen? ⟨kn p, 7, none⟩ = false := ((H.out.below hbel3).node p HX.out.2).free 7
              have e9' : w3.frozen? ⟨kn x, 6, none⟩ = false := ((H.out.below hbel3).node x HX.out.1).free 6
              have e10' : ∀ u, (w3.setCell ⟨kn p, 7, none⟩ u).cell? ⟨kn x, 6, none⟩ = some (.pointer (some ⟨kn p, 0, none⟩)) := fun u => (cell_setCell_far ((H.out.below hbel3).node p HX.out.2) 7 u (p := ⟨kn x, 6, none⟩) (H.out.ne HX.out.1 HX.out.2 (irrK HF.out HL.out))).trans e6'
              have HEND := Lib.hid (cutK_end H.out HF.out HL.out HX.out.2 HX.out.1 hbel3 hown3 (by have := HLEN.out; simp only [List.length_append]; omega) (by simp))
              refine hK.out _ _ ?_ (fun hHeld => ?_)
              · (first | go_keep | exact e10' _ | exact e6' | exact e6)
              clear hK K
              try simp only [Act.put, List.setIfInBounds_toArray, List.set_cons_zero, List.set_cons_succ]
              refine wpAnyH_take (i := 26) (oi := { dst := some 33, op := .nilCheck (.tmp 10), type := 0, pos := "change.go:102", after := #[{ on := 3, ground := .data }, { on := 0, ground := .phase }, { on := 1, ground := .phase }, { on := 2, ground := .phase }, { on := 3, ground := .phase }, { on := 4, ground := .phase }, { on := 5, ground := .phase }, { on := 6, ground := .phase }, { on := 7, ground := .phase }, { on := 8, ground := .phase }, { on := 9, ground := .phase }, { on := 10, ground := .phase }, { on := 11, ground := .phase }, { on := 12, ground := .phase }, { on := 13, ground := .phase }, { on := 14, ground := .phase }, { on := 15, ground := .phase }, { on := 16, ground := .phase }, { on := 17, ground := .phase }, { on := 18, ground := .phase }, { on := 19, ground := .phase }, { on := 20, ground := .phase }, { on := 21, ground := .phase }, { on := 22, ground := .phase }, { on := 23, ground := .phase }, { on := 24, ground := .phase }, { on := 25, ground := .phase }], guard := none }) (v := ?_) rfl (by kernel_rfl) (by kernel_rfl) (by kernel_rfl) (fun _ _ _ h => h) (Or.inl ⟨by rfl, ?_⟩) (by assumption) ?_
              rotate_left
              · (intro w hSw; (try dsimp only at hSw); go_simp; try with_reducible rfl)
              try simp only [Act.put, List.setIfInBounds_toArray, List.set_cons_zero, List.set_cons_succ]
              refine wpAnyH_take (i := 27) (oi := { dst := some 34, op := .fieldAddr 93 (.tmp 33) 3, type := 0, pos := "change.go:102", after := #[{ on := 26, ground := .data }, { on := 0, ground := .phase }, { on := 1, ground := .phase }, { on := 2, ground := .phase }, { on := 3, ground := .phase }, { on := 4, ground := .phase }, { on := 5, ground := .phase }, { on := 6, ground := .phase }, { on := 7, ground := .phase }, { on := 8, ground := .phase }, { on := 9, ground := .phase }, { on := 10, ground := .phase }, { on := 11, ground := .phase }, { on := 12, ground := .phase }, { on := 13, ground := .phase }, { on := 14, ground := .phase }, { on := 15, ground := .phase }, { on := 16, ground := .phase }, { on := 17, ground := .phase }, { on := 18, ground := .phase }, { on := 19, ground := .phase }, { on := 20, ground := .phase }, { on := 21, ground := .phase }, { on := 22, ground := .phase }, { on := 23, ground := .phase }, { on := 24, ground := .phase }, { on := 25, ground := .phase }], guard := none }) (v := ?_) rfl (by kernel_rfl) (by kernel_rfl) (by kernel_rfl) (fun _ _ _ h => h) (Or.inl ⟨by rfl, ?_⟩) (by assumption) ?_
              rotate_left
              · (intro w hSw; (try dsimp only at hSw); go_simp; try with_reducible rfl)
              try simp only [Act.put, List.setIfInBounds_toArray, List.set_cons_zero, List.set_cons_succ]
              refine wpAnyH_ready (rs := [28]) (by kernel_rfl) (by simp) ?_
              refine AllReadyH.cons (o := { dst := none, op := .store 63 (.tmp 34) (.tmp 32), type := 0, pos := "change.go:102", after := #[{ on := 27, ground := .data }, { on := 25, ground := .data }, { on := 25, ground := .chain }, { on := 0, ground := .phase }, { on := 1, ground := .phase }, { on := 2, ground := .phase }, { on := 3, ground := .phase }, { on := 4, ground := .phase }, { on := 5, ground := .phase }, { on := 6, ground := .phase }, { on := 7, ground := .phase }, { on := 8, ground := .phase }, { on := 9, ground := .phase }, { on := 10, ground := .phase }, { on := 11, ground := .phase }, { on := 12, ground := .phase }, { on := 13, ground := .phase }, { on := 14, ground := .phase }, { on := 15, ground := .phase }, { on := 16, ground := .phase }, { on := 17, ground := .phase }, { on := 18, ground := .phase }, { on := 19, ground := .phase }, { on := 20, ground := .phase }, { on := 21, ground := .phase }, { on := 22, ground := .phase }, { on := 23, ground := .phase }, { on := 24, ground := .phase }, { on := 25, ground := .phase }], guard := none }) rfl (fun K hK => ?_) ?_
              · skip
                go_simp
                refine hK.out _ _ ?_ (fun hHeld => ?_)
                · (first | go_keep | exact e10' _ | exact e6' | exact e6)
                clear hK K
                try simp only [Act.put, List.setIfInBounds_toArray, List.set_cons_zero, List.set_cons_succ]
                refine wpAnyH_done (by kernel_rfl) ?_ _
                refine NoPanic.normal ?_
                have HE := Lib.hid (show Knots B ((w3.setCell ⟨kn p, 7, none⟩ (.slice b3 m c3)).setCell ⟨kn x, 6, none⟩ (.pointer none)) n kn _ av pl lab (F.cut x) ∧ OnlyK n kn w _ by simpa only [Nat.zero_add, Nat.add_zero] using HEND.out)
                have HFR := Lib.hid (show FreshK w kv (updV kv p (.slice b3 m c3)) by first | exact fresh_upd hown3 | simpa only [Nat.zero_add, Nat.add_zero] using fresh_upd (kv := kv) (p := p) hown3)
                clear HEND hown2 hgrow2 hown3 hgrow3
                go_wp2
                go_end0
                exact ⟨_, rfl, Lib.hid HE.out.1, Lib.hid HE.out.2, HFR⟩
              exact AllReadyH.nil
            exact AllReadyH.nil
          exact AllReadyH.nil
        exact AllReadyH.nil
      exact AllReadyH.nil
    refine AllReadyH.cons (o := { dst := some 18, op := .load 63 (.tmp 17), type := 63, pos := "change.go:102", after := #[{ on := 10, ground := .data }], guard := none }) rfl (fun K hK => ?_) ?_
    · skip
      go_simp
      refine hK.out _ _ ?_ (fun hHeld => ?_)
      · (first | go_keep | exact e10' _ | exact e6' | exact e6)
      clear hK K
      try simp only [Act.put, List.setIfInBounds_toArray, List.set_cons_zero, List.set_cons_succ]
      refine wpAnyH_take (i := 13) (oi := { dst := some 20, op := .slice 63 (.tmp 18) none (some (.tmp 19)) none, type := 63, pos := "change.go:102", after := #[{ on := 11, ground := .data }, { on := 12, ground := .data }], guard := none }) (v := ?_) rfl (by kernel_rfl) (by kernel_rfl) (by kernel_rfl) (fun _ _ _ h => h) (Or.inl ⟨by rfl, ?_⟩) (by assumption) ?_
      rotate_left
      · (intro w hSw; (try dsimp only at hSw); go_simp; try with_reducible rfl)
      try simp only [Act.put, List.setIfInBounds_toArray, List.set_cons_zero, List.set_cons_succ]
      refine wpAnyH_ready (rs := [4, 21]) (by kernel_rfl) (by simp) ?_
      refine AllReadyH.cons (o := { dst := some 11, op := .buildSlice 63 0 #[], type := 63, pos := "change.go:102", after := #[], guard := none }) rfl (fun K hK => ?_) ?_
      · skip
        go_simp
        refine hK.out _ _ ?_ (fun hHeld => ?_)
        · (first | go_keep | exact e10' _ | exact e6' | exact e6)
        clear hK K
        try simp only [Act.put, List.setIfInBounds_toArray, List.set_cons_zero, List.set_cons_succ]
        refine wpAnyH_ready (rs := [14, 21]) (by kernel_rfl) (by simp) ?_
        refine AllReadyH.cons (o := { dst := some 21, op := .call { callee := .builtin .append, args := #[.tmp 11, .tmp 20], argTypes := #[63, 63] }, type := 63, pos := "change.go:102", after := #[{ on := 4, ground := .data }, { on := 13, ground := .data }], guard := none }) rfl (fun K hK => ?_) ?_
        · skip
          refine step_append_reads (by rfl) _ _ _ (by rfl) w.heap.size 66 i0 (.pointer none) 8 Tryz.underlying63 hi hz0 hz1 hz2 rfl (some ⟨w.heap.size, 0, none⟩) 0 0 [] (by rfl) (owns_empty w w.heap.size (Nat.le_refl _) _).drew (some ⟨g, 0, none⟩) m cap (a.map fun y => ptrV (kn y)) (by rfl) (HR1.out.below ((Below.refl _ _).alloc (Nat.le_refl _) _).drew) ptrK_one (by unfold maxLen; omega) (by omega) (by simp) ?_
          intro b2 c2 w2 hown2 hgrow2
          rw [Nat.zero_add, List.nil_append] at hown2
          rw [Nat.zero_add]
          have hbel2 : Below w.heap.size w w2 := (((Below.refl _ _).alloc (Nat.le_refl _) _).drew).grown hgrow2 (by simp) (fun q hq => by simp [Value.ownBlock] at hq; omega)
          have HR2w := HRR.out.below hbel2
          have hszw := hbel2.size
          have e6 := cell_below hbel2 c6
          have e7 := cell_below hbel2 c7
          refine hK.out _ _ ?_ (fun hHeld => ?_)
          · (first | go_keep | exact e10' _ | exact e6' | exact e6)
          clear hK K
          try simp only [Act.put, List.setIfInBounds_toArray, List.set_cons_zero, List.set_cons_succ]
          refine wpAnyH_ready (rs := [21]) (by kernel_rfl) (by simp) ?_
          refine AllReadyH.cons (o := { dst := some 28, op := .load 63 (.tmp 27), type := 63, pos := "change.go:102", after := #[{ on := 20, ground := .data }], guard := none }) rfl (fun K hK => ?_) ?_
          · skip
            go_simp
            refine hK.out _ _ ?_ (fun hHeld => ?_)
            · (first | go_keep | exact e10' _ | exact e6' | exact e6)
            clear hK K
            try simp only [Act.put, List.setIfInBounds_toArray, List.set_cons_zero, List.set_cons_succ]
            refine wpAnyH_take (i := 24) (oi := { dst := some 31, op := .slice 63 (.tmp 28) (some (.tmp 30)) none none, type := 63, pos := "change.go:102", after := #[{ on := 21, ground := .data }, { on := 23, ground := .data }], guard := none }) (v := ?_) rfl (by kernel_rfl) (by kernel_rfl) (by kernel_rfl) (fun _ _ _ h => h) (Or.inl ⟨by rfl, ?_⟩) (by assumption) ?_
            rotate_left
            · (intro w hSw; (try dsimp only at hSw); go_simp; try with_reducible rfl)
            try simp only [Act.put, List.setIfInBounds_toArray, List.set_cons_zero, List.set_cons_succ]
            refine wpAnyH_ready (rs := [25]) (by kernel_rfl) (by simp) ?_
            refine AllReadyH.cons (o := { dst := some 32, op := .call { callee := .builtin .append, args := #[.tmp 21, .tmp 31], argTypes := #[63, 63] }, type := 63, pos := "change.go:102", after := #[{ on := 14, ground := .data }, { on := 24, ground := .data }, { on := 14, ground := .chain }], guard := none }) rfl (fun K hK => ?_) ?_
            · skip
              refine step_append_reads (by rfl) _ _ _ (by rfl) w.heap.size 66 i0 (.pointer none) 8 Tryz.underlying63 hi hz0 hz1 hz2 rfl b2 m c2 (a.map fun y => ptrV (kn y)) (by rfl) hown2 (some ⟨g, 0, none⟩) 0 0 (b.map fun y => ptrV (kn y)) (by rfl) HR2w ptrK_one (by unfold maxLen; omega) (by omega) hszw ?_
              intro b3 c3 w3 hown3 hgrow3
              have hbel3 : Below w.heap.size w w3 := hbel2.grown hgrow3 hbel2.size (fun q hq => (World.ownsRow.lt hown2 q hq).1)
              have e6' := cell_below hbel3 c6
              have e7' := cell_below hbel3 c7
              have e8' : w3.frozen? ⟨kn p, 7, none⟩ = false := ((H.out.below hbel3).node p HX.out.2).free 7
              have e9' : w3.frozen? ⟨kn x, 6, none⟩ = false := ((H.out.below hbel3).node x HX.out.1).free 6
              have e10' : ∀ u, (w3.setCell ⟨kn p, 7, none⟩ u).cell? ⟨kn x, 6, none⟩ = some (.pointer (some ⟨kn p, 0, none⟩)) := fun u => (cell_setCell_far ((H.out.below hbel3).node p HX.out.2) 7 u (p := ⟨kn x, 6, none⟩) (H.out.ne HX.out.1 HX.out.2 (irrK HF.out HL.out))).trans e6'
              have HEND := Lib.hid (cutK_end H.out HF.out HL.out HX.out.2 HX.out.1 hbel3 hown3 (by have := HLEN.out; simp only [List.length_append]; omega) (by simp))
              refine hK.out _ _ ?_ (fun hHeld => ?_)
              · (first | go_keep | exact e10' _ | exact e6' | exact e6)
              clear hK K
              try simp only [Act.put, List.setIfInBounds_toArray, List.set_cons_zero, List.set_cons_succ]
              refine wpAnyH_take (i := 26) (oi := { dst := some 33, op := .nilCheck (.tmp 10), type := 0, pos := "change.go:102", after := #[{ on := 3, ground := .data }, { on := 0, ground := .phase }, { on := 1, ground := .phase }, { on := 2, ground := .phase }, { on := 3, ground := .phase }, { on := 4, ground := .phase }, { on := 5, ground := .phase }, { on := 6, ground := .phase }, { on := 7, ground := .phase }, { on := 8, ground := .phase }, { on := 9, ground := .phase }, { on := 10, ground := .phase }, { on := 11, ground := .phase }, { on := 12, ground := .phase }, { on := 13, ground := .phase }, { on := 14, ground := .phase }, { on := 15, ground := .phase }, { on := 16, ground := .phase }, { on := 17, ground := .phase }, { on := 18, ground := .phase }, { on := 19, ground := .phase }, { on := 20, ground := .phase }, { on := 21, ground := .phase }, { on := 22, ground := .phase }, { on := 23, ground := .phase }, { on := 24, ground := .phase }, { on := 25, ground := .phase }], guard := none }) (v := ?_) rfl (by kernel_rfl) (by kernel_rfl) (by kernel_rfl) (fun _ _ _ h => h) (Or.inl ⟨by rfl, ?_⟩) (by assumption) ?_
              rotate_left
              · (intro w hSw; (try dsimp only at hSw); go_simp; try with_reducible rfl)
              try simp only [Act.put, List.setIfInBounds_toArray, List.set_cons_zero, List.set_cons_succ]
              refine wpAnyH_take (i := 27) (oi := { dst := some 34, op := .fieldAddr 93 (.tmp 33) 3, type := 0, pos := "change.go:102", after := #[{ on := 26, ground := .data }, { on := 0, ground := .phase }, { on := 1, ground := .phase }, { on := 2, ground := .phase }, { on := 3, ground := .phase }, { on := 4, ground := .phase }, { on := 5, ground := .phase }, { on := 6, ground := .phase }, { on := 7, ground := .phase }, { on := 8, ground := .phase }, { on := 9, ground := .phase }, { on := 10, ground := .phase }, { on := 11, ground := .phase }, { on := 12, ground := .phase }, { on := 13, ground := .phase }, { on := 14, ground := .phase }, { on := 15, ground := .phase }, { on := 16, ground := .phase }, { on := 17, ground := .phase }, { on := 18, ground := .phase }, { on := 19, ground := .phase }, { on := 20, ground := .phase }, { on := 21, ground := .phase }, { on := 22, ground := .phase }, { on := 23, ground := .phase }, { on := 24, ground := .phase }, { on := 25, ground := .phase }], guard := none }) (v := ?_) rfl (by kernel_rfl) (by kernel_rfl) (by kernel_rfl) (fun _ _ _ h => h) (Or.inl ⟨by rfl, ?_⟩) (by assumption) ?_
              rotate_left
              · (intro w hSw; (try dsimp only at hSw); go_simp; try with_reducible rfl)
              try simp only [Act.put, List.setIfInBounds_toArray, List.set_cons_zero, List.set_cons_succ]
              refine wpAnyH_ready (rs := [28]) (by kernel_rfl) (by simp) ?_
              refine AllReadyH.cons (o := { dst := none, op := .store 63 (.tmp 34) (.tmp 32), type := 0, pos := "change.go:102", after := #[{ on := 27, ground := .data }, { on := 25, ground := .data }, { on := 25, ground := .chain }, { on := 0, ground := .phase }, { on := 1, ground := .phase }, { on := 2, ground := .phase }, { on := 3, ground := .phase }, { on := 4, ground := .phase }, { on := 5, ground := .phase }, { on := 6, ground := .phase }, { on := 7, ground := .phase }, { on := 8, ground := .phase }, { on := 9, ground := .phase }, { on := 10, ground := .phase }, { on := 11, ground := .phase }, { on := 12, ground := .phase }, { on := 13, ground := .phase }, { on := 14, ground := .phase }, { on := 15, ground := .phase }, { on := 16, ground := .phase }, { on := 17, ground := .phase }, { on := 18, ground := .phase }, { on := 19, ground := .phase }, { on := 20, ground := .phase }, { on := 21, ground := .phase }, { on := 22, ground := .phase }, { on := 23, ground := .phase }, { on := 24, ground := .phase }, { on := 25, ground := .phase }], guard := none }) rfl (fun K hK => ?_) ?_
              · skip
                go_simp
                refine hK.out _ _ ?_ (fun hHeld => ?_)
                · (first | go_keep | exact e10' _ | exact e6' | exact e6)
                clear hK K
                try simp only [Act.put, List.setIfInBounds_toArray, List.set_cons_zero, List.set_cons_succ]
                refine wpAnyH_done (by kernel_rfl) ?_ _
                refine NoPanic.normal ?_
                have HE := Lib.hid (show Knots B ((w3.setCell ⟨kn p, 7, none⟩ (.slice b3 m c3)).setCell ⟨kn x, 6, none⟩ (.pointer none)) n kn _ av pl lab (F.cut x) ∧ OnlyK n kn w _ by simpa only [Nat.zero_add, Nat.add_zero] using HEND.out)
                have HFR := Lib.hid (show FreshK w kv (updV kv p (.slice b3 m c3)) by first | exact fresh_upd hown3 | simpa only [Nat.zero_add, Nat.add_zero] using fresh_upd (kv := kv) (p := p) hown3)
                clear HEND hown2 hgrow2 hown3 hgrow3
                go_wp2
                go_end0
                exact ⟨_, rfl, Lib.hid HE.out.1, Lib.hid HE.out.2, HFR⟩
              exact AllReadyH.nil
            exact AllReadyH.nil
          exact AllReadyH.nil
        refine AllReadyH.cons (o := { dst := some 28, op := .load 63 (.tmp 27), type := 63, pos := "change.go:102", after := #[{ on := 20, ground := .data }], guard := none }) rfl (fun K hK => ?_) ?_
        · skip
          go_simp
          refine hK.out _ _ ?_ (fun hHeld => ?_)
          · (first | go_keep | exact e10' _ | exact e6' | exact e6)
          clear hK K
          try simp only [Act.put, List.setIfInBounds_toArray, List.set_cons_zero, List.set_cons_succ]
          refine wpAnyH_take (i := 24) (oi := { dst := some 31, op := .slice 63 (.tmp 28) (some (.tmp 30)) none none, type := 63, pos := "change.go:102", after := #[{ on := 21, ground := .data }, { on := 23, ground := .data }], guard := none }) (v := ?_) rfl (by kernel_rfl) (by kernel_rfl) (by kernel_rfl) (fun _ _ _ h => h) (Or.inl ⟨by rfl, ?_⟩) (by assumption) ?_
          rotate_left
          · (intro w hSw; (try dsimp only at hSw); go_simp; try with_reducible rfl)
          try simp only [Act.put, List.setIfInBounds_toArray, List.set_cons_zero, List.set_cons_succ]
          refine wpAnyH_ready (rs := [14]) (by kernel_rfl) (by simp) ?_
          refine AllReadyH.cons (o := { dst := some 21, op := .call { callee := .builtin .append, args := #[.tmp 11, .tmp 20], argTypes := #[63, 63] }, type := 63, pos := "change.go:102", after := #[{ on := 4, ground := .data }, { on := 13, ground := .data }], guard := none }) rfl (fun K hK => ?_) ?_
          · skip
            refine step_append_reads (by rfl) _ _ _ (by rfl) w.heap.size 66 i0 (.pointer none) 8 Tryz.underlying63 hi hz0 hz1 hz2 rfl (some ⟨w.heap.size, 0, none⟩) 0 0 [] (by rfl) (owns_empty w w.heap.size (Nat.le_refl _) _).drew (some ⟨g, 0, none⟩) m cap (a.map fun y => ptrV (kn y)) (by rfl) (HR1.out.below ((Below.refl _ _).alloc (Nat.le_refl _) _).drew) ptrK_one (by unfold maxLen; omega) (by omega) (by simp) ?_
            intro b2 c2 w2 hown2 hgrow2
            rw [Nat.zero_add, List.nil_append] at hown2
            rw [Nat.zero_add]
            have hbel2 : Below w.heap.size w w2 := (((Below.refl _ _).alloc (Nat.le_refl _) _).drew).grown hgrow2 (by simp) (fun q hq => by simp [Value.ownBlock] at hq; omega)
            have HR2w := HRR.out.below hbel2
            have hszw := hbel2.size
            have e6 := cell_below hbel2 c6
            have e7 := cell_below hbel2 c7
            refine hK.out _ _ ?_ (fun hHeld => ?_)
            · (first | go_keep | exact e10' _ | exact e6' | exact e6)
            clear hK K
            try simp only [Act.put, List.setIfInBounds_toArray, List.set_cons_zero, List.set_cons_succ]
            refine wpAnyH_ready (rs := [25]) (by kernel_rfl) (by simp) ?_
            refine AllReadyH.cons (o := { dst := some 32, op := .call { callee := .builtin .append, args := #[.tmp 21, .tmp 31], argTypes := #[63, 63] }, type := 63, pos := "change.go:102", after := #[{ on := 14, ground := .data }, { on := 24, ground := .data }, { on := 14, ground := .chain }], guard := none }) rfl (fun K hK => ?_) ?_
            · skip
              refine step_append_reads (by rfl) _ _ _ (by rfl) w.heap.size 66 i0 (.pointer none) 8 Tryz.underlying63 hi hz0 hz1 hz2 rfl b2 m c2 (a.map fun y => ptrV (kn y)) (by rfl) hown2 (some ⟨g, 0, none⟩) 0 0 (b.map fun y => ptrV (kn y)) (by rfl) HR2w ptrK_one (by unfold maxLen; omega) (by omega) hszw ?_
              intro b3 c3 w3 hown3 hgrow3
              have hbel3 : Below w.heap.size w w3 := hbel2.grown hgrow3 hbel2.size (fun q hq => (World.ownsRow.lt hown2 q hq).1)
              have e6' := cell_below hbel3 c6
              have e7' := cell_below hbel3 c7
              have e8' : w3.frozen? ⟨kn p, 7, none⟩ = false := ((H.out.below hbel3).node p HX.out.2).free 7
              have e9' : w3.frozen? ⟨kn x, 6, none⟩ = false := ((H.out.below hbel3).node x HX.out.1).free 6
              have e10' : ∀ u, (w3.setCell ⟨kn p, 7, none⟩ u).cell? ⟨kn x, 6, none⟩ = some (.pointer (some ⟨kn p, 0, none⟩)) := fun u => (cell_setCell_far ((H.out.below hbel3).node p HX.out.2) 7 u (p := ⟨kn x, 6, none⟩) (H.out.ne HX.out.1 HX.out.2 (irrK HF.out HL.out))).trans e6'
              have HEND := Lib.hid (cutK_end H.out HF.out HL.out HX.out.2 HX.out.1 hbel3 hown3 (by have := HLEN.out; simp only [List.length_append]; omega) (by simp))
              refine hK.out _ _ ?_ (fun hHeld => ?_)
              · (first | go_keep | exact e10' _ | exact e6' | exact e6)
              clear hK K
              try simp only [Act.put, List.setIfInBounds_toArray, List.set_cons_zero, List.set_cons_succ]
              refine wpAnyH_take (i := 26) (oi := { dst := some 33, op := .nilCheck (.tmp 10), type := 0, pos := "change.go:102", after := #[{ on := 3, ground := .data }, { on := 0, ground := .phase }, { on := 1, ground := .phase }, { on := 2, ground := .phase }, { on := 3, ground := .phase }, { on := 4, ground := .phase }, { on := 5, ground := .phase }, { on := 6, ground := .phase }, { on := 7, ground := .phase }, { on := 8, ground := .phase }, { on := 9, ground := .phase }, { on := 10, ground := .phase }, { on := 11, ground := .phase }, { on := 12, ground := .phase }, { on := 13, ground := .phase }, { on := 14, ground := .phase }, { on := 15, ground := .phase }, { on := 16, ground := .phase }, { on := 17, ground := .phase }, { on := 18, ground := .phase }, { on := 19, ground := .phase }, { on := 20, ground := .phase }, { on := 21, ground := .phase }, { on := 22, ground := .phase }, { on := 23, ground := .phase }, { on := 24, ground := .phase }, { on := 25, ground := .phase }], guard := none }) (v := ?_) rfl (by kernel_rfl) (by kernel_rfl) (by kernel_rfl) (fun _ _ _ h => h) (Or.inl ⟨by rfl, ?_⟩) (by assumption) ?_
              rotate_left
              · (intro w hSw; (try dsimp only at hSw); go_simp; try with_reducible rfl)
              try simp only [Act.put, List.setIfInBounds_toArray, List.set_cons_zero, List.set_cons_succ]
              refine wpAnyH_take (i := 27) (oi := { dst := some 34, op := .fieldAddr 93 (.tmp 33) 3, type := 0, pos := "change.go:102", after := #[{ on := 26, ground := .data }, { on := 0, ground := .phase }, { on := 1, ground := .phase }, { on := 2, ground := .phase }, { on := 3, ground := .phase }, { on := 4, ground := .phase }, { on := 5, ground := .phase }, { on := 6, ground := .phase }, { on := 7, ground := .phase }, { on := 8, ground := .phase }, { on := 9, ground := .phase }, { on := 10, ground := .phase }, { on := 11, ground := .phase }, { on := 12, ground := .phase }, { on := 13, ground := .phase }, { on := 14, ground := .phase }, { on := 15, ground := .phase }, { on := 16, ground := .phase }, { on := 17, ground := .phase }, { on := 18, ground := .phase }, { on := 19, ground := .phase }, { on := 20, ground := .phase }, { on := 21, ground := .phase }, { on := 22, ground := .phase }, { on := 23, ground := .phase }, { on := 24, ground := .phase }, { on := 25, ground := .phase }], guard := none }) (v := ?_) rfl (by kernel_rfl) (by kernel_rfl) (by kernel_rfl) (fun _ _ _ h => h) (Or.inl ⟨by rfl, ?_⟩) (by assumption) ?_
              rotate_left
              · (intro w hSw; (try dsimp only at hSw); go_simp; try with_reducible rfl)
              try simp only [Act.put, List.setIfInBounds_toArray, List.set_cons_zero, List.set_cons_succ]
              refine wpAnyH_ready (rs := [28]) (by kernel_rfl) (by simp) ?_
              refine AllReadyH.cons (o := { dst := none, op := .store 63 (.tmp 34) (.tmp 32), type := 0, pos := "change.go:102", after := #[{ on := 27, ground := .data }, { on := 25, ground := .data }, { on := 25, ground := .chain }, { on := 0, ground := .phase }, { on := 1, ground := .phase }, { on := 2, ground := .phase }, { on := 3, ground := .phase }, { on := 4, ground := .phase }, { on := 5, ground := .phase }, { on := 6, ground := .phase }, { on := 7, ground := .phase }, { on := 8, ground := .phase }, { on := 9, ground := .phase }, { on := 10, ground := .phase }, { on := 11, ground := .phase }, { on := 12, ground := .phase }, { on := 13, ground := .phase }, { on := 14, ground := .phase }, { on := 15, ground := .phase }, { on := 16, ground := .phase }, { on := 17, ground := .phase }, { on := 18, ground := .phase }, { on := 19, ground := .phase }, { on := 20, ground := .phase }, { on := 21, ground := .phase }, { on := 22, ground := .phase }, { on := 23, ground := .phase }, { on := 24, ground := .phase }, { on := 25, ground := .phase }], guard := none }) rfl (fun K hK => ?_) ?_
              · skip
                go_simp
                refine hK.out _ _ ?_ (fun hHeld => ?_)
                · (first | go_keep | exact e10' _ | exact e6' | exact e6)
                clear hK K
                try simp only [Act.put, List.setIfInBounds_toArray, List.set_cons_zero, List.set_cons_succ]
                refine wpAnyH_done (by kernel_rfl) ?_ _
                refine NoPanic.normal ?_
                have HE := Lib.hid (show Knots B ((w3.setCell ⟨kn p, 7, none⟩ (.slice b3 m c3)).setCell ⟨kn x, 6, none⟩ (.pointer none)) n kn _ av pl lab (F.cut x) ∧ OnlyK n kn w _ by simpa only [Nat.zero_add, Nat.add_zero] using HEND.out)
                have HFR := Lib.hid (show FreshK w kv (updV kv p (.slice b3 m c3)) by first | exact fresh_upd hown3 | simpa only [Nat.zero_add, Nat.add_zero] using fresh_upd (kv := kv) (p := p) hown3)
                clear HEND hown2 hgrow2 hown3 hgrow3
                go_wp2
                go_end0
                exact ⟨_, rfl, Lib.hid HE.out.1, Lib.hid HE.out.2, HFR⟩
              exact AllReadyH.nil
            exact AllReadyH.nil
          exact AllReadyH.nil
        exact AllReadyH.nil
      refine AllReadyH.cons (o := { dst := some 28, op := .load 63 (.tmp 27), type := 63, pos := "change.go:102", after := #[{ on := 20, ground := .data }], guard := none }) rfl (fun K hK => ?_) ?_
      · skip
        go_simp
        refine hK.out _ _ ?_ (fun hHeld => ?_)
        · (first | go_keep | exact e10' _ | exact e6' | exact e6)
        clear hK K
        try simp only [Act.put, List.setIfInBounds_toArray, List.set_cons_zero, List.set_cons_succ]
        refine wpAnyH_take (i := 24) (oi := { dst := some 31, op := .slice 63 (.tmp 28) (some (.tmp 30)) none none, type := 63, pos := "change.go:102", after := #[{ on := 21, ground := .data }, { on := 23, ground := .data }], guard := none }) (v := ?_) rfl (by kernel_rfl) (by kernel_rfl) (by kernel_rfl) (fun _ _ _ h => h) (Or.inl ⟨by rfl, ?_⟩) (by assumption) ?_
        rotate_left
        · (intro w hSw; (try dsimp only at hSw); go_simp; try with_reducible rfl)
        try simp only [Act.put, List.setIfInBounds_toArray, List.set_cons_zero, List.set_cons_succ]
        refine wpAnyH_ready (rs := [4]) (by kernel_rfl) (by simp) ?_
        refine AllReadyH.cons (o := { dst := some 11, op := .buildSlice 63 0 #[], type := 63, pos := "change.go:102", after := #[], guard := none }) rfl (fun K hK => ?_) ?_
        · skip
          go_simp
          refine hK.out _ _ ?_ (fun hHeld => ?_)
          · (first | go_keep | exact e10' _ | exact e6' | exact e6)
          clear hK K
          try simp only [Act.put, List.setIfInBounds_toArray, List.set_cons_zero, List.set_cons_succ]
          refine wpAnyH_ready (rs := [14]) (by kernel_rfl) (by simp) ?_
          refine AllReadyH.cons (o := { dst := some 21, op := .call { callee := .builtin .append, args := #[.tmp 11, .tmp 20], argTypes := #[63, 63] }, type := 63, pos := "change.go:102", after := #[{ on := 4, ground := .data }, { on := 13, ground := .data }], guard := none }) rfl (fun K hK => ?_) ?_
          · skip
            refine step_append_reads (by rfl) _ _ _ (by rfl) w.heap.size 66 i0 (.pointer none) 8 Tryz.underlying63 hi hz0 hz1 hz2 rfl (some ⟨w.heap.size, 0, none⟩) 0 0 [] (by rfl) (owns_empty w w.heap.size (Nat.le_refl _) _).drew (some ⟨g, 0, none⟩) m cap (a.map fun y => ptrV (kn y)) (by rfl) (HR1.out.below ((Below.refl _ _).alloc (Nat.le_refl _) _).drew) ptrK_one (by unfold maxLen; omega) (by omega) (by simp) ?_
            intro b2 c2 w2 hown2 hgrow2
            rw [Nat.zero_add, List.nil_append] at hown2
            rw [Nat.zero_add]
            have hbel2 : Below w.heap.size w w2 := (((Below.refl _ _).alloc (Nat.le_refl _) _).drew).grown hgrow2 (by simp) (fun q hq => by simp [Value.ownBlock] at hq; omega)
            have HR2w := HRR.out.below hbel2
            have hszw := hbel2.size
            have e6 := cell_below hbel2 c6
            have e7 := cell_below hbel2 c7
            refine hK.out _ _ ?_ (fun hHeld => ?_)
            · (first | go_keep | exact e10' _ | exact e6' | exact e6)
            clear hK K
            try simp only [Act.put, List.setIfInBounds_toArray, List.set_cons_zero, List.set_cons_succ]
            refine wpAnyH_ready (rs := [25]) (by kernel_rfl) (by simp) ?_
            refine AllReadyH.cons (o := { dst := some 32, op := .call { callee := .builtin .append, args := #[.tmp 21, .tmp 31], argTypes := #[63, 63] }, type := 63, pos := "change.go:102", after := #[{ on := 14, ground := .data }, { on := 24, ground := .data }, { on := 14, ground := .chain }], guard := none }) rfl (fun K hK => ?_) ?_
            · skip
              refine step_append_reads (by rfl) _ _ _ (by rfl) w.heap.size 66 i0 (.pointer none) 8 Tryz.underlying63 hi hz0 hz1 hz2 rfl b2 m c2 (a.map fun y => ptrV (kn y)) (by rfl) hown2 (some ⟨g, 0, none⟩) 0 0 (b.map fun y => ptrV (kn y)) (by rfl) HR2w ptrK_one (by unfold maxLen; omega) (by omega) hszw ?_
              intro b3 c3 w3 hown3 hgrow3
              have hbel3 : Below w.heap.size w w3 := hbel2.grown hgrow3 hbel2.size (fun q hq => (World.ownsRow.lt hown2 q hq).1)
              have e6' := cell_below hbel3 c6
              have e7' := cell_below hbel3 c7
              have e8' : w3.frozen? ⟨kn p, 7, none⟩ = false := ((H.out.below hbel3).node p HX.out.2).free 7
              have e9' : w3.frozen? ⟨kn x, 6, none⟩ = false := ((H.out.below hbel3).node x HX.out.1).free 6
              have e10' : ∀ u, (w3.setCell ⟨kn p, 7, none⟩ u).cell? ⟨kn x, 6, none⟩ = some (.pointer (some ⟨kn p, 0, none⟩)) := fun u => (cell_setCell_far ((H.out.below hbel3).node p HX.out.2) 7 u (p := ⟨kn x, 6, none⟩) (H.out.ne HX.out.1 HX.out.2 (irrK HF.out HL.out))).trans e6'
              have HEND := Lib.hid (cutK_end H.out HF.out HL.out HX.out.2 HX.out.1 hbel3 hown3 (by have := HLEN.out; simp only [List.length_append]; omega) (by simp))
              refine hK.out _ _ ?_ (fun hHeld => ?_)
              · (first | go_keep | exact e10' _ | exact e6' | exact e6)
              clear hK K
              try simp only [Act.put, List.setIfInBounds_toArray, List.set_cons_zero, List.set_cons_succ]
              refine wpAnyH_take (i := 26) (oi := { dst := some 33, op := .nilCheck (.tmp 10), type := 0, pos := "change.go:102", after := #[{ on := 3, ground := .data }, { on := 0, ground := .phase }, { on := 1, ground := .phase }, { on := 2, ground := .phase }, { on := 3, ground := .phase }, { on := 4, ground := .phase }, { on := 5, ground := .phase }, { on := 6, ground := .phase }, { on := 7, ground := .phase }, { on := 8, ground := .phase }, { on := 9, ground := .phase }, { on := 10, ground := .phase }, { on := 11, ground := .phase }, { on := 12, ground := .phase }, { on := 13, ground := .phase }, { on := 14, ground := .phase }, { on := 15, ground := .phase }, { on := 16, ground := .phase }, { on := 17, ground := .phase }, { on := 18, ground := .phase }, { on := 19, ground := .phase }, { on := 20, ground := .phase }, { on := 21, ground := .phase }, { on := 22, ground := .phase }, { on := 23, ground := .phase }, { on := 24, ground := .phase }, { on := 25, ground := .phase }], guard := none }) (v := ?_) rfl (by kernel_rfl) (by kernel_rfl) (by kernel_rfl) (fun _ _ _ h => h) (Or.inl ⟨by rfl, ?_⟩) (by assumption) ?_
              rotate_left
              · (intro w hSw; (try dsimp only at hSw); go_simp; try with_reducible rfl)
              try simp only [Act.put, List.setIfInBounds_toArray, List.set_cons_zero, List.set_cons_succ]
              refine wpAnyH_take (i := 27) (oi := { dst := some 34, op := .fieldAddr 93 (.tmp 33) 3, type := 0, pos := "change.go:102", after := #[{ on := 26, ground := .data }, { on := 0, ground := .phase }, { on := 1, ground := .phase }, { on := 2, ground := .phase }, { on := 3, ground := .phase }, { on := 4, ground := .phase }, { on := 5, ground := .phase }, { on := 6, ground := .phase }, { on := 7, ground := .phase }, { on := 8, ground := .phase }, { on := 9, ground := .phase }, { on := 10, ground := .phase }, { on := 11, ground := .phase }, { on := 12, ground := .phase }, { on := 13, ground := .phase }, { on := 14, ground := .phase }, { on := 15, ground := .phase }, { on := 16, ground := .phase }, { on := 17, ground := .phase }, { on := 18, ground := .phase }, { on := 19, ground := .phase }, { on := 20, ground := .phase }, { on := 21, ground := .phase }, { on := 22, ground := .phase }, { on := 23, ground := .phase }, { on := 24, ground := .phase }, { on := 25, ground := .phase }], guard := none }) (v := ?_) rfl (by kernel_rfl) (by kernel_rfl) (by kernel_rfl) (fun _ _ _ h => h) (Or.inl ⟨by rfl, ?_⟩) (by assumption) ?_
              rotate_left
              · (intro w hSw; (try dsimp only at hSw); go_simp; try with_reducible rfl)
              try simp only [Act.put, List.setIfInBounds_toArray, List.set_cons_zero, List.set_cons_succ]
              refine wpAnyH_ready (rs := [28]) (by kernel_rfl) (by simp) ?_
              refine AllReadyH.cons (o := { dst := none, op := .store 63 (.tmp 34) (.tmp 32), type := 0, pos := "change.go:102", after := #[{ on := 27, ground := .data }, { on := 25, ground := .data }, { on := 25, ground := .chain }, { on := 0, ground := .phase }, { on := 1, ground := .phase }, { on := 2, ground := .phase }, { on := 3, ground := .phase }, { on := 4, ground := .phase }, { on := 5, ground := .phase }, { on := 6, ground := .phase }, { on := 7, ground := .phase }, { on := 8, ground := .phase }, { on := 9, ground := .phase }, { on := 10, ground := .phase }, { on := 11, ground := .phase }, { on := 12, ground := .phase }, { on := 13, ground := .phase }, { on := 14, ground := .phase }, { on := 15, ground := .phase }, { on := 16, ground := .phase }, { on := 17, ground := .phase }, { on := 18, ground := .phase }, { on := 19, ground := .phase }, { on := 20, ground := .phase }, { on := 21, ground := .phase }, { on := 22, ground := .phase }, { on := 23, ground := .phase }, { on := 24, ground := .phase }, { on := 25, ground := .phase }], guard := none }) rfl (fun K hK => ?_) ?_
              · skip
                go_simp
                refine hK.out _ _ ?_ (fun hHeld => ?_)
                · (first | go_keep | exact e10' _ | exact e6' | exact e6)
                clear hK K
                try simp only [Act.put, List.setIfInBounds_toArray, List.set_cons_zero, List.set_cons_succ]
                refine wpAnyH_done (by kernel_rfl) ?_ _
                refine NoPanic.normal ?_
                have HE := Lib.hid (show Knots B ((w3.setCell ⟨kn p, 7, none⟩ (.slice b3 m c3)).setCell ⟨kn x, 6, none⟩ (.pointer none)) n kn _ av pl lab (F.cut x) ∧ OnlyK n kn w _ by simpa only [Nat.zero_add, Nat.add_zero] using HEND.out)
                have HFR := Lib.hid (show FreshK w kv (updV kv p (.slice b3 m c3)) by first | exact fresh_upd hown3 | simpa only [Nat.zero_add, Nat.add_zero] using fresh_upd (kv := kv) (p := p) hown3)
                clear HEND hown2 hgrow2 hown3 hgrow3
                go_wp2
                go_end0
                exact ⟨_, rfl, Lib.hid HE.out.1, Lib.hid HE.out.2, HFR⟩
              exact AllReadyH.nil
            exact AllReadyH.nil
          exact AllReadyH.nil
        exact AllReadyH.nil
      exact AllReadyH.nil
    refine AllReadyH.cons (o := { dst := some 28, op := .load 63 (.tmp 27), type := 63, pos := "change.go:102", after := #[{ on := 20, ground := .data }], guard := none }) rfl (fun K hK => ?_) ?_
    · skip
      go_simp
      refine hK.out _ _ ?_ (fun hHeld => ?_)
      · (first | go_keep | exact e10' _ | exact e6' | exact e6)
      clear hK K
      try simp only [Act.put, List.setIfInBounds_toArray, List.set_cons_zero, List.set_cons_succ]
      refine wpAnyH_take (i := 24) (oi := { dst := some 31, op := .slice 63 (.tmp 28) (some (.tmp 30)) none none, type := 63, pos := "change.go:102", after := #[{ on := 21, ground := .data }, { on := 23, ground := .data }], guard := none }) (v := ?_) rfl (by kernel_rfl) (by kernel_rfl) (by kernel_rfl) (fun _ _ _ h => h) (Or.inl ⟨by rfl, ?_⟩) (by assumption) ?_
      rotate_left
      · (intro w hSw; (try dsimp only at hSw); go_simp; try with_reducible rfl)
      try simp only [Act.put, List.setIfInBounds_toArray, List.set_cons_zero, List.set_cons_succ]
      refine wpAnyH_ready (rs := [4, 11]) (by kernel_rfl) (by simp) ?_
      refine AllReadyH.cons (o := { dst := some 11, op := .buildSlice 63 0 #[], type := 63, pos := "change.go:102", after := #[], guard := none }) rfl (fun K hK => ?_) ?_
      · skip
        go_simp
        refine hK.out _ _ ?_ (fun hHeld => ?_)
        · (first | go_keep | exact e10' _ | exact e6' | exact e6)
        clear hK K
        try simp only [Act.put, List.setIfInBounds_toArray, List.set_cons_zero, List.set_cons_succ]
        refine wpAnyH_ready (rs := [11]) (by kernel_rfl) (by simp) ?_
        refine AllReadyH.cons (o := { dst := some 18, op := .load 63 (.tmp 17), type := 63, pos := "change.go:102", after := #[{ on := 10, ground := .data }], guard := none }) rfl (fun K hK => ?_) ?_
        · skip
          go_simp
          refine hK.out _ _ ?_ (fun hHeld => ?_)
          · (first | go_keep | exact e10' _ | exact e6' | exact e6)
          clear hK K
          try simp only [Act.put, List.setIfInBounds_toArray, List.set_cons_zero, List.set_cons_succ]
          refine wpAnyH_take (i := 13) (oi := { dst := some 20, op := .slice 63 (.tmp 18) none (some (.tmp 19)) none, type := 63, pos := "change.go:102", after := #[{ on := 11, ground := .data }, { on := 12, ground := .data }], guard := none }) (v := ?_) rfl (by kernel_rfl) (by kernel_rfl) (by kernel_rfl) (fun _ _ _ h => h) (Or.inl ⟨by rfl, ?_⟩) (by assumption) ?_
          rotate_left
          · (intro w hSw; (try dsimp only at hSw); go_simp; try with_reducible rfl)
          try simp only [Act.put, List.setIfInBounds_toArray, List.set_cons_zero, List.set_cons_succ]
          refine wpAnyH_ready (rs := [14]) (by kernel_rfl) (by simp) ?_
          refine AllReadyH.cons (o := { dst := some 21, op := .call { callee := .builtin .append, args := #[.tmp 11, .tmp 20], argTypes := #[63, 63] }, type := 63, pos := "change.go:102", after := #[{ on := 4, ground := .data }, { on := 13, ground := .data }], guard := none }) rfl (fun K hK => ?_) ?_
          · skip
            refine step_append_reads (by rfl) _ _ _ (by rfl) w.heap.size 66 i0 (.pointer none) 8 Tryz.underlying63 hi hz0 hz1 hz2 rfl (some ⟨w.heap.size, 0, none⟩) 0 0 [] (by rfl) (owns_empty w w.heap.size (Nat.le_refl _) _).drew (some ⟨g, 0, none⟩) m cap (a.map fun y => ptrV (kn y)) (by rfl) (HR1.out.below ((Below.refl _ _).alloc (Nat.le_refl _) _).drew) ptrK_one (by unfold maxLen; omega) (by omega) (by simp) ?_
            intro b2 c2 w2 hown2 hgrow2
            rw [Nat.zero_add, List.nil_append] at hown2
            rw [Nat.zero_add]
            have hbel2 : Below w.heap.size w w2 := (((Below.refl _ _).alloc (Nat.le_refl _) _).drew).grown hgrow2 (by simp) (fun q hq => by simp [Value.ownBlock] at hq; omega)
            have HR2w := HRR.out.below hbel2
            have hszw := hbel2.size
            have e6 := cell_below hbel2 c6
            have e7 := cell_below hbel2 c7
            refine hK.out _ _ ?_ (fun hHeld => ?_)
            · (first | go_keep | exact e10' _ | exact e6' | exact e6)
            clear hK K
            try simp only [Act.put, List.setIfInBounds_toArray, List.set_cons_zero, List.set_cons_succ]
            refine wpAnyH_ready (rs := [25]) (by kernel_rfl) (by simp) ?_
            refine AllReadyH.cons (o := { dst := some 32, op := .call { callee := .builtin .append, args := #[.tmp 21, .tmp 31], argTypes := #[63, 63] }, type := 63, pos := "change.go:102", after := #[{ on := 14, ground := .data }, { on := 24, ground := .data }, { on := 14, ground := .chain }], guard := none }) rfl (fun K hK => ?_) ?_
            · skip
              refine step_append_reads (by rfl) _ _ _ (by rfl) w.heap.size 66 i0 (.pointer none) 8 Tryz.underlying63 hi hz0 hz1 hz2 rfl b2 m c2 (a.map fun y => ptrV (kn y)) (by rfl) hown2 (some ⟨g, 0, none⟩) 0 0 (b.map fun y => ptrV (kn y)) (by rfl) HR2w ptrK_one (by unfold maxLen; omega) (by omega) hszw ?_
              intro b3 c3 w3 hown3 hgrow3
              have hbel3 : Below w.heap.size w w3 := hbel2.grown hgrow3 hbel2.size (fun q hq => (World.ownsRow.lt hown2 q hq).1)
              have e6' := cell_below hbel3 c6
              have e7' := cell_below hbel3 c7
              have e8' : w3.frozen? ⟨kn p, 7, none⟩ = false := ((H.out.below hbel3).node p HX.out.2).free 7
              have e9' : w3.frozen? ⟨kn x, 6, none⟩ = false := ((H.out.below hbel3).node x HX.out.1).free 6
              have e10' : ∀ u, (w3.setCell ⟨kn p, 7, none⟩ u).cell? ⟨kn x, 6, none⟩ = some (.pointer (some ⟨kn p, 0, none⟩)) := fun u => (cell_setCell_far ((H.out.below hbel3).node p HX.out.2) 7 u (p := ⟨kn x, 6, none⟩) (H.out.ne HX.out.1 HX.out.2 (irrK HF.out HL.out))).trans e6'
              have HEND := Lib.hid (cutK_end H.out HF.out HL.out HX.out.2 HX.out.1 hbel3 hown3 (by have := HLEN.out; simp only [List.length_append]; omega) (by simp))
              refine hK.out _ _ ?_ (fun hHeld => ?_)
              · (first | go_keep | exact e10' _ | exact e6' | exact e6)
              clear hK K
              try simp only [Act.put, List.setIfInBounds_toArray, List.set_cons_zero, List.set_cons_succ]
              refine wpAnyH_take (i := 26) (oi := { dst := some 33, op := .nilCheck (.tmp 10), type := 0, pos := "change.go:102", after := #[{ on := 3, ground := .data }, { on := 0, ground := .phase }, { on := 1, ground := .phase }, { on := 2, ground := .phase }, { on := 3, ground := .phase }, { on := 4, ground := .phase }, { on := 5, ground := .phase }, { on := 6, ground := .phase }, { on := 7, ground := .phase }, { on := 8, ground := .phase }, { on := 9, ground := .phase }, { on := 10, ground := .phase }, { on := 11, ground := .phase }, { on := 12, ground := .phase }, { on := 13, ground := .phase }, { on := 14, ground := .phase }, { on := 15, ground := .phase }, { on := 16, ground := .phase }, { on := 17, ground := .phase }, { on := 18, ground := .phase }, { on := 19, ground := .phase }, { on := 20, ground := .phase }, { on := 21, ground := .phase }, { on := 22, ground := .phase }, { on := 23, ground := .phase }, { on := 24, ground := .phase }, { on := 25, ground := .phase }], guard := none }) (v := ?_) rfl (by kernel_rfl) (by kernel_rfl) (by kernel_rfl) (fun _ _ _ h => h) (Or.inl ⟨by rfl, ?_⟩) (by assumption) ?_
              rotate_left
              · (intro w hSw; (try dsimp only at hSw); go_simp; try with_reducible rfl)
              try simp only [Act.put, List.setIfInBounds_toArray, List.set_cons_zero, List.set_cons_succ]
              refine wpAnyH_take (i := 27) (oi := { dst := some 34, op := .fieldAddr 93 (.tmp 33) 3, type := 0, pos := "change.go:102", after := #[{ on := 26, ground := .data }, { on := 0, ground := .phase }, { on := 1, ground := .phase }, { on := 2, ground := .phase }, { on := 3, ground := .phase }, { on := 4, ground := .phase }, { on := 5, ground := .phase }, { on := 6, ground := .phase }, { on := 7, ground := .phase }, { on := 8, ground := .phase }, { on := 9, ground := .phase }, { on := 10, ground := .phase }, { on := 11, ground := .phase }, { on := 12, ground := .phase }, { on := 13, ground := .phase }, { on := 14, ground := .phase }, { on := 15, ground := .phase }, { on := 16, ground := .phase }, { on := 17, ground := .phase }, { on := 18, ground := .phase }, { on := 19, ground := .phase }, { on := 20, ground := .phase }, { on := 21, ground := .phase }, { on := 22, ground := .phase }, { on := 23, ground := .phase }, { on := 24, ground := .phase }, { on := 25, ground := .phase }], guard := none }) (v := ?_) rfl (by kernel_rfl) (by kernel_rfl) (by kernel_rfl) (fun _ _ _ h => h) (Or.inl ⟨by rfl, ?_⟩) (by assumption) ?_
              rotate_left
              · (intro w hSw; (try dsimp only at hSw); go_simp; try with_reducible rfl)
              try simp only [Act.put, List.setIfInBounds_toArray, List.set_cons_zero, List.set_cons_succ]
              refine wpAnyH_ready (rs := [28]) (by kernel_rfl) (by simp) ?_
              refine AllReadyH.cons (o := { dst := none, op := .store 63 (.tmp 34) (.tmp 32), type := 0, pos := "change.go:102", after := #[{ on := 27, ground := .data }, { on := 25, ground := .data }, { on := 25, ground := .chain }, { on := 0, ground := .phase }, { on := 1, ground := .phase }, { on := 2, ground := .phase }, { on := 3, ground := .phase }, { on := 4, ground := .phase }, { on := 5, ground := .phase }, { on := 6, ground := .phase }, { on := 7, ground := .phase }, { on := 8, ground := .phase }, { on := 9, ground := .phase }, { on := 10, ground := .phase }, { on := 11, ground := .phase }, { on := 12, ground := .phase }, { on := 13, ground := .phase }, { on := 14, ground := .phase }, { on := 15, ground := .phase }, { on := 16, ground := .phase }, { on := 17, ground := .phase }, { on := 18, ground := .phase }, { on := 19, ground := .phase }, { on := 20, ground := .phase }, { on := 21, ground := .phase }, { on := 22, ground := .phase }, { on := 23, ground := .phase }, { on := 24, ground := .phase }, { on := 25, ground := .phase }], guard := none }) rfl (fun K hK => ?_) ?_
              · skip
                go_simp
                refine hK.out _ _ ?_ (fun hHeld => ?_)
                · (first | go_keep | exact e10' _ | exact e6' | exact e6)
                clear hK K
                try simp only [Act.put, List.setIfInBounds_toArray, List.set_cons_zero, List.set_cons_succ]
                refine wpAnyH_done (by kernel_rfl) ?_ _
                refine NoPanic.normal ?_
                have HE := Lib.hid (show Knots B ((w3.setCell ⟨kn p, 7, none⟩ (.slice b3 m c3)).setCell ⟨kn x, 6, none⟩ (.pointer none)) n kn _ av pl lab (F.cut x) ∧ OnlyK n kn w _ by simpa only [Nat.zero_add, Nat.add_zero] using HEND.out)
                have HFR := Lib.hid (show FreshK w kv (updV kv p (.slice b3 m c3)) by first | exact fresh_upd hown3 | simpa only [Nat.zero_add, Nat.add_zero] using fresh_upd (kv := kv) (p := p) hown3)
                clear HEND hown2 hgrow2 hown3 hgrow3
                go_wp2
                go_end0
                exact ⟨_, rfl, Lib.hid HE.out.1, Lib.hid HE.out.2, HFR⟩
              exact AllReadyH.nil
            exact AllReadyH.nil
          exact AllReadyH.nil
        exact AllReadyH.nil
      refine AllReadyH.cons (o := { dst := some 18, op := .load 63 (.tmp 17), type := 63, pos := "change.go:102", after := #[{ on := 10, ground := .data }], guard := none }) rfl (fun K hK => ?_) ?_
      · skip
        go_simp
        refine hK.out _ _ ?_ (fun hHeld => ?_)
        · (first | go_keep | exact e10' _ | exact e6' | exact e6)
        clear hK K
        try simp only [Act.put, List.setIfInBounds_toArray, List.set_cons_zero, List.set_cons_succ]
        refine wpAnyH_take (i := 13) (oi := { dst := some 20, op := .slice 63 (.tmp 18) none (some (.tmp 19)) none, type := 63, pos := "change.go:102", after := #[{ on := 11, ground := .data }, { on := 12, ground := .data }], guard := none }) (v := ?_) rfl (by kernel_rfl) (by kernel_rfl) (by kernel_rfl) (fun _ _ _ h => h) (Or.inl ⟨by rfl, ?_⟩) (by assumption) ?_
        rotate_left
        · (intro w hSw; (try dsimp only at hSw); go_simp; try with_reducible rfl)
        try simp only [Act.put, List.setIfInBounds_toArray, List.set_cons_zero, List.set_cons_succ]
        refine wpAnyH_ready (rs := [4]) (by kernel_rfl) (by simp) ?_
        refine AllReadyH.cons (o := { dst := some 11, op := .buildSlice 63 0 #[], type := 63, pos := "change.go:102", after := #[], guard := none }) rfl (fun K hK => ?_) ?_
        · skip
          go_simp
          refine hK.out _ _ ?_ (fun hHeld => ?_)
          · (first | go_keep | exact e10' _ | exact e6' | exact e6)
          clear hK K
          try simp only [Act.put, List.setIfInBounds_toArray, List.set_cons_zero, List.set_cons_succ]
          refine wpAnyH_ready (rs := [14]) (by kernel_rfl) (by simp) ?_
          refine AllReadyH.cons (o := { dst := some 21, op := .call { callee := .builtin .append, args := #[.tmp 11, .tmp 20], argTypes := #[63, 63] }, type := 63, pos := "change.go:102", after := #[{ on := 4, ground := .data }, { on := 13, ground := .data }], guard := none }) rfl (fun K hK => ?_) ?_
          · skip
            refine step_append_reads (by rfl) _ _ _ (by rfl) w.heap.size 66 i0 (.pointer none) 8 Tryz.underlying63 hi hz0 hz1 hz2 rfl (some ⟨w.heap.size, 0, none⟩) 0 0 [] (by rfl) (owns_empty w w.heap.size (Nat.le_refl _) _).drew (some ⟨g, 0, none⟩) m cap (a.map fun y => ptrV (kn y)) (by rfl) (HR1.out.below ((Below.refl _ _).alloc (Nat.le_refl _) _).drew) ptrK_one (by unfold maxLen; omega) (by omega) (by simp) ?_
            intro b2 c2 w2 hown2 hgrow2
            rw [Nat.zero_add, List.nil_append] at hown2
            rw [Nat.zero_add]
            have hbel2 : Below w.heap.size w w2 := (((Below.refl _ _).alloc (Nat.le_refl _) _).drew).grown hgrow2 (by simp) (fun q hq => by simp [Value.ownBlock] at hq; omega)
            have HR2w := HRR.out.below hbel2
            have hszw := hbel2.size
            have e6 := cell_below hbel2 c6
            have e7 := cell_below hbel2 c7
            refine hK.out _ _ ?_ (fun hHeld => ?_)
            · (first | go_keep | exact e10' _ | exact e6' | exact e6)
            clear hK K
            try simp only [Act.put, List.setIfInBounds_toArray, List.set_cons_zero, List.set_cons_succ]
            refine wpAnyH_ready (rs := [25]) (by kernel_rfl) (by simp) ?_
            refine AllReadyH.cons (o := { dst := some 32, op := .call { callee := .builtin .append, args := #[.tmp 21, .tmp 31], argTypes := #[63, 63] }, type := 63, pos := "change.go:102", after := #[{ on := 14, ground := .data }, { on := 24, ground := .data }, { on := 14, ground := .chain }], guard := none }) rfl (fun K hK => ?_) ?_
            · skip
              refine step_append_reads (by rfl) _ _ _ (by rfl) w.heap.size 66 i0 (.pointer none) 8 Tryz.underlying63 hi hz0 hz1 hz2 rfl b2 m c2 (a.map fun y => ptrV (kn y)) (by rfl) hown2 (some ⟨g, 0, none⟩) 0 0 (b.map fun y => ptrV (kn y)) (by rfl) HR2w ptrK_one (by unfold maxLen; omega) (by omega) hszw ?_
              intro b3 c3 w3 hown3 hgrow3
              have hbel3 : Below w.heap.size w w3 := hbel2.grown hgrow3 hbel2.size (fun q hq => (World.ownsRow.lt hown2 q hq).1)
              have e6' := cell_below hbel3 c6
              have e7' := cell_below hbel3 c7
              have e8' : w3.frozen? ⟨kn p, 7, none⟩ = false := ((H.out.below hbel3).node p HX.out.2).free 7
              have e9' : w3.frozen? ⟨kn x, 6, none⟩ = false := ((H.out.below hbel3).node x HX.out.1).free 6
              have e10' : ∀ u, (w3.setCell ⟨kn p, 7, none⟩ u).cell? ⟨kn x, 6, none⟩ = some (.pointer (some ⟨kn p, 0, none⟩)) := fun u => (cell_setCell_far ((H.out.below hbel3).node p HX.out.2) 7 u (p := ⟨kn x, 6, none⟩) (H.out.ne HX.out.1 HX.out.2 (irrK HF.out HL.out))).trans e6'
              have HEND := Lib.hid (cutK_end H.out HF.out HL.out HX.out.2 HX.out.1 hbel3 hown3 (by have := HLEN.out; simp only [List.length_append]; omega) (by simp))
              refine hK.out _ _ ?_ (fun hHeld => ?_)
              · (first | go_keep | exact e10' _ | exact e6' | exact e6)
              clear hK K
              try simp only [Act.put, List.setIfInBounds_toArray, List.set_cons_zero, List.set_cons_succ]
              refine wpAnyH_take (i := 26) (oi := { dst := some 33, op := .nilCheck (.tmp 10), type := 0, pos := "change.go:102", after := #[{ on := 3, ground := .data }, { on := 0, ground := .phase }, { on := 1, ground := .phase }, { on := 2, ground := .phase }, { on := 3, ground := .phase }, { on := 4, ground := .phase }, { on := 5, ground := .phase }, { on := 6, ground := .phase }, { on := 7, ground := .phase }, { on := 8, ground := .phase }, { on := 9, ground := .phase }, { on := 10, ground := .phase }, { on := 11, ground := .phase }, { on := 12, ground := .phase }, { on := 13, ground := .phase }, { on := 14, ground := .phase }, { on := 15, ground := .phase }, { on := 16, ground := .phase }, { on := 17, ground := .phase }, { on := 18, ground := .phase }, { on := 19, ground := .phase }, { on := 20, ground := .phase }, { on := 21, ground := .phase }, { on := 22, ground := .phase }, { on := 23, ground := .phase }, { on := 24, ground := .phase }, { on := 25, ground := .phase }], guard := none }) (v := ?_) rfl (by kernel_rfl) (by kernel_rfl) (by kernel_rfl) (fun _ _ _ h => h) (Or.inl ⟨by rfl, ?_⟩) (by assumption) ?_
              rotate_left
              · (intro w hSw; (try dsimp only at hSw); go_simp; try with_reducible rfl)
              try simp only [Act.put, List.setIfInBounds_toArray, List.set_cons_zero, List.set_cons_succ]
              refine wpAnyH_take (i := 27) (oi := { dst := some 34, op := .fieldAddr 93 (.tmp 33) 3, type := 0, pos := "change.go:102", after := #[{ on := 26, ground := .data }, { on := 0, ground := .phase }, { on := 1, ground := .phase }, { on := 2, ground := .phase }, { on := 3, ground := .phase }, { on := 4, ground := .phase }, { on := 5, ground := .phase }, { on := 6, ground := .phase }, { on := 7, ground := .phase }, { on := 8, ground := .phase }, { on := 9, ground := .phase }, { on := 10, ground := .phase }, { on := 11, ground := .phase }, { on := 12, ground := .phase }, { on := 13, ground := .phase }, { on := 14, ground := .phase }, { on := 15, ground := .phase }, { on := 16, ground := .phase }, { on := 17, ground := .phase }, { on := 18, ground := .phase }, { on := 19, ground := .phase }, { on := 20, ground := .phase }, { on := 21, ground := .phase }, { on := 22, ground := .phase }, { on := 23, ground := .phase }, { on := 24, ground := .phase }, { on := 25, ground := .phase }], guard := none }) (v := ?_) rfl (by kernel_rfl) (by kernel_rfl) (by kernel_rfl) (fun _ _ _ h => h) (Or.inl ⟨by rfl, ?_⟩) (by assumption) ?_
              rotate_left
              · (intro w hSw; (try dsimp only at hSw); go_simp; try with_reducible rfl)
              try simp only [Act.put, List.setIfInBounds_toArray, List.set_cons_zero, List.set_cons_succ]
              refine wpAnyH_ready (rs := [28]) (by kernel_rfl) (by simp) ?_
              refine AllReadyH.cons (o := { dst := none, op := .store 63 (.tmp 34) (.tmp 32), type := 0, pos := "change.go:102", after := #[{ on := 27, ground := .data }, { on := 25, ground := .data }, { on := 25, ground := .chain }, { on := 0, ground := .phase }, { on := 1, ground := .phase }, { on := 2, ground := .phase }, { on := 3, ground := .phase }, { on := 4, ground := .phase }, { on := 5, ground := .phase }, { on := 6, ground := .phase }, { on := 7, ground := .phase }, { on := 8, ground := .phase }, { on := 9, ground := .phase }, { on := 10, ground := .phase }, { on := 11, ground := .phase }, { on := 12, ground := .phase }, { on := 13, ground := .phase }, { on := 14, ground := .phase }, { on := 15, ground := .phase }, { on := 16, ground := .phase }, { on := 17, ground := .phase }, { on := 18, ground := .phase }, { on := 19, ground := .phase }, { on := 20, ground := .phase }, { on := 21, ground := .phase }, { on := 22, ground := .phase }, { on := 23, ground := .phase }, { on := 24, ground := .phase }, { on := 25, ground := .phase }], guard := none }) rfl (fun K hK => ?_) ?_
              · skip
                go_simp
                refine hK.out _ _ ?_ (fun hHeld => ?_)
                · (first | go_keep | exact e10' _ | exact e6' | exact e6)
                clear hK K
                try simp only [Act.put, List.setIfInBounds_toArray, List.set_cons_zero, List.set_cons_succ]
                refine wpAnyH_done (by kernel_rfl) ?_ _
                refine NoPanic.normal ?_
                have HE := Lib.hid (show Knots B ((w3.setCell ⟨kn p, 7, none⟩ (.slice b3 m c3)).setCell ⟨kn x, 6, none⟩ (.pointer none)) n kn _ av pl lab (F.cut x) ∧ OnlyK n kn w _ by simpa only [Nat.zero_add, Nat.add_zero] using HEND.out)
                have HFR := Lib.hid (show FreshK w kv (updV kv p (.slice b3 m c3)) by first | exact fresh_upd hown3 | simpa only [Nat.zero_add, Nat.add_zero] using fresh_upd (kv := kv) (p := p) hown3)
                clear HEND hown2 hgrow2 hown3 hgrow3
                go_wp2
                go_end0
                exact ⟨_, rfl, Lib.hid HE.out.1, Lib.hid HE.out.2, HFR⟩
              exact AllReadyH.nil
            exact AllReadyH.nil
          exact AllReadyH.nil
        exact AllReadyH.nil
      exact AllReadyH.nil
    exact AllReadyH.nil
  · have hcm2 : ¬ k1 = cap := fun e => hcm1 e.symm
    have HRR := Lib.hid (show Row w (some ⟨g, k1, none⟩) (L - k1) (b.map fun y => ptrV (kn y)) by have := HR2.out; rwa [Nat.zero_add] at this)
    refine wp_region_noPanic ?_
    refine wp_region_held_drew (S := fun w' => w'.cell? ⟨kn x, 6, none⟩ = some (.pointer (some ⟨kn p, 0, none⟩))) (by kernel_rfl) ?_ (fun hHeld => ?_)
    · go_keep
    refine wpAnyH_take (i := 0) (oi := { dst := some 7, op := .move (.tmp 0), type := 66, pos := "change.go:102", after := #[], guard := none }) (v := ?_) rfl (by kernel_rfl) (by kernel_rfl) (by kernel_rfl) (fun _ _ _ h => h) (Or.inl ⟨by rfl, ?_⟩) (by assumption) ?_
    rotate_left
    · (intro w hSw; (try dsimp only at hSw); go_simp; try with_reducible rfl)
    try simp only [Act.put, List.setIfInBounds_toArray, List.set_cons_zero, List.set_cons_succ]
    refine wpAnyH_take (i := 1) (oi := { dst := some 8, op := .nilCheck (.tmp 7), type := 0, pos := "change.go:102", after := #[{ on := 0, ground := .data }], guard := none }) (v := ?_) rfl (by kernel_rfl) (by kernel_rfl) (by kernel_rfl) (fun _ _ _ h => h) (Or.inl ⟨by rfl, ?_⟩) (by assumption) ?_
    rotate_left
    · (intro w hSw; (try dsimp only at hSw); go_simp; try with_reducible rfl)
    try simp only [Act.put, List.setIfInBounds_toArray, List.set_cons_zero, List.set_cons_succ]
    refine wpAnyH_take (i := 2) (oi := { dst := some 9, op := .fieldAddr 93 (.tmp 8) 2, type := 0, pos := "change.go:102", after := #[{ on := 1, ground := .data }], guard := none }) (v := ?_) rfl (by kernel_rfl) (by kernel_rfl) (by kernel_rfl) (fun _ _ _ h => h) (Or.inl ⟨by rfl, ?_⟩) (by assumption) ?_
    rotate_left
    · (intro w hSw; (try dsimp only at hSw); go_simp; try with_reducible rfl)
    try simp only [Act.put, List.setIfInBounds_toArray, List.set_cons_zero, List.set_cons_succ]
    refine wpAnyH_take (i := 3) (oi := { dst := some 10, op := .load 66 (.tmp 9), type := 66, pos := "change.go:102", after := #[{ on := 2, ground := .data }], guard := none }) (v := ?_) rfl (by kernel_rfl) (by kernel_rfl) (by kernel_rfl) (fun _ _ _ h => h) (Or.inl ⟨by rfl, ?_⟩) (by assumption) ?_
    rotate_left
    · (intro w hSw; (try dsimp only at hSw); go_simp; try with_reducible rfl)
    try simp only [Act.put, List.setIfInBounds_toArray, List.set_cons_zero, List.set_cons_succ]
    refine wpAnyH_take (i := 5) (oi := { dst := some 12, op := .move (.tmp 0), type := 66, pos := "change.go:102", after := #[], guard := none }) (v := ?_) rfl (by kernel_rfl) (by kernel_rfl) (by kernel_rfl) (fun _ _ _ h => h) (Or.inl ⟨by rfl, ?_⟩) (by assumption) ?_
    rotate_left
    · (intro w hSw; (try dsimp only at hSw); go_simp; try with_reducible rfl)
    try simp only [Act.put, List.setIfInBounds_toArray, List.set_cons_zero, List.set_cons_succ]
    refine wpAnyH_take (i := 6) (oi := { dst := some 13, op := .nilCheck (.tmp 12), type := 0, pos := "change.go:102", after := #[{ on := 5, ground := .data }], guard := none }) (v := ?_) rfl (by kernel_rfl) (by kernel_rfl) (by kernel_rfl) (fun _ _ _ h => h) (Or.inl ⟨by rfl, ?_⟩) (by assumption) ?_
    rotate_left
    · (intro w hSw; (try dsimp only at hSw); go_simp; try with_reducible rfl)
    try simp only [Act.put, List.setIfInBounds_toArray, List.set_cons_zero, List.set_cons_succ]
    refine wpAnyH_take (i := 7) (oi := { dst := some 14, op := .fieldAddr 93 (.tmp 13) 2, type := 0, pos := "change.go:102", after := #[{ on := 6, ground := .data }], guard := none }) (v := ?_) rfl (by kernel_rfl) (by kernel_rfl) (by kernel_rfl) (fun _ _ _ h => h) (Or.inl ⟨by rfl, ?_⟩) (by assumption) ?_
    rotate_left
    · (intro w hSw; (try dsimp only at hSw); go_simp; try with_reducible rfl)
    try simp only [Act.put, List.setIfInBounds_toArray, List.set_cons_zero, List.set_cons_succ]
    refine wpAnyH_take (i := 8) (oi := { dst := some 15, op := .load 66 (.tmp 14), type := 66, pos := "change.go:102", after := #[{ on := 7, ground := .data }], guard := none }) (v := ?_) rfl (by kernel_rfl) (by kernel_rfl) (by kernel_rfl) (fun _ _ _ h => h) (Or.inl ⟨by rfl, ?_⟩) (by assumption) ?_
    rotate_left
    · (intro w hSw; (try dsimp only at hSw); go_simp; try with_reducible rfl)
    try simp only [Act.put, List.setIfInBounds_toArray, List.set_cons_zero, List.set_cons_succ]
    refine wpAnyH_take (i := 9) (oi := { dst := some 16, op := .nilCheck (.tmp 15), type := 0, pos := "change.go:102", after := #[{ on := 8, ground := .data }], guard := none }) (v := ?_) rfl (by kernel_rfl) (by kernel_rfl) (by kernel_rfl) (fun _ _ _ h => h) (Or.inl ⟨by rfl, ?_⟩) (by assumption) ?_
    rotate_left
    · (intro w hSw; (try dsimp only at hSw); go_simp; try with_reducible rfl)
    try simp only [Act.put, List.setIfInBounds_toArray, List.set_cons_zero, List.set_cons_succ]
    refine wpAnyH_take (i := 10) (oi := { dst := some 17, op := .fieldAddr 93 (.tmp 16) 3, type := 0, pos := "change.go:102", after := #[{ on := 9, ground := .data }], guard := none }) (v := ?_) rfl (by kernel_rfl) (by kernel_rfl) (by kernel_rfl) (fun _ _ _ h => h) (Or.inl ⟨by rfl, ?_⟩) (by assumption) ?_
    rotate_left
    · (intro w hSw; (try dsimp only at hSw); go_simp; try with_reducible rfl)
    try simp only [Act.put, List.setIfInBounds_toArray, List.set_cons_zero, List.set_cons_succ]
    refine wpAnyH_take (i := 12) (oi := { dst := some 19, op := .move (.tmp 2), type := 3, pos := "change.go:102", after := #[], guard := none }) (v := ?_) rfl (by kernel_rfl) (by kernel_rfl) (by kernel_rfl) (fun _ _ _ h => h) (Or.inl ⟨by rfl, ?_⟩) (by assumption) ?_
    rotate_left
    · (intro w hSw; (try dsimp only at hSw); go_simp; try with_reducible rfl)
    try simp only [Act.put, List.setIfInBounds_toArray, List.set_cons_zero, List.set_cons_succ]
    refine wpAnyH_take (i := 15) (oi := { dst := some 22, op := .move (.tmp 0), type := 66, pos := "change.go:102", after := #[], guard := none }) (v := ?_) rfl (by kernel_rfl) (by kernel_rfl) (by kernel_rfl) (fun _ _ _ h => h) (Or.inl ⟨by rfl, ?_⟩) (by assumption) ?_
    rotate_left
    · (intro w hSw; (try dsimp only at hSw); go_simp; try with_reducible rfl)
    try simp only [Act.put, List.setIfInBounds_toArray, List.set_cons_zero, List.set_cons_succ]
    refine wpAnyH_take (i := 16) (oi := { dst := some 23, op := .nilCheck (.tmp 22), type := 0, pos := "change.go:102", after := #[{ on := 15, ground := .data }], guard := none }) (v := ?_) rfl (by kernel_rfl) (by kernel_rfl) (by kernel_rfl) (fun _ _ _ h => h) (Or.inl ⟨by rfl, ?_⟩) (by assumption) ?_
    rotate_left
    · (intro w hSw; (try dsimp only at hSw); go_simp; try with_reducible rfl)
    try simp only [Act.put, List.setIfInBounds_toArray, List.set_cons_zero, List.set_cons_succ]
    refine wpAnyH_take (i := 17) (oi := { dst := some 24, op := .fieldAddr 93 (.tmp 23) 2, type := 0, pos := "change.go:102", after := #[{ on := 16, ground := .data }], guard := none }) (v := ?_) rfl (by kernel_rfl) (by kernel_rfl) (by kernel_rfl) (fun _ _ _ h => h) (Or.inl ⟨by rfl, ?_⟩) (by assumption) ?_
    rotate_left
    · (intro w hSw; (try dsimp only at hSw); go_simp; try with_reducible rfl)
    try simp only [Act.put, List.setIfInBounds_toArray, List.set_cons_zero, List.set_cons_succ]
    refine wpAnyH_take (i := 18) (oi := { dst := some 25, op := .load 66 (.tmp 24), type := 66, pos := "change.go:102", after := #[{ on := 17, ground := .data }], guard := none }) (v := ?_) rfl (by kernel_rfl) (by kernel_rfl) (by kernel_rfl) (fun _ _ _ h => h) (Or.inl ⟨by rfl, ?_⟩) (by assumption) ?_
    rotate_left
    · (intro w hSw; (try dsimp only at hSw); go_simp; try with_reducible rfl)
    try simp only [Act.put, List.setIfInBounds_toArray, List.set_cons_zero, List.set_cons_succ]
    refine wpAnyH_take (i := 19) (oi := { dst := some 26, op := .nilCheck (.tmp 25), type := 0, pos := "change.go:102", after := #[{ on := 18, ground := .data }], guard := none }) (v := ?_) rfl (by kernel_rfl) (by kernel_rfl) (by kernel_rfl) (fun _ _ _ h => h) (Or.inl ⟨by rfl, ?_⟩) (by assumption) ?_
    rotate_left
    · (intro w hSw; (try dsimp only at hSw); go_simp; try with_reducible rfl)
    try simp only [Act.put, List.setIfInBounds_toArray, List.set_cons_zero, List.set_cons_succ]
    refine wpAnyH_take (i := 20) (oi := { dst := some 27, op := .fieldAddr 93 (.tmp 26) 3, type := 0, pos := "change.go:102", after := #[{ on := 19, ground := .data }], guard := none }) (v := ?_) rfl (by kernel_rfl) (by kernel_rfl) (by kernel_rfl) (fun _ _ _ h => h) (Or.inl ⟨by rfl, ?_⟩) (by assumption) ?_
    rotate_left
    · (intro w hSw; (try dsimp only at hSw); go_simp; try with_reducible rfl)
    try simp only [Act.put, List.setIfInBounds_toArray, List.set_cons_zero, List.set_cons_succ]
    refine wpAnyH_take (i := 22) (oi := { dst := some 29, op := .move (.tmp 2), type := 3, pos := "change.go:102", after := #[], guard := none }) (v := ?_) rfl (by kernel_rfl) (by kernel_rfl) (by kernel_rfl) (fun _ _ _ h => h) (Or.inl ⟨by rfl, ?_⟩) (by assumption) ?_
    rotate_left
    · (intro w hSw; (try dsimp only at hSw); go_simp; try with_reducible rfl)
    try simp only [Act.put, List.setIfInBounds_toArray, List.set_cons_zero, List.set_cons_succ]
    refine wpAnyH_take (i := 23) (oi := { dst := some 30, op := .binOp .add 3 (.tmp 29) (.const (.int .i64 1)) 3, type := 3, pos := "change.go:102", after := #[{ on := 22, ground := .data }], guard := none }) (v := ?_) rfl (by kernel_rfl) (by kernel_rfl) (by kernel_rfl) (fun _ _ _ h => h) (Or.inl ⟨by rfl, ?_⟩) (by assumption) ?_
    rotate_left
    · (intro w hSw; (try dsimp only at hSw); go_simp; try with_reducible rfl)
    try simp only [Act.put, List.setIfInBounds_toArray, List.set_cons_zero, List.set_cons_succ]
    refine wpAnyH_ready (rs := [4, 11, 21]) (by kernel_rfl) (by simp) ?_
    refine AllReadyH.cons (o := { dst := some 11, op := .buildSlice 63 0 #[], type := 63, pos := "change.go:102", after := #[], guard := none }) rfl (fun K hK => ?_) ?_
    · skip
      go_simp
      refine hK.out _ _ ?_ (fun hHeld => ?_)
      · (first | go_keep | exact e10' _ | exact e6' | exact e6)
      clear hK K
      try simp only [Act.put, List.setIfInBounds_toArray, List.set_cons_zero, List.set_cons_succ]
      refine wpAnyH_ready (rs := [11, 21]) (by kernel_rfl) (by simp) ?_
      refine AllReadyH.cons (o := { dst := some 18, op := .load 63 (.tmp 17), type := 63, pos := "change.go:102", after := #[{ on := 10, ground := .data }], guard := none }) rfl (fun K hK => ?_) ?_
      · skip
        go_simp
        refine hK.out _ _ ?_ (fun hHeld => ?_)
        · (first | go_keep | exact e10' _ | exact e6' | exact e6)
        clear hK K
        try simp only [Act.put, List.setIfInBounds_toArray, List.set_cons_zero, List.set_cons_succ]
        refine wpAnyH_take (i := 13) (oi := { dst := some 20, op := .slice 63 (.tmp 18) none (some (.tmp 19)) none, type := 63, pos := "change.go:102", after := #[{ on := 11, ground := .data }, { on := 12, ground := .data }], guard := none }) (v := ?_) rfl (by kernel_rfl) (by kernel_rfl) (by kernel_rfl) (fun _ _ _ h => h) (Or.inl ⟨by rfl, ?_⟩) (by assumption) ?_
        rotate_left
        · (intro w hSw; (try dsimp only at hSw); go_simp; try with_reducible rfl)
        try simp only [Act.put, List.setIfInBounds_toArray, List.set_cons_zero, List.set_cons_succ]
        refine wpAnyH_ready (rs := [14, 21]) (by kernel_rfl) (by simp) ?_
        refine AllReadyH.cons (o := { dst := some 21, op := .call { callee := .builtin .append, args := #[.tmp 11, .tmp 20], argTypes := #[63, 63] }, type := 63, pos := "change.go:102", after := #[{ on := 4, ground := .data }, { on := 13, ground := .data }], guard := none }) rfl (fun K hK => ?_) ?_
        · skip
          refine step_append_reads (by rfl) _ _ _ (by rfl) w.heap.size 66 i0 (.pointer none) 8 Tryz.underlying63 hi hz0 hz1 hz2 rfl (some ⟨w.heap.size, 0, none⟩) 0 0 [] (by rfl) (owns_empty w w.heap.size (Nat.le_refl _) _).drew (some ⟨g, 0, none⟩) m cap (a.map fun y => ptrV (kn y)) (by rfl) (HR1.out.below ((Below.refl _ _).alloc (Nat.le_refl _) _).drew) ptrK_one (by unfold maxLen; omega) (by omega) (by simp) ?_
          intro b2 c2 w2 hown2 hgrow2
          rw [Nat.zero_add, List.nil_append] at hown2
          rw [Nat.zero_add]
          have hbel2 : Below w.heap.size w w2 := (((Below.refl _ _).alloc (Nat.le_refl _) _).drew).grown hgrow2 (by simp) (fun q hq => by simp [Value.ownBlock] at hq; omega)
          have HR2w := HRR.out.below hbel2
          have hszw := hbel2.size
          have e6 := cell_below hbel2 c6
          have e7 := cell_below hbel2 c7
          refine hK.out _ _ ?_ (fun hHeld => ?_)
          · (first | go_keep | exact e10' _ | exact e6' | exact e6)
          clear hK K
          try simp only [Act.put, List.setIfInBounds_toArray, List.set_cons_zero, List.set_cons_succ]
          refine wpAnyH_ready (rs := [21]) (by kernel_rfl) (by simp) ?_
          refine AllReadyH.cons (o := { dst := some 28, op := .load 63 (.tmp 27), type := 63, pos := "change.go:102", after := #[{ on := 20, ground := .data }], guard := none }) rfl (fun K hK => ?_) ?_
          · skip
            go_simp
            refine hK.out _ _ ?_ (fun hHeld => ?_)
            · (first | go_keep | exact e10' _ | exact e6' | exact e6)
            clear hK K
            try simp only [Act.put, List.setIfInBounds_toArray, List.set_cons_zero, List.set_cons_succ]
            refine wpAnyH_take (i := 24) (oi := { dst := some 31, op := .slice 63 (.tmp 28) (some (.tmp 30)) none none, type := 63, pos := "change.go:102", after := #[{ on := 21, ground := .data }, { on := 23, ground := .data }], guard := none }) (v := ?_) rfl (by kernel_rfl) (by kernel_rfl) (by kernel_rfl) (fun _ _ _ h => h) (Or.inl ⟨by rfl, ?_⟩) (by assumption) ?_
            rotate_left
            · (intro w hSw; (try dsimp only at hSw); go_simp; try with_reducible rfl)
            try simp only [Act.put, List.setIfInBounds_toArray, List.set_cons_zero, List.set_cons_succ]
            refine wpAnyH_ready (rs := [25]) (by kernel_rfl) (by simp) ?_
            refine AllReadyH.cons (o := { dst := some 32, op := .call { callee := .builtin .append, args := #[.tmp 21, .tmp 31], argTypes := #[63, 63] }, type := 63, pos := "change.go:102", after := #[{ on := 14, ground := .data }, { on := 24, ground := .data }, { on := 14, ground := .chain }], guard := none }) rfl (fun K hK => ?_) ?_
            · skip
              refine step_append_reads (by rfl) _ _ _ (by rfl) w.heap.size 66 i0 (.pointer none) 8 Tryz.underlying63 hi hz0 hz1 hz2 rfl b2 m c2 (a.map fun y => ptrV (kn y)) (by rfl) hown2 (some ⟨g, k1, none⟩) (L - k1) (cap - k1) (b.map fun y => ptrV (kn y)) (by rfl) HR2w ptrK_one (by unfold maxLen; omega) (by omega) hszw ?_
              intro b3 c3 w3 hown3 hgrow3
              have hbel3 : Below w.heap.size w w3 := hbel2.grown hgrow3 hbel2.size (fun q hq => (World.ownsRow.lt hown2 q hq).1)
              have e6' := cell_below hbel3 c6
              have e7' := cell_below hbel3 c7
              have e8' : w3.frozen? ⟨kn p, 7, none⟩ = false := ((H.out.below hbel3).node p HX.out.2).free 7
              have e9' : w3.frozen? ⟨kn x, 6, none⟩ = false := ((H.out.below hbel3).node x HX.out.1).free 6
              have e10' : ∀ u, (w3.setCell ⟨kn p, 7, none⟩ u).cell? ⟨kn x, 6, none⟩ = some (.pointer (some ⟨kn p, 0, none⟩)) := fun u => (cell_setCell_far ((H.out.below hbel3).node p HX.out.2) 7 u (p := ⟨kn x, 6, none⟩) (H.out.ne HX.out.1 HX.out.2 (irrK HF.out HL.out))).trans e6'
              have HEND := Lib.hid (cutK_end H.out HF.out HL.out HX.out.2 HX.out.1 hbel3 hown3 (by have := HLEN.out; simp only [List.length_append]; omega) (by simp))
              refine hK.out _ _ ?_ (fun hHeld => ?_)
              · (first | go_keep | exact e10' _ | exact e6' | exact e6)
              clear hK K
              try simp only [Act.put, List.setIfInBounds_toArray, List.set_cons_zero, List.set_cons_succ]
              refine wpAnyH_take (i := 26) (oi := { dst := some 33, op := .nilCheck (.tmp 10), type := 0, pos := "change.go:102", after := #[{ on := 3, ground := .data }, { on := 0, ground := .phase }, { on := 1, ground := .phase }, { on := 2, ground := .phase }, { on := 3, ground := .phase }, { on := 4, ground := .phase }, { on := 5, ground := .phase }, { on := 6, ground := .phase }, { on := 7, ground := .phase }, { on := 8, ground := .phase }, { on := 9, ground := .phase }, { on := 10, ground := .phase }, { on := 11, ground := .phase }, { on := 12, ground := .phase }, { on := 13, ground := .phase }, { on := 14, ground := .phase }, { on := 15, ground := .phase }, { on := 16, ground := .phase }, { on := 17, ground := .phase }, { on := 18, ground := .phase }, { on := 19, ground := .phase }, { on := 20, ground := .phase }, { on := 21, ground := .phase }, { on := 22, ground := .phase }, { on := 23, ground := .phase }, { on := 24, ground := .phase }, { on := 25, ground := .phase }], guard := none }) (v := ?_) rfl (by kernel_rfl) (by kernel_rfl) (by kernel_rfl) (fun _ _ _ h => h) (Or.inl ⟨by rfl, ?_⟩) (by assumption) ?_
              rotate_left
              · (intro w hSw; (try dsimp only at hSw); go_simp; try with_reducible rfl)
              try simp only [Act.put, List.setIfInBounds_toArray, List.set_cons_zero, List.set_cons_succ]
              refine wpAnyH_take (i := 27) (oi := { dst := some 34, op := .fieldAddr 93 (.tmp 33) 3, type := 0, pos := "change.go:102", after := #[{ on := 26, ground := .data }, { on := 0, ground := .phase }, { on := 1, ground := .phase }, { on := 2, ground := .phase }, { on := 3, ground := .phase }, { on := 4, ground := .phase }, { on := 5, ground := .phase }, { on := 6, ground := .phase }, { on := 7, ground := .phase }, { on := 8, ground := .phase }, { on := 9, ground := .phase }, { on := 10, ground := .phase }, { on := 11, ground := .phase }, { on := 12, ground := .phase }, { on := 13, ground := .phase }, { on := 14, ground := .phase }, { on := 15, ground := .phase }, { on := 16, ground := .phase }, { on := 17, ground := .phase }, { on := 18, ground := .phase }, { on := 19, ground := .phase }, { on := 20, ground := .phase }, { on := 21, ground := .phase }, { on := 22, ground := .phase }, { on := 23, ground := .phase }, { on := 24, ground := .phase }, { on := 25, ground := .phase }], guard := none }) (v := ?_) rfl (by kernel_rfl) (by kernel_rfl) (by kernel_rfl) (fun _ _ _ h => h) (Or.inl ⟨by rfl, ?_⟩) (by assumption) ?_
              rotate_left
              · (intro w hSw; (try dsimp only at hSw); go_simp; try with_reducible rfl)
              try simp only [Act.put, List.setIfInBounds_toArray, List.set_cons_zero, List.set_cons_succ]
              refine wpAnyH_ready (rs := [28]) (by kernel_rfl) (by simp) ?_
              refine AllReadyH.cons (o := { dst := none, op := .store 63 (.tmp 34) (.tmp 32), type := 0, pos := "change.go:102", after := #[{ on := 27, ground := .data }, { on := 25, ground := .data }, { on := 25, ground := .chain }, { on := 0, ground := .phase }, { on := 1, ground := .phase }, { on := 2, ground := .phase }, { on := 3, ground := .phase }, { on := 4, ground := .phase }, { on := 5, ground := .phase }, { on := 6, ground := .phase }, { on := 7, ground := .phase }, { on := 8, ground := .phase }, { on := 9, ground := .phase }, { on := 10, ground := .phase }, { on := 11, ground := .phase }, { on := 12, ground := .phase }, { on := 13, ground := .phase }, { on := 14, ground := .phase }, { on := 15, ground := .phase }, { on := 16, ground := .phase }, { on := 17, ground := .phase }, { on := 18, ground := .phase }, { on := 19, ground := .phase }, { on := 20, ground := .phase }, { on := 21, ground := .phase }, { on := 22, ground := .phase }, { on := 23, ground := .phase }, { on := 24, ground := .phase }, { on := 25, ground := .phase }], guard := none }) rfl (fun K hK => ?_) ?_
              · skip
                go_simp
                refine hK.out _ _ ?_ (fun hHeld => ?_)
                · (first | go_keep | exact e10' _ | exact e6' | exact e6)
                clear hK K
                try simp only [Act.put, List.setIfInBounds_toArray, List.set_cons_zero, List.set_cons_succ]
                refine wpAnyH_done (by kernel_rfl) ?_ _
                refine NoPanic.normal ?_
                have HE := Lib.hid (show Knots B ((w3.setCell ⟨kn p, 7, none⟩ (.slice b3 (m + (L - k1)) c3)).setCell ⟨kn x, 6, none⟩ (.pointer none)) n kn _ av pl lab (F.cut x) ∧ OnlyK n kn w _ by simpa only [Nat.zero_add, Nat.add_zero] using HEND.out)
                have HFR := Lib.hid (show FreshK w kv (updV kv p (.slice b3 (m + (L - k1)) c3)) by first | exact fresh_upd hown3 | simpa only [Nat.zero_add, Nat.add_zero] using fresh_upd (kv := kv) (p := p) hown3)
                clear HEND hown2 hgrow2 hown3 hgrow3
                go_wp2
                go_end0
                exact ⟨_, rfl, Lib.hid HE.out.1, Lib.hid HE.out.2, HFR⟩
              exact AllReadyH.nil
            exact AllReadyH.nil
          exact AllReadyH.nil
        refine AllReadyH.cons (o := { dst := some 28, op := .load 63 (.tmp 27), type := 63, pos := "change.go:102", after := #[{ on := 20, ground := .data }], guard := none }) rfl (fun K hK => ?_) ?_
        · skip
          go_simp
          refine hK.out _ _ ?_ (fun hHeld => ?_)
          · (first | go_keep | exact e10' _ | exact e6' | exact e6)
          clear hK K
          try simp only [Act.put, List.setIfInBounds_toArray, List.set_cons_zero, List.set_cons_succ]
          refine wpAnyH_take (i := 24) (oi := { dst := some 31, op := .slice 63 (.tmp 28) (some (.tmp 30)) none none, type := 63, pos := "change.go:102", after := #[{ on := 21, ground := .data }, { on := 23, ground := .data }], guard := none }) (v := ?_) rfl (by kernel_rfl) (by kernel_rfl) (by kernel_rfl) (fun _ _ _ h => h) (Or.inl ⟨by rfl, ?_⟩) (by assumption) ?_
          rotate_left
          · (intro w hSw; (try dsimp only at hSw); go_simp; try with_reducible rfl)
          try simp only [Act.put, List.setIfInBounds_toArray, List.set_cons_zero, List.set_cons_succ]
          refine wpAnyH_ready (rs := [14]) (by kernel_rfl) (by simp) ?_
          refine AllReadyH.cons (o := { dst := some 21, op := .call { callee := .builtin .append, args := #[.tmp 11, .tmp 20], argTypes := #[63, 63] }, type := 63, pos := "change.go:102", after := #[{ on := 4, ground := .data }, { on := 13, ground := .data }], guard := none }) rfl (fun K hK => ?_) ?_
          · skip
            refine step_append_reads (by rfl) _ _ _ (by rfl) w.heap.size 66 i0 (.pointer none) 8 Tryz.underlying63 hi hz0 hz1 hz2 rfl (some ⟨w.heap.size, 0, none⟩) 0 0 [] (by rfl) (owns_empty w w.heap.size (Nat.le_refl _) _).drew (some ⟨g, 0, none⟩) m cap (a.map fun y => ptrV (kn y)) (by rfl) (HR1.out.below ((Below.refl _ _).alloc (Nat.le_refl _) _).drew) ptrK_one (by unfold maxLen; omega) (by omega) (by simp) ?_
            intro b2 c2 w2 hown2 hgrow2
            rw [Nat.zero_add, List.nil_append] at hown2
            rw [Nat.zero_add]
            have hbel2 : Below w.heap.size w w2 := (((Below.refl _ _).alloc (Nat.le_refl _) _).drew).grown hgrow2 (by simp) (fun q hq => by simp [Value.ownBlock] at hq; omega)
            have HR2w := HRR.out.below hbel2
            have hszw := hbel2.size
            have e6 := cell_below hbel2 c6
            have e7 := cell_below hbel2 c7
            refine hK.out _ _ ?_ (fun hHeld => ?_)
            · (first | go_keep | exact e10' _ | exact e6' | exact e6)
            clear hK K
            try simp only [Act.put, List.setIfInBounds_toArray, List.set_cons_zero, List.set_cons_succ]
            refine wpAnyH_ready (rs := [25]) (by kernel_rfl) (by simp) ?_
            refine AllReadyH.cons (o := { dst := some 32, op := .call { callee := .builtin .append, args := #[.tmp 21, .tmp 31], argTypes := #[63, 63] }, type := 63, pos := "change.go:102", after := #[{ on := 14, ground := .data }, { on := 24, ground := .data }, { on := 14, ground := .chain }], guard := none }) rfl (fun K hK => ?_) ?_
            · skip
              refine step_append_reads (by rfl) _ _ _ (by rfl) w.heap.size 66 i0 (.pointer none) 8 Tryz.underlying63 hi hz0 hz1 hz2 rfl b2 m c2 (a.map fun y => ptrV (kn y)) (by rfl) hown2 (some ⟨g, k1, none⟩) (L - k1) (cap - k1) (b.map fun y => ptrV (kn y)) (by rfl) HR2w ptrK_one (by unfold maxLen; omega) (by omega) hszw ?_
              intro b3 c3 w3 hown3 hgrow3
              have hbel3 : Below w.heap.size w w3 := hbel2.grown hgrow3 hbel2.size (fun q hq => (World.ownsRow.lt hown2 q hq).1)
              have e6' := cell_below hbel3 c6
              have e7' := cell_below hbel3 c7
              have e8' : w3.frozen? ⟨kn p, 7, none⟩ = false := ((H.out.below hbel3).node p HX.out.2).free 7
              have e9' : w3.frozen? ⟨kn x, 6, none⟩ = false := ((H.out.below hbel3).node x HX.out.1).free 6
              have e10' : ∀ u, (w3.setCell ⟨kn p, 7, none⟩ u).cell? ⟨kn x, 6, none⟩ = some (.pointer (some ⟨kn p, 0, none⟩)) := fun u => (cell_setCell_far ((H.out.below hbel3).node p HX.out.2) 7 u (p := ⟨kn x, 6, none⟩) (H.out.ne HX.out.1 HX.out.2 (irrK HF.out HL.out))).trans e6'
              have HEND := Lib.hid (cutK_end H.out HF.out HL.out HX.out.2 HX.out.1 hbel3 hown3 (by have := HLEN.out; simp only [List.length_append]; omega) (by simp))
              refine hK.out _ _ ?_ (fun hHeld => ?_)
              · (first | go_keep | exact e10' _ | exact e6' | exact e6)
              clear hK K
              try simp only [Act.put, List.setIfInBounds_toArray, List.set_cons_zero, List.set_cons_succ]
              refine wpAnyH_take (i := 26) (oi := { dst := some 33, op := .nilCheck (.tmp 10), type := 0, pos := "change.go:102", after := #[{ on := 3, ground := .data }, { on := 0, ground := .phase }, { on := 1, ground := .phase }, { on := 2, ground := .phase }, { on := 3, ground := .phase }, { on := 4, ground := .phase }, { on := 5, ground := .phase }, { on := 6, ground := .phase }, { on := 7, ground := .phase }, { on := 8, ground := .phase }, { on := 9, ground := .phase }, { on := 10, ground := .phase }, { on := 11, ground := .phase }, { on := 12, ground := .phase }, { on := 13, ground := .phase }, { on := 14, ground := .phase }, { on := 15, ground := .phase }, { on := 16, ground := .phase }, { on := 17, ground := .phase }, { on := 18, ground := .phase }, { on := 19, ground := .phase }, { on := 20, ground := .phase }, { on := 21, ground := .phase }, { on := 22, ground := .phase }, { on := 23, ground := .phase }, { on := 24, ground := .phase }, { on := 25, ground := .phase }], guard := none }) (v := ?_) rfl (by kernel_rfl) (by kernel_rfl) (by kernel_rfl) (fun _ _ _ h => h) (Or.inl ⟨by rfl, ?_⟩) (by assumption) ?_
              rotate_left
              · (intro w hSw; (try dsimp only at hSw); go_simp; try with_reducible rfl)
              try simp only [Act.put, List.setIfInBounds_toArray, List.set_cons_zero, List.set_cons_succ]
              refine wpAnyH_take (i := 27) (oi := { dst := some 34, op := .fieldAddr 93 (.tmp 33) 3, type := 0, pos := "change.go:102", after := #[{ on := 26, ground := .data }, { on := 0, ground := .phase }, { on := 1, ground := .phase }, { on := 2, ground := .phase }, { on := 3, ground := .phase }, { on := 4, ground := .phase }, { on := 5, ground := .phase }, { on := 6, ground := .phase }, { on := 7, ground := .phase }, { on := 8, ground := .phase }, { on := 9, ground := .phase }, { on := 10, ground := .phase }, { on := 11, ground := .phase }, { on := 12, ground := .phase }, { on := 13, ground := .phase }, { on := 14, ground := .phase }, { on := 15, ground := .phase }, { on := 16, ground := .phase }, { on := 17, ground := .phase }, { on := 18, ground := .phase }, { on := 19, ground := .phase }, { on := 20, ground := .phase }, { on := 21, ground := .phase }, { on := 22, ground := .phase }, { on := 23, ground := .phase }, { on := 24, ground := .phase }, { on := 25, ground := .phase }], guard := none }) (v := ?_) rfl (by kernel_rfl) (by kernel_rfl) (by kernel_rfl) (fun _ _ _ h => h) (Or.inl ⟨by rfl, ?_⟩) (by assumption) ?_
              rotate_left
              · (intro w hSw; (try dsimp only at hSw); go_simp; try with_reducible rfl)
              try simp only [Act.put, List.setIfInBounds_toArray, List.set_cons_zero, List.set_cons_succ]
              refine wpAnyH_ready (rs := [28]) (by kernel_rfl) (by simp) ?_
              refine AllReadyH.cons (o := { dst := none, op := .store 63 (.tmp 34) (.tmp 32), type := 0, pos := "change.go:102", after := #[{ on := 27, ground := .data }, { on := 25, ground := .data }, { on := 25, ground := .chain }, { on := 0, ground := .phase }, { on := 1, ground := .phase }, { on := 2, ground := .phase }, { on := 3, ground := .phase }, { on := 4, ground := .phase }, { on := 5, ground := .phase }, { on := 6, ground := .phase }, { on := 7, ground := .phase }, { on := 8, ground := .phase }, { on := 9, ground := .phase }, { on := 10, ground := .phase }, { on := 11, ground := .phase }, { on := 12, ground := .phase }, { on := 13, ground := .phase }, { on := 14, ground := .phase }, { on := 15, ground := .phase }, { on := 16, ground := .phase }, { on := 17, ground := .phase }, { on := 18, ground := .phase }, { on := 19, ground := .phase }, { on := 20, ground := .phase }, { on := 21, ground := .phase }, { on := 22, ground := .phase }, { on := 23, ground := .phase }, { on := 24, ground := .phase }, { on := 25, ground := .phase }], guard := none }) rfl (fun K hK => ?_) ?_
              · skip
                go_simp
                refine hK.out _ _ ?_ (fun hHeld => ?_)
                · (first | go_keep | exact e10' _ | exact e6' | exact e6)
                clear hK K
                try simp only [Act.put, List.setIfInBounds_toArray, List.set_cons_zero, List.set_cons_succ]
                refine wpAnyH_done (by kernel_rfl) ?_ _
                refine NoPanic.normal ?_
                have HE := Lib.hid (show Knots B ((w3.setCell ⟨kn p, 7, none⟩ (.slice b3 (m + (L - k1)) c3)).setCell ⟨kn x, 6, none⟩ (.pointer none)) n kn _ av pl lab (F.cut x) ∧ OnlyK n kn w _ by simpa only [Nat.zero_add, Nat.add_zero] using HEND.out)
                have HFR := Lib.hid (show FreshK w kv (updV kv p (.slice b3 (m + (L - k1)) c3)) by first | exact fresh_upd hown3 | simpa only [Nat.zero_add, Nat.add_zero] using fresh_upd (kv := kv) (p := p) hown3)
                clear HEND hown2 hgrow2 hown3 hgrow3
                go_wp2
                go_end0
                exact ⟨_, rfl, Lib.hid HE.out.1, Lib.hid HE.out.2, HFR⟩
              exact AllReadyH.nil
            exact AllReadyH.nil
          exact AllReadyH.nil
        exact AllReadyH.nil
      refine AllReadyH.cons (o := { dst := some 28, op := .load 63 (.tmp 27), type := 63, pos := "change.go:102", after := #[{ on := 20, ground := .data }], guard := none }) rfl (fun K hK => ?_) ?_
      · skip
        go_simp
        refine hK.out _ _ ?_ (fun hHeld => ?_)
        · (first | go_keep | exact e10' _ | exact e6' | exact e6)
        clear hK K
        try simp only [Act.put, List.setIfInBounds_toArray, List.set_cons_zero, List.set_cons_succ]
        refine wpAnyH_take (i := 24) (oi := { dst := some 31, op := .slice 63 (.tmp 28) (some (.tmp 30)) none none, type := 63, pos := "change.go:102", after := #[{ on := 21, ground := .data }, { on := 23, ground := .data }], guard := none }) (v := ?_) rfl (by kernel_rfl) (by kernel_rfl) (by kernel_rfl) (fun _ _ _ h => h) (Or.inl ⟨by rfl, ?_⟩) (by assumption) ?_
        rotate_left
        · (intro w hSw; (try dsimp only at hSw); go_simp; try with_reducible rfl)
        try simp only [Act.put, List.setIfInBounds_toArray, List.set_cons_zero, List.set_cons_succ]
        refine wpAnyH_ready (rs := [11]) (by kernel_rfl) (by simp) ?_
        refine AllReadyH.cons (o := { dst := some 18, op := .load 63 (.tmp 17), type := 63, pos := "change.go:102", after := #[{ on := 10, ground := .data }], guard := none }) rfl (fun K hK => ?_) ?_
        · skip
          go_simp
          refine hK.out _ _ ?_ (fun hHeld => ?_)
          · (first | go_keep | exact e10' _ | exact e6' | exact e6)
          clear hK K
          try simp only [Act.put, List.setIfInBounds_toArray, List.set_cons_zero, List.set_cons_succ]
          refine wpAnyH_take (i := 13) (oi := { dst := some 20, op := .slice 63 (.tmp 18) none (some (.tmp 19)) none, type := 63, pos := "change.go:102", after := #[{ on := 11, ground := .data }, { on := 12, ground := .data }], guard := none }) (v := ?_) rfl (by kernel_rfl) (by kernel_rfl) (by kernel_rfl) (fun _ _ _ h => h) (Or.inl ⟨by rfl, ?_⟩) (by assumption) ?_
          rotate_left
          · (intro w hSw; (try dsimp only at hSw); go_simp; try with_reducible rfl)
          try simp only [Act.put, List.setIfInBounds_toArray, List.set_cons_zero, List.set_cons_succ]
          refine wpAnyH_ready (rs := [14]) (by kernel_rfl) (by simp) ?_
          refine AllReadyH.cons (o := { dst := some 21, op := .call { callee := .builtin .append, args := #[.tmp 11, .tmp 20], argTypes := #[63, 63] }, type := 63, pos := "change.go:102", after := #[{ on := 4, ground := .data }, { on := 13, ground := .data }], guard := none }) rfl (fun K hK => ?_) ?_
          · skip
            refine step_append_reads (by rfl) _ _ _ (by rfl) w.heap.size 66 i0 (.pointer none) 8 Tryz.underlying63 hi hz0 hz1 hz2 rfl (some ⟨w.heap.size, 0, none⟩) 0 0 [] (by rfl) (owns_empty w w.heap.size (Nat.le_refl _) _).drew (some ⟨g, 0, none⟩) m cap (a.map fun y => ptrV (kn y)) (by rfl) (HR1.out.below ((Below.refl _ _).alloc (Nat.le_refl _) _).drew) ptrK_one (by unfold maxLen; omega) (by omega) (by simp) ?_
            intro b2 c2 w2 hown2 hgrow2
            rw [Nat.zero_add, List.nil_append] at hown2
            rw [Nat.zero_add]
            have hbel2 : Below w.heap.size w w2 := (((Below.refl _ _).alloc (Nat.le_refl _) _).drew).grown hgrow2 (by simp) (fun q hq => by simp [Value.ownBlock] at hq; omega)
            have HR2w := HRR.out.below hbel2
            have hszw := hbel2.size
            have e6 := cell_below hbel2 c6
            have e7 := cell_below hbel2 c7
            refine hK.out _ _ ?_ (fun hHeld => ?_)
            · (first | go_keep | exact e10' _ | exact e6' | exact e6)
            clear hK K
            try simp only [Act.put, List.setIfInBounds_toArray, List.set_cons_zero, List.set_cons_succ]
            refine wpAnyH_ready (rs := [25]) (by kernel_rfl) (by simp) ?_
            refine AllReadyH.cons (o := { dst := some 32, op := .call { callee := .builtin .append, args := #[.tmp 21, .tmp 31], argTypes := #[63, 63] }, type := 63, pos := "change.go:102", after := #[{ on := 14, ground := .data }, { on := 24, ground := .data }, { on := 14, ground := .chain }], guard := none }) rfl (fun K hK => ?_) ?_
            · skip
              refine step_append_reads (by rfl) _ _ _ (by rfl) w.heap.size 66 i0 (.pointer none) 8 Tryz.underlying63 hi hz0 hz1 hz2 rfl b2 m c2 (a.map fun y => ptrV (kn y)) (by rfl) hown2 (some ⟨g, k1, none⟩) (L - k1) (cap - k1) (b.map fun y => ptrV (kn y)) (by rfl) HR2w ptrK_one (by unfold maxLen; omega) (by omega) hszw ?_
              intro b3 c3 w3 hown3 hgrow3
              have hbel3 : Below w.heap.size w w3 := hbel2.grown hgrow3 hbel2.size (fun q hq => (World.ownsRow.lt hown2 q hq).1)
              have e6' := cell_below hbel3 c6
              have e7' := cell_below hbel3 c7
              have e8' : w3.frozen? ⟨kn p, 7, none⟩ = false := ((H.out.below hbel3).node p HX.out.2).free 7
              have e9' : w3.frozen? ⟨kn x, 6, none⟩ = false := ((H.out.below hbel3).node x HX.out.1).free 6
              have e10' : ∀ u, (w3.setCell ⟨kn p, 7, none⟩ u).cell? ⟨kn x, 6, none⟩ = some (.pointer (some ⟨kn p, 0, none⟩)) := fun u => (cell_setCell_far ((H.out.below hbel3).node p HX.out.2) 7 u (p := ⟨kn x, 6, none⟩) (H.out.ne HX.out.1 HX.out.2 (irrK HF.out HL.out))).trans e6'
              have HEND := Lib.hid (cutK_end H.out HF.out HL.out HX.out.2 HX.out.1 hbel3 hown3 (by have := HLEN.out; simp only [List.length_append]; omega) (by simp))
              refine hK.out _ _ ?_ (fun hHeld => ?_)
              · (first | go_keep | exact e10' _ | exact e6' | exact e6)
              clear hK K
              try simp only [Act.put, List.setIfInBounds_toArray, List.set_cons_zero, List.set_cons_succ]
              refine wpAnyH_take (i := 26) (oi := { dst := some 33, op := .nilCheck (.tmp 10), type := 0, pos := "change.go:102", after := #[{ on := 3, ground := .data }, { on := 0, ground := .phase }, { on := 1, ground := .phase }, { on := 2, ground := .phase }, { on := 3, ground := .phase }, { on := 4, ground := .phase }, { on := 5, ground := .phase }, { on := 6, ground := .phase }, { on := 7, ground := .phase }, { on := 8, ground := .phase }, { on := 9, ground := .phase }, { on := 10, ground := .phase }, { on := 11, ground := .phase }, { on := 12, ground := .phase }, { on := 13, ground := .phase }, { on := 14, ground := .phase }, { on := 15, ground := .phase }, { on := 16, ground := .phase }, { on := 17, ground := .phase }, { on := 18, ground := .phase }, { on := 19, ground := .phase }, { on := 20, ground := .phase }, { on := 21, ground := .phase }, { on := 22, ground := .phase }, { on := 23, ground := .phase }, { on := 24, ground := .phase }, { on := 25, ground := .phase }], guard := none }) (v := ?_) rfl (by kernel_rfl) (by kernel_rfl) (by kernel_rfl) (fun _ _ _ h => h) (Or.inl ⟨by rfl, ?_⟩) (by assumption) ?_
              rotate_left
              · (intro w hSw; (try dsimp only at hSw); go_simp; try with_reducible rfl)
              try simp only [Act.put, List.setIfInBounds_toArray, List.set_cons_zero, List.set_cons_succ]
              refine wpAnyH_take (i := 27) (oi := { dst := some 34, op := .fieldAddr 93 (.tmp 33) 3, type := 0, pos := "change.go:102", after := #[{ on := 26, ground := .data }, { on := 0, ground := .phase }, { on := 1, ground := .phase }, { on := 2, ground := .phase }, { on := 3, ground := .phase }, { on := 4, ground := .phase }, { on := 5, ground := .phase }, { on := 6, ground := .phase }, { on := 7, ground := .phase }, { on := 8, ground := .phase }, { on := 9, ground := .phase }, { on := 10, ground := .phase }, { on := 11, ground := .phase }, { on := 12, ground := .phase }, { on := 13, ground := .phase }, { on := 14, ground := .phase }, { on := 15, ground := .phase }, { on := 16, ground := .phase }, { on := 17, ground := .phase }, { on := 18, ground := .phase }, { on := 19, ground := .phase }, { on := 20, ground := .phase }, { on := 21, ground := .phase }, { on := 22, ground := .phase }, { on := 23, ground := .phase }, { on := 24, ground := .phase }, { on := 25, ground := .phase }], guard := none }) (v := ?_) rfl (by kernel_rfl) (by kernel_rfl) (by kernel_rfl) (fun _ _ _ h => h) (Or.inl ⟨by rfl, ?_⟩) (by assumption) ?_
              rotate_left
              · (intro w hSw; (try dsimp only at hSw); go_simp; try with_reducible rfl)
              try simp only [Act.put, List.setIfInBounds_toArray, List.set_cons_zero, List.set_cons_succ]
              refine wpAnyH_ready (rs := [28]) (by kernel_rfl) (by simp) ?_
              refine AllReadyH.cons (o := { dst := none, op := .store 63 (.tmp 34) (.tmp 32), type := 0, pos := "change.go:102", after := #[{ on := 27, ground := .data }, { on := 25, ground := .data }, { on := 25, ground := .chain }, { on := 0, ground := .phase }, { on := 1, ground := .phase }, { on := 2, ground := .phase }, { on := 3, ground := .phase }, { on := 4, ground := .phase }, { on := 5, ground := .phase }, { on := 6, ground := .phase }, { on := 7, ground := .phase }, { on := 8, ground := .phase }, { on := 9, ground := .phase }, { on := 10, ground := .phase }, { on := 11, ground := .phase }, { on := 12, ground := .phase }, { on := 13, ground := .phase }, { on := 14, ground := .phase }, { on := 15, ground := .phase }, { on := 16, ground := .phase }, { on := 17, ground := .phase }, { on := 18, ground := .phase }, { on := 19, ground := .phase }, { on := 20, ground := .phase }, { on := 21, ground := .phase }, { on := 22, ground := .phase }, { on := 23, ground := .phase }, { on := 24, ground := .phase }, { on := 25, ground := .phase }], guard := none }) rfl (fun K hK => ?_) ?_
              · skip
                go_simp
                refine hK.out _ _ ?_ (fun hHeld => ?_)
                · (first | go_keep | exact e10' _ | exact e6' | exact e6)
                clear hK K
                try simp only [Act.put, List.setIfInBounds_toArray, List.set_cons_zero, List.set_cons_succ]
                refine wpAnyH_done (by kernel_rfl) ?_ _
                refine NoPanic.normal ?_
                have HE := Lib.hid (show Knots B ((w3.setCell ⟨kn p, 7, none⟩ (.slice b3 (m + (L - k1)) c3)).setCell ⟨kn x, 6, none⟩ (.pointer none)) n kn _ av pl lab (F.cut x) ∧ OnlyK n kn w _ by simpa only [Nat.zero_add, Nat.add_zero] using HEND.out)
                have HFR := Lib.hid (show FreshK w kv (updV kv p (.slice b3 (m + (L - k1)) c3)) by first | exact fresh_upd hown3 | simpa only [Nat.zero_add, Nat.add_zero] using fresh_upd (kv := kv) (p := p) hown3)
                clear HEND hown2 hgrow2 hown3 hgrow3
                go_wp2
                go_end0
                exact ⟨_, rfl, Lib.hid HE.out.1, Lib.hid HE.out.2, HFR⟩
              exact AllReadyH.nil
            exact AllReadyH.nil
          exact AllReadyH.nil
        exact AllReadyH.nil
      exact AllReadyH.nil
    refine AllReadyH.cons (o := { dst := some 18, op := .load 63 (.tmp 17), type := 63, pos := "change.go:102", after := #[{ on := 10, ground := .data }], guard := none }) rfl (fun K hK => ?_) ?_
    · skip
      go_simp
      refine hK.out _ _ ?_ (fun hHeld => ?_)
      · (first | go_keep | exact e10' _ | exact e6' | exact e6)
      clear hK K
      try simp only [Act.put, List.setIfInBounds_toArray, List.set_cons_zero, List.set_cons_succ]
      refine wpAnyH_take (i := 13) (oi := { dst := some 20, op := .slice 63 (.tmp 18) none (some (.tmp 19)) none, type := 63, pos := "change.go:102", after := #[{ on := 11, ground := .data }, { on := 12, ground := .data }], guard := none }) (v := ?_) rfl (by kernel_rfl) (by kernel_rfl) (by kernel_rfl) (fun _ _ _ h => h) (Or.inl ⟨by rfl, ?_⟩) (by assumption) ?_
      rotate_left
      · (intro w hSw; (try dsimp only at hSw); go_simp; try with_reducible rfl)
      try simp only [Act.put, List.setIfInBounds_toArray, List.set_cons_zero, List.set_cons_succ]
      refine wpAnyH_ready (rs := [4, 21]) (by kernel_rfl) (by simp) ?_
      refine AllReadyH.cons (o := { dst := some 11, op := .buildSlice 63 0 #[], type := 63, pos := "change.go:102", after := #[], guard := none }) rfl (fun K hK => ?_) ?_
      · skip
        go_simp
        refine hK.out _ _ ?_ (fun hHeld => ?_)
        · (first | go_keep | exact e10' _ | exact e6' | exact e6)
        clear hK K
        try simp only [Act.put, List.setIfInBounds_toArray, List.set_cons_zero, List.set_cons_succ]
        refine wpAnyH_ready (rs := [14, 21]) (by kernel_rfl) (by simp) ?_
        refine AllReadyH.cons (o := { dst := some 21, op := .call { callee := .builtin .append, args := #[.tmp 11, .tmp 20], argTypes := #[63, 63] }, type := 63, pos := "change.go:102", after := #[{ on := 4, ground := .data }, { on := 13, ground := .data }], guard := none }) rfl (fun K hK => ?_) ?_
        · skip
          refine step_append_reads (by rfl) _ _ _ (by rfl) w.heap.size 66 i0 (.pointer none) 8 Tryz.underlying63 hi hz0 hz1 hz2 rfl (some ⟨w.heap.size, 0, none⟩) 0 0 [] (by rfl) (owns_empty w w.heap.size (Nat.le_refl _) _).drew (some ⟨g, 0, none⟩) m cap (a.map fun y => ptrV (kn y)) (by rfl) (HR1.out.below ((Below.refl _ _).alloc (Nat.le_refl _) _).drew) ptrK_one (by unfold maxLen; omega) (by omega) (by simp) ?_
          intro b2 c2 w2 hown2 hgrow2
          rw [Nat.zero_add, List.nil_append] at hown2
          rw [Nat.zero_add]
          have hbel2 : Below w.heap.size w w2 := (((Below.refl _ _).alloc (Nat.le_refl _) _).drew).grown hgrow2 (by simp) (fun q hq => by simp [Value.ownBlock] at hq; omega)
          have HR2w := HRR.out.below hbel2
          have hszw := hbel2.size
          have e6 := cell_below hbel2 c6
          have e7 := cell_below hbel2 c7
          refine hK.out _ _ ?_ (fun hHeld => ?_)
          · (first | go_keep | exact e10' _ | exact e6' | exact e6)
          clear hK K
          try simp only [Act.put, List.setIfInBounds_toArray, List.set_cons_zero, List.set_cons_succ]
          refine wpAnyH_ready (rs := [21]) (by kernel_rfl) (by simp) ?_
          refine AllReadyH.cons (o := { dst := some 28, op := .load 63 (.tmp 27), type := 63, pos := "change.go:102", after := #[{ on := 20, ground := .data }], guard := none }) rfl (fun K hK => ?_) ?_
          · skip
            go_simp
            refine hK.out _ _ ?_ (fun hHeld => ?_)
            · (first | go_keep | exact e10' _ | exact e6' | exact e6)
            clear hK K
            try simp only [Act.put, List.setIfInBounds_toArray, List.set_cons_zero, List.set_cons_succ]
            refine wpAnyH_take (i := 24) (oi := { dst := some 31, op := .slice 63 (.tmp 28) (some (.tmp 30)) none none, type := 63, pos := "change.go:102", after := #[{ on := 21, ground := .data }, { on := 23, ground := .data }], guard := none }) (v := ?_) rfl (by kernel_rfl) (by kernel_rfl) (by kernel_rfl) (fun _ _ _ h => h) (Or.inl ⟨by rfl, ?_⟩) (by assumption) ?_
            rotate_left
            · (intro w hSw; (try dsimp only at hSw); go_simp; try with_reducible rfl)
            try simp only [Act.put, List.setIfInBounds_toArray, List.set_cons_zero, List.set_cons_succ]
            refine wpAnyH_ready (rs := [25]) (by kernel_rfl) (by simp) ?_
            refine AllReadyH.cons (o := { dst := some 32, op := .call { callee := .builtin .append, args := #[.tmp 21, .tmp 31], argTypes := #[63, 63] }, type := 63, pos := "change.go:102", after := #[{ on := 14, ground := .data }, { on := 24, ground := .data }, { on := 14, ground := .chain }], guard := none }) rfl (fun K hK => ?_) ?_
            · skip
              refine step_append_reads (by rfl) _ _ _ (by rfl) w.heap.size 66 i0 (.pointer none) 8 Tryz.underlying63 hi hz0 hz1 hz2 rfl b2 m c2 (a.map fun y => ptrV (kn y)) (by rfl) hown2 (some ⟨g, k1, none⟩) (L - k1) (cap - k1) (b.map fun y => ptrV (kn y)) (by rfl) HR2w ptrK_one (by unfold maxLen; omega) (by omega) hszw ?_
              intro b3 c3 w3 hown3 hgrow3
              have hbel3 : Below w.heap.size w w3 := hbel2.grown hgrow3 hbel2.size (fun q hq => (World.ownsRow.lt hown2 q hq).1)
              have e6' := cell_below hbel3 c6
              have e7' := cell_below hbel3 c7
              have e8' : w3.frozen? ⟨kn p, 7, none⟩ = false := ((H.out.below hbel3).node p HX.out.2).free 7
              have e9' : w3.frozen? ⟨kn x, 6, none⟩ = false := ((H.out.below hbel3).node x HX.out.1).free 6
              have e10' : ∀ u, (w3.setCell ⟨kn p, 7, none⟩ u).cell? ⟨kn x, 6, none⟩ = some (.pointer (some ⟨kn p, 0, none⟩)) := fun u => (cell_setCell_far ((H.out.below hbel3).node p HX.out.2) 7 u (p := ⟨kn x, 6, none⟩) (H.out.ne HX.out.1 HX.out.2 (irrK HF.out HL.out))).trans e6'
              have HEND := Lib.hid (cutK_end H.out HF.out HL.out HX.out.2 HX.out.1 hbel3 hown3 (by have := HLEN.out; simp only [List.length_append]; omega) (by simp))
              refine hK.out _ _ ?_ (fun hHeld => ?_)
              · (first | go_keep | exact e10' _ | exact e6' | exact e6)
              clear hK K
              try simp only [Act.put, List.setIfInBounds_toArray, List.set_cons_zero, List.set_cons_succ]
              refine wpAnyH_take (i := 26) (oi := { dst := some 33, op := .nilCheck (.tmp 10), type := 0, pos := "change.go:102", after := #[{ on := 3, ground := .data }, { on := 0, ground := .phase }, { on := 1, ground := .phase }, { on := 2, ground := .phase }, { on := 3, ground := .phase }, { on := 4, ground := .phase }, { on := 5, ground := .phase }, { on := 6, ground := .phase }, { on := 7, ground := .phase }, { on := 8, ground := .phase }, { on := 9, ground := .phase }, { on := 10, ground := .phase }, { on := 11, ground := .phase }, { on := 12, ground := .phase }, { on := 13, ground := .phase }, { on := 14, ground := .phase }, { on := 15, ground := .phase }, { on := 16, ground := .phase }, { on := 17, ground := .phase }, { on := 18, ground := .phase }, { on := 19, ground := .phase }, { on := 20, ground := .phase }, { on := 21, ground := .phase }, { on := 22, ground := .phase }, { on := 23, ground := .phase }, { on := 24, ground := .phase }, { on := 25, ground := .phase }], guard := none }) (v := ?_) rfl (by kernel_rfl) (by kernel_rfl) (by kernel_rfl) (fun _ _ _ h => h) (Or.inl ⟨by rfl, ?_⟩) (by assumption) ?_
              rotate_left
              · (intro w hSw; (try dsimp only at hSw); go_simp; try with_reducible rfl)
              try simp only [Act.put, List.setIfInBounds_toArray, List.set_cons_zero, List.set_cons_succ]
              refine wpAnyH_take (i := 27) (oi := { dst := some 34, op := .fieldAddr 93 (.tmp 33) 3, type := 0, pos := "change.go:102", after := #[{ on := 26, ground := .data }, { on := 0, ground := .phase }, { on := 1, ground := .phase }, { on := 2, ground := .phase }, { on := 3, ground := .phase }, { on := 4, ground := .phase }, { on := 5, ground := .phase }, { on := 6, ground := .phase }, { on := 7, ground := .phase }, { on := 8, ground := .phase }, { on := 9, ground := .phase }, { on := 10, ground := .phase }, { on := 11, ground := .phase }, { on := 12, ground := .phase }, { on := 13, ground := .phase }, { on := 14, ground := .phase }, { on := 15, ground := .phase }, { on := 16, ground := .phase }, { on := 17, ground := .phase }, { on := 18, ground := .phase }, { on := 19, ground := .phase }, { on := 20, ground := .phase }, { on := 21, ground := .phase }, { on := 22, ground := .phase }, { on := 23, ground := .phase }, { on := 24, ground := .phase }, { on := 25, ground := .phase }], guard := none }) (v := ?_) rfl (by kernel_rfl) (by kernel_rfl) (by kernel_rfl) (fun _ _ _ h => h) (Or.inl ⟨by rfl, ?_⟩) (by assumption) ?_
              rotate_left
              · (intro w hSw; (try dsimp only at hSw); go_simp; try with_reducible rfl)
              try simp only [Act.put, List.setIfInBounds_toArray, List.set_cons_zero, List.set_cons_succ]
              refine wpAnyH_ready (rs := [28]) (by kernel_rfl) (by simp) ?_
              refine AllReadyH.cons (o := { dst := none, op := .store 63 (.tmp 34) (.tmp 32), type := 0, pos := "change.go:102", after := #[{ on := 27, ground := .data }, { on := 25, ground := .data }, { on := 25, ground := .chain }, { on := 0, ground := .phase }, { on := 1, ground := .phase }, { on := 2, ground := .phase }, { on := 3, ground := .phase }, { on := 4, ground := .phase }, { on := 5, ground := .phase }, { on := 6, ground := .phase }, { on := 7, ground := .phase }, { on := 8, ground := .phase }, { on := 9, ground := .phase }, { on := 10, ground := .phase }, { on := 11, ground := .phase }, { on := 12, ground := .phase }, { on := 13, ground := .phase }, { on := 14, ground := .phase }, { on := 15, ground := .phase }, { on := 16, ground := .phase }, { on := 17, ground := .phase }, { on := 18, ground := .phase }, { on := 19, ground := .phase }, { on := 20, ground := .phase }, { on := 21, ground := .phase }, { on := 22, ground := .phase }, { on := 23, ground := .phase }, { on := 24, ground := .phase }, { on := 25, ground := .phase }], guard := none }) rfl (fun K hK => ?_) ?_
              · skip
                go_simp
                refine hK.out _ _ ?_ (fun hHeld => ?_)
                · (first | go_keep | exact e10' _ | exact e6' | exact e6)
                clear hK K
                try simp only [Act.put, List.setIfInBounds_toArray, List.set_cons_zero, List.set_cons_succ]
                refine wpAnyH_done (by kernel_rfl) ?_ _
                refine NoPanic.normal ?_
                have HE := Lib.hid (show Knots B ((w3.setCell ⟨kn p, 7, none⟩ (.slice b3 (m + (L - k1)) c3)).setCell ⟨kn x, 6, none⟩ (.pointer none)) n kn _ av pl lab (F.cut x) ∧ OnlyK n kn w _ by simpa only [Nat.zero_add, Nat.add_zero] using HEND.out)
                have HFR := Lib.hid (show FreshK w kv (updV kv p (.slice b3 (m + (L - k1)) c3)) by first | exact fresh_upd hown3 | simpa only [Nat.zero_add, Nat.add_zero] using fresh_upd (kv := kv) (p := p) hown3)
                clear HEND hown2 hgrow2 hown3 hgrow3
                go_wp2
                go_end0
                exact ⟨_, rfl, Lib.hid HE.out.1, Lib.hid HE.out.2, HFR⟩
              exact AllReadyH.nil
            exact AllReadyH.nil
          exact AllReadyH.nil
        refine AllReadyH.cons (o := { dst := some 28, op := .load 63 (.tmp 27), type := 63, pos := "change.go:102", after := #[{ on := 20, ground := .data }], guard := none }) rfl (fun K hK => ?_) ?_
        · skip
          go_simp
          refine hK.out _ _ ?_ (fun hHeld => ?_)
          · (first | go_keep | exact e10' _ | exact e6' | exact e6)
          clear hK K
          try simp only [Act.put, List.setIfInBounds_toArray, List.set_cons_zero, List.set_cons_succ]
          refine wpAnyH_take (i := 24) (oi := { dst := some 31, op := .slice 63 (.tmp 28) (some (.tmp 30)) none none, type := 63, pos := "change.go:102", after := #[{ on := 21, ground := .data }, { on := 23, ground := .data }], guard := none }) (v := ?_) rfl (by kernel_rfl) (by kernel_rfl) (by kernel_rfl) (fun _ _ _ h => h) (Or.inl ⟨by rfl, ?_⟩) (by assumption) ?_
          rotate_left
          · (intro w hSw; (try dsimp only at hSw); go_simp; try with_reducible rfl)
          try simp only [Act.put, List.setIfInBounds_toArray, List.set_cons_zero, List.set_cons_succ]
          refine wpAnyH_ready (rs := [14]) (by kernel_rfl) (by simp) ?_
          refine AllReadyH.cons (o := { dst := some 21, op := .call { callee := .builtin .append, args := #[.tmp 11, .tmp 20], argTypes := #[63, 63] }, type := 63, pos := "change.go:102", after := #[{ on := 4, ground := .data }, { on := 13, ground := .data }], guard := none }) rfl (fun K hK => ?_) ?_
          · skip
            refine step_append_reads (by rfl) _ _ _ (by rfl) w.heap.size 66 i0 (.pointer none) 8 Tryz.underlying63 hi hz0 hz1 hz2 rfl (some ⟨w.heap.size, 0, none⟩) 0 0 [] (by rfl) (owns_empty w w.heap.size (Nat.le_refl _) _).drew (some ⟨g, 0, none⟩) m cap (a.map fun y => ptrV (kn y)) (by rfl) (HR1.out.below ((Below.refl _ _).alloc (Nat.le_refl _) _).drew) ptrK_one (by unfold maxLen; omega) (by omega) (by simp) ?_
            intro b2 c2 w2 hown2 hgrow2
            rw [Nat.zero_add, List.nil_append] at hown2
            rw [Nat.zero_add]
            have hbel2 : Below w.heap.size w w2 := (((Below.refl _ _).alloc (Nat.le_refl _) _).drew).grown hgrow2 (by simp) (fun q hq => by simp [Value.ownBlock] at hq; omega)
            have HR2w := HRR.out.below hbel2
            have hszw := hbel2.size
            have e6 := cell_below hbel2 c6
            have e7 := cell_below hbel2 c7
            refine hK.out _ _ ?_ (fun hHeld => ?_)
            · (first | go_keep | exact e10' _ | exact e6' | exact e6)
            clear hK K
            try simp only [Act.put, List.setIfInBounds_toArray, List.set_cons_zero, List.set_cons_succ]
            refine wpAnyH_ready (rs := [25]) (by kernel_rfl) (by simp) ?_
            refine AllReadyH.cons (o := { dst := some 32, op := .call { callee := .builtin .append, args := #[.tmp 21, .tmp 31], argTypes := #[63, 63] }, type := 63, pos := "change.go:102", after := #[{ on := 14, ground := .data }, { on := 24, ground := .data }, { on := 14, ground := .chain }], guard := none }) rfl (fun K hK => ?_) ?_
            · skip
              refine step_append_reads (by rfl) _ _ _ (by rfl) w.heap.size 66 i0 (.pointer none) 8 Tryz.underlying63 hi hz0 hz1 hz2 rfl b2 m c2 (a.map fun y => ptrV (kn y)) (by rfl) hown2 (some ⟨g, k1, none⟩) (L - k1) (cap - k1) (b.map fun y => ptrV (kn y)) (by rfl) HR2w ptrK_one (by unfold maxLen; omega) (by omega) hszw ?_
              intro b3 c3 w3 hown3 hgrow3
              have hbel3 : Below w.heap.size w w3 := hbel2.grown hgrow3 hbel2.size (fun q hq => (World.ownsRow.lt hown2 q hq).1)
              have e6' := cell_below hbel3 c6
              have e7' := cell_below hbel3 c7
              have e8' : w3.frozen? ⟨kn p, 7, none⟩ = false := ((H.out.below hbel3).node p HX.out.2).free 7
              have e9' : w3.frozen? ⟨kn x, 6, none⟩ = false := ((H.out.below hbel3).node x HX.out.1).free 6
              have e10' : ∀ u, (w3.setCell ⟨kn p, 7, none⟩ u).cell? ⟨kn x, 6, none⟩ = some (.pointer (some ⟨kn p, 0, none⟩)) := fun u => (cell_setCell_far ((H.out.below hbel3).node p HX.out.2) 7 u (p := ⟨kn x, 6, none⟩) (H.out.ne HX.out.1 HX.out.2 (irrK HF.out HL.out))).trans e6'
              have HEND := Lib.hid (cutK_end H.out HF.out HL.out HX.out.2 HX.out.1 hbel3 hown3 (by have := HLEN.out; simp only [List.length_append]; omega) (by simp))
              refine hK.out _ _ ?_ (fun hHeld => ?_)
              · (first | go_keep | exact e10' _ | exact e6' | exact e6)
              clear hK K
              try simp only [Act.put, List.setIfInBounds_toArray, List.set_cons_zero, List.set_cons_succ]
              refine wpAnyH_take (i := 26) (oi := { dst := some 33, op := .nilCheck (.tmp 10), type := 0, pos := "change.go:102", after := #[{ on := 3, ground := .data }, { on := 0, ground := .phase }, { on := 1, ground := .phase }, { on := 2, ground := .phase }, { on := 3, ground := .phase }, { on := 4, ground := .phase }, { on := 5, ground := .phase }, { on := 6, ground := .phase }, { on := 7, ground := .phase }, { on := 8, ground := .phase }, { on := 9, ground := .phase }, { on := 10, ground := .phase }, { on := 11, ground := .phase }, { on := 12, ground := .phase }, { on := 13, ground := .phase }, { on := 14, ground := .phase }, { on := 15, ground := .phase }, { on := 16, ground := .phase }, { on := 17, ground := .phase }, { on := 18, ground := .phase }, { on := 19, ground := .phase }, { on := 20, ground := .phase }, { on := 21, ground := .phase }, { on := 22, ground := .phase }, { on := 23, ground := .phase }, { on := 24, ground := .phase }, { on := 25, ground := .phase }], guard := none }) (v := ?_) rfl (by kernel_rfl) (by kernel_rfl) (by kernel_rfl) (fun _ _ _ h => h) (Or.inl ⟨by rfl, ?_⟩) (by assumption) ?_
              rotate_left
              · (intro w hSw; (try dsimp only at hSw); go_simp; try with_reducible rfl)
              try simp only [Act.put, List.setIfInBounds_toArray, List.set_cons_zero, List.set_cons_succ]
              refine wpAnyH_take (i := 27) (oi := { dst := some 34, op := .fieldAddr 93 (.tmp 33) 3, type := 0, pos := "change.go:102", after := #[{ on := 26, ground := .data }, { on := 0, ground := .phase }, { on := 1, ground := .phase }, { on := 2, ground := .phase }, { on := 3, ground := .phase }, { on := 4, ground := .phase }, { on := 5, ground := .phase }, { on := 6, ground := .phase }, { on := 7, ground := .phase }, { on := 8, ground := .phase }, { on := 9, ground := .phase }, { on := 10, ground := .phase }, { on := 11, ground := .phase }, { on := 12, ground := .phase }, { on := 13, ground := .phase }, { on := 14, ground := .phase }, { on := 15, ground := .phase }, { on := 16, ground := .phase }, { on := 17, ground := .phase }, { on := 18, ground := .phase }, { on := 19, ground := .phase }, { on := 20, ground := .phase }, { on := 21, ground := .phase }, { on := 22, ground := .phase }, { on := 23, ground := .phase }, { on := 24, ground := .phase }, { on := 25, ground := .phase }], guard := none }) (v := ?_) rfl (by kernel_rfl) (by kernel_rfl) (by kernel_rfl) (fun _ _ _ h => h) (Or.inl ⟨by rfl, ?_⟩) (by assumption) ?_
              rotate_left
              · (intro w hSw; (try dsimp only at hSw); go_simp; try with_reducible rfl)
              try simp only [Act.put, List.setIfInBounds_toArray, List.set_cons_zero, List.set_cons_succ]
              refine wpAnyH_ready (rs := [28]) (by kernel_rfl) (by simp) ?_
              refine AllReadyH.cons (o := { dst := none, op := .store 63 (.tmp 34) (.tmp 32), type := 0, pos := "change.go:102", after := #[{ on := 27, ground := .data }, { on := 25, ground := .data }, { on := 25, ground := .chain }, { on := 0, ground := .phase }, { on := 1, ground := .phase }, { on := 2, ground := .phase }, { on := 3, ground := .phase }, { on := 4, ground := .phase }, { on := 5, ground := .phase }, { on := 6, ground := .phase }, { on := 7, ground := .phase }, { on := 8, ground := .phase }, { on := 9, ground := .phase }, { on := 10, ground := .phase }, { on := 11, ground := .phase }, { on := 12, ground := .phase }, { on := 13, ground := .phase }, { on := 14, ground := .phase }, { on := 15, ground := .phase }, { on := 16, ground := .phase }, { on := 17, ground := .phase }, { on := 18, ground := .phase }, { on := 19, ground := .phase }, { on := 20, ground := .phase }, { on := 21, ground := .phase }, { on := 22, ground := .phase }, { on := 23, ground := .phase }, { on := 24, ground := .phase }, { on := 25, ground := .phase }], guard := none }) rfl (fun K hK => ?_) ?_
              · skip
                go_simp
                refine hK.out _ _ ?_ (fun hHeld => ?_)
                · (first | go_keep | exact e10' _ | exact e6' | exact e6)
                clear hK K
                try simp only [Act.put, List.setIfInBounds_toArray, List.set_cons_zero, List.set_cons_succ]
                refine wpAnyH_done (by kernel_rfl) ?_ _
                refine NoPanic.normal ?_
                have HE := Lib.hid (show Knots B ((w3.setCell ⟨kn p, 7, none⟩ (.slice b3 (m + (L - k1)) c3)).setCell ⟨kn x, 6, none⟩ (.pointer none)) n kn _ av pl lab (F.cut x) ∧ OnlyK n kn w _ by simpa only [Nat.zero_add, Nat.add_zero] using HEND.out)
                have HFR := Lib.hid (show FreshK w kv (updV kv p (.slice b3 (m + (L - k1)) c3)) by first | exact fresh_upd hown3 | simpa only [Nat.zero_add, Nat.add_zero] using fresh_upd (kv := kv) (p := p) hown3)
                clear HEND hown2 hgrow2 hown3 hgrow3
                go_wp2
                go_end0
                exact ⟨_, rfl, Lib.hid HE.out.1, Lib.hid HE.out.2, HFR⟩
              exact AllReadyH.nil
            exact AllReadyH.nil
          exact AllReadyH.nil
        exact AllReadyH.nil
      refine AllReadyH.cons (o := { dst := some 28, op := .load 63 (.tmp 27), type := 63, pos := "change.go:102", after := #[{ on := 20, ground := .data }], guard := none }) rfl (fun K hK => ?_) ?_
      · skip
        go_simp
        refine hK.out _ _ ?_ (fun hHeld => ?_)
        · (first | go_keep | exact e10' _ | exact e6' | exact e6)
        clear hK K
        try simp only [Act.put, List.setIfInBounds_toArray, List.set_cons_zero, List.set_cons_succ]
        refine wpAnyH_take (i := 24) (oi := { dst := some 31, op := .slice 63 (.tmp 28) (some (.tmp 30)) none none, type := 63, pos := "change.go:102", after := #[{ on := 21, ground := .data }, { on := 23, ground := .data }], guard := none }) (v := ?_) rfl (by kernel_rfl) (by kernel_rfl) (by kernel_rfl) (fun _ _ _ h => h) (Or.inl ⟨by rfl, ?_⟩) (by assumption) ?_
        rotate_left
        · (intro w hSw; (try dsimp only at hSw); go_simp; try with_reducible rfl)
        try simp only [Act.put, List.setIfInBounds_toArray, List.set_cons_zero, List.set_cons_succ]
        refine wpAnyH_ready (rs := [4]) (by kernel_rfl) (by simp) ?_
        refine AllReadyH.cons (o := { dst := some 11, op := .buildSlice 63 0 #[], type := 63, pos := "change.go:102", after := #[], guard := none }) rfl (fun K hK => ?_) ?_
        · skip
          go_simp
          refine hK.out _ _ ?_ (fun hHeld => ?_)
          · (first | go_keep | exact e10' _ | exact e6' | exact e6)
          clear hK K
          try simp only [Act.put, List.setIfInBounds_toArray, List.set_cons_zero, List.set_cons_succ]
          refine wpAnyH_ready (rs := [14]) (by kernel_rfl) (by simp) ?_
          refine AllReadyH.cons (o := { dst := some 21, op := .call { callee := .builtin .append, args := #[.tmp 11, .tmp 20], argTypes := #[63, 63] }, type := 63, pos := "change.go:102", after := #[{ on := 4, ground := .data }, { on := 13, ground := .data }], guard := none }) rfl (fun K hK => ?_) ?_
          · skip
            refine step_append_reads (by rfl) _ _ _ (by rfl) w.heap.size 66 i0 (.pointer none) 8 Tryz.underlying63 hi hz0 hz1 hz2 rfl (some ⟨w.heap.size, 0, none⟩) 0 0 [] (by rfl) (owns_empty w w.heap.size (Nat.le_refl _) _).drew (some ⟨g, 0, none⟩) m cap (a.map fun y => ptrV (kn y)) (by rfl) (HR1.out.below ((Below.refl _ _).alloc (Nat.le_refl _) _).drew) ptrK_one (by unfold maxLen; omega) (by omega) (by simp) ?_
            intro b2 c2 w2 hown2 hgrow2
            rw [Nat.zero_add, List.nil_append] at hown2
            rw [Nat.zero_add]
            have hbel2 : Below w.heap.size w w2 := (((Below.refl _ _).alloc (Nat.le_refl _) _).drew).grown hgrow2 (by simp) (fun q hq => by simp [Value.ownBlock] at hq; omega)
            have HR2w := HRR.out.below hbel2
            have hszw := hbel2.size
            have e6 := cell_below hbel2 c6
            have e7 := cell_below hbel2 c7
            refine hK.out _ _ ?_ (fun hHeld => ?_)
            · (first | go_keep | exact e10' _ | exact e6' | exact e6)
            clear hK K
            try simp only [Act.put, List.setIfInBounds_toArray, List.set_cons_zero, List.set_cons_succ]
            refine wpAnyH_ready (rs := [25]) (by kernel_rfl) (by simp) ?_
            refine AllReadyH.cons (o := { dst := some 32, op := .call { callee := .builtin .append, args := #[.tmp 21, .tmp 31], argTypes := #[63, 63] }, type := 63, pos := "change.go:102", after := #[{ on := 14, ground := .data }, { on := 24, ground := .data }, { on := 14, ground := .chain }], guard := none }) rfl (fun K hK => ?_) ?_
            · skip
              refine step_append_reads (by rfl) _ _ _ (by rfl) w.heap.size 66 i0 (.pointer none) 8 Tryz.underlying63 hi hz0 hz1 hz2 rfl b2 m c2 (a.map fun y => ptrV (kn y)) (by rfl) hown2 (some ⟨g, k1, none⟩) (L - k1) (cap - k1) (b.map fun y => ptrV (kn y)) (by rfl) HR2w ptrK_one (by unfold maxLen; omega) (by omega) hszw ?_
              intro b3 c3 w3 hown3 hgrow3
              have hbel3 : Below w.heap.size w w3 := hbel2.grown hgrow3 hbel2.size (fun q hq => (World.ownsRow.lt hown2 q hq).1)
              have e6' := cell_below hbel3 c6
              have e7' := cell_below hbel3 c7
              have e8' : w3.frozen? ⟨kn p, 7, none⟩ = false := ((H.out.below hbel3).node p HX.out.2).free 7
              have e9' : w3.frozen? ⟨kn x, 6, none⟩ = false := ((H.out.below hbel3).node x HX.out.1).free 6
              have e10' : ∀ u, (w3.setCell ⟨kn p, 7, none⟩ u).cell? ⟨kn x, 6, none⟩ = some (.pointer (some ⟨kn p, 0, none⟩)) := fun u => (cell_setCell_far ((H.out.below hbel3).node p HX.out.2) 7 u (p := ⟨kn x, 6, none⟩) (H.out.ne HX.out.1 HX.out.2 (irrK HF.out HL.out))).trans e6'
              have HEND := Lib.hid (cutK_end H.out HF.out HL.out HX.out.2 HX.out.1 hbel3 hown3 (by have := HLEN.out; simp only [List.length_append]; omega) (by simp))
              refine hK.out _ _ ?_ (fun hHeld => ?_)
              · (first | go_keep | exact e10' _ | exact e6' | exact e6)
              clear hK K
              try simp only [Act.put, List.setIfInBounds_toArray, List.set_cons_zero, List.set_cons_succ]
              refine wpAnyH_take (i := 26) (oi := { dst := some 33, op := .nilCheck (.tmp 10), type := 0, pos := "change.go:102", after := #[{ on := 3, ground := .data }, { on := 0, ground := .phase }, { on := 1, ground := .phase }, { on := 2, ground := .phase }, { on := 3, ground := .phase }, { on := 4, ground := .phase }, { on := 5, ground := .phase }, { on := 6, ground := .phase }, { on := 7, ground := .phase }, { on := 8, ground := .phase }, { on := 9, ground := .phase }, { on := 10, ground := .phase }, { on := 11, ground := .phase }, { on := 12, ground := .phase }, { on := 13, ground := .phase }, { on := 14, ground := .phase }, { on := 15, ground := .phase }, { on := 16, ground := .phase }, { on := 17, ground := .phase }, { on := 18, ground := .phase }, { on := 19, ground := .phase }, { on := 20, ground := .phase }, { on := 21, ground := .phase }, { on := 22, ground := .phase }, { on := 23, ground := .phase }, { on := 24, ground := .phase }, { on := 25, ground := .phase }], guard := none }) (v := ?_) rfl (by kernel_rfl) (by kernel_rfl) (by kernel_rfl) (fun _ _ _ h => h) (Or.inl ⟨by rfl, ?_⟩) (by assumption) ?_
              rotate_left
              · (intro w hSw; (try dsimp only at hSw); go_simp; try with_reducible rfl)
              try simp only [Act.put, List.setIfInBounds_toArray, List.set_cons_zero, List.set_cons_succ]
              refine wpAnyH_take (i := 27) (oi := { dst := some 34, op := .fieldAddr 93 (.tmp 33) 3, type := 0, pos := "change.go:102", after := #[{ on := 26, ground := .data }, { on := 0, ground := .phase }, { on := 1, ground := .phase }, { on := 2, ground := .phase }, { on := 3, ground := .phase }, { on := 4, ground := .phase }, { on := 5, ground := .phase }, { on := 6, ground := .phase }, { on := 7, ground := .phase }, { on := 8, ground := .phase }, { on := 9, ground := .phase }, { on := 10, ground := .phase }, { on := 11, ground := .phase }, { on := 12, ground := .phase }, { on := 13, ground := .phase }, { on := 14, ground := .phase }, { on := 15, ground := .phase }, { on := 16, ground := .phase }, { on := 17, ground := .phase }, { on := 18, ground := .phase }, { on := 19, ground := .phase }, { on := 20, ground := .phase }, { on := 21, ground := .phase }, { on := 22, ground := .phase }, { on := 23, ground := .phase }, { on := 24, ground := .phase }, { on := 25, ground := .phase }], guard := none }) (v := ?_) rfl (by kernel_rfl) (by kernel_rfl) (by kernel_rfl) (fun _ _ _ h => h) (Or.inl ⟨by rfl, ?_⟩) (by assumption) ?_
              rotate_left
              · (intro w hSw; (try dsimp only at hSw); go_simp; try with_reducible rfl)
              try simp only [Act.put, List.setIfInBounds_toArray, List.set_cons_zero, List.set_cons_succ]
              refine wpAnyH_ready (rs := [28]) (by kernel_rfl) (by simp) ?_
              refine AllReadyH.cons (o := { dst := none, op := .store 63 (.tmp 34) (.tmp 32), type := 0, pos := "change.go:102", after := #[{ on := 27, ground := .data }, { on := 25, ground := .data }, { on := 25, ground := .chain }, { on := 0, ground := .phase }, { on := 1, ground := .phase }, { on := 2, ground := .phase }, { on := 3, ground := .phase }, { on := 4, ground := .phase }, { on := 5, ground := .phase }, { on := 6, ground := .phase }, { on := 7, ground := .phase }, { on := 8, ground := .phase }, { on := 9, ground := .phase }, { on := 10, ground := .phase }, { on := 11, ground := .phase }, { on := 12, ground := .phase }, { on := 13, ground := .phase }, { on := 14, ground := .phase }, { on := 15, ground := .phase }, { on := 16, ground := .phase }, { on := 17, ground := .phase }, { on := 18, ground := .phase }, { on := 19, ground := .phase }, { on := 20, ground := .phase }, { on := 21, ground := .phase }, { on := 22, ground := .phase }, { on := 23, ground := .phase }, { on := 24, ground := .phase }, { on := 25, ground := .phase }], guard := none }) rfl (fun K hK => ?_) ?_
              · skip
                go_simp
                refine hK.out _ _ ?_ (fun hHeld => ?_)
                · (first | go_keep | exact e10' _ | exact e6' | exact e6)
                clear hK K
                try simp only [Act.put, List.setIfInBounds_toArray, List.set_cons_zero, List.set_cons_succ]
                refine wpAnyH_done (by kernel_rfl) ?_ _
                refine NoPanic.normal ?_
                have HE := Lib.hid (show Knots B ((w3.setCell ⟨kn p, 7, none⟩ (.slice b3 (m + (L - k1)) c3)).setCell ⟨kn x, 6, none⟩ (.pointer none)) n kn _ av pl lab (F.cut x) ∧ OnlyK n kn w _ by simpa only [Nat.zero_add, Nat.add_zero] using HEND.out)
                have HFR := Lib.hid (show FreshK w kv (updV kv p (.slice b3 (m + (L - k1)) c3)) by first | exact fresh_upd hown3 | simpa only [Nat.zero_add, Nat.add_zero] using fresh_upd (kv := kv) (p := p) hown3)
                clear HEND hown2 hgrow2 hown3 hgrow3
                go_wp2
                go_end0
                exact ⟨_, rfl, Lib.hid HE.out.1, Lib.hid HE.out.2, HFR⟩
              exact AllReadyH.nil
            exact AllReadyH.nil
          exact AllReadyH.nil
        exact AllReadyH.nil
      exact AllReadyH.nil
    refine AllReadyH.cons (o := { dst := some 28, op := .load 63 (.tmp 27), type := 63, pos := "change.go:102", after := #[{ on := 20, ground := .data }], guard := none }) rfl (fun K hK => ?_) ?_
    · skip
      go_simp
      refine hK.out _ _ ?_ (fun hHeld => ?_)
      · (first | go_keep | exact e10' _ | exact e6' | exact e6)
      clear hK K
      try simp only [Act.put, List.setIfInBounds_toArray, List.set_cons_zero, List.set_cons_succ]
      refine wpAnyH_take (i := 24) (oi := { dst := some 31, op := .slice 63 (.tmp 28) (some (.tmp 30)) none none, type := 63, pos := "change.go:102", after := #[{ on := 21, ground := .data }, { on := 23, ground := .data }], guard := none }) (v := ?_) rfl (by kernel_rfl) (by kernel_rfl) (by kernel_rfl) (fun _ _ _ h => h) (Or.inl ⟨by rfl, ?_⟩) (by assumption) ?_
      rotate_left
      · (intro w hSw; (try dsimp only at hSw); go_simp; try with_reducible rfl)
      try simp only [Act.put, List.setIfInBounds_toArray, List.set_cons_zero, List.set_cons_succ]
      refine wpAnyH_ready (rs := [4, 11]) (by kernel_rfl) (by simp) ?_
      refine AllReadyH.cons (o := { dst := some 11, op := .buildSlice 63 0 #[], type := 63, pos := "change.go:102", after := #[], guard := none }) rfl (fun K hK => ?_) ?_
      · skip
        go_simp
        refine hK.out _ _ ?_ (fun hHeld => ?_)
        · (first | go_keep | exact e10' _ | exact e6' | exact e6)
        clear hK K
        try simp only [Act.put, List.setIfInBounds_toArray, List.set_cons_zero, List.set_cons_succ]
        refine wpAnyH_ready (rs := [11]) (by kernel_rfl) (by simp) ?_
        refine AllReadyH.cons (o := { dst := some 18, op := .load 63 (.tmp 17), type := 63, pos := "change.go:102", after := #[{ on := 10, ground := .data }], guard := none }) rfl (fun K hK => ?_) ?_
        · skip
          go_simp
          refine hK.out _ _ ?_ (fun hHeld => ?_)
          · (first | go_keep | exact e10' _ | exact e6' | exact e6)
          clear hK K
          try simp only [Act.put, List.setIfInBounds_toArray, List.set_cons_zero, List.set_cons_succ]
          refine wpAnyH_take (i := 13) (oi := { dst := some 20, op := .slice 63 (.tmp 18) none (some (.tmp 19)) none, type := 63, pos := "change.go:102", after := #[{ on := 11, ground := .data }, { on := 12, ground := .data }], guard := none }) (v := ?_) rfl (by kernel_rfl) (by kernel_rfl) (by kernel_rfl) (fun _ _ _ h => h) (Or.inl ⟨by rfl, ?_⟩) (by assumption) ?_
          rotate_left
          · (intro w hSw; (try dsimp only at hSw); go_simp; try with_reducible rfl)
          try simp only [Act.put, List.setIfInBounds_toArray, List.set_cons_zero, List.set_cons_succ]
          refine wpAnyH_ready (rs := [14]) (by kernel_rfl) (by simp) ?_
          refine AllReadyH.cons (o := { dst := some 21, op := .call { callee := .builtin .append, args := #[.tmp 11, .tmp 20], argTypes := #[63, 63] }, type := 63, pos := "change.go:102", after := #[{ on := 4, ground := .data }, { on := 13, ground := .data }], guard := none }) rfl (fun K hK => ?_) ?_
          · skip
            refine step_append_reads (by rfl) _ _ _ (by rfl) w.heap.size 66 i0 (.pointer none) 8 Tryz.underlying63 hi hz0 hz1 hz2 rfl (some ⟨w.heap.size, 0, none⟩) 0 0 [] (by rfl) (owns_empty w w.heap.size (Nat.le_refl _) _).drew (some ⟨g, 0, none⟩) m cap (a.map fun y => ptrV (kn y)) (by rfl) (HR1.out.below ((Below.refl _ _).alloc (Nat.le_refl _) _).drew) ptrK_one (by unfold maxLen; omega) (by omega) (by simp) ?_
            intro b2 c2 w2 hown2 hgrow2
            rw [Nat.zero_add, List.nil_append] at hown2
            rw [Nat.zero_add]
            have hbel2 : Below w.heap.size w w2 := (((Below.refl _ _).alloc (Nat.le_refl _) _).drew).grown hgrow2 (by simp) (fun q hq => by simp [Value.ownBlock] at hq; omega)
            have HR2w := HRR.out.below hbel2
            have hszw := hbel2.size
            have e6 := cell_below hbel2 c6
            have e7 := cell_below hbel2 c7
            refine hK.out _ _ ?_ (fun hHeld => ?_)
            · (first | go_keep | exact e10' _ | exact e6' | exact e6)
            clear hK K
            try simp only [Act.put, List.setIfInBounds_toArray, List.set_cons_zero, List.set_cons_succ]
            refine wpAnyH_ready (rs := [25]) (by kernel_rfl) (by simp) ?_
            refine AllReadyH.cons (o := { dst := some 32, op := .call { callee := .builtin .append, args := #[.tmp 21, .tmp 31], argTypes := #[63, 63] }, type := 63, pos := "change.go:102", after := #[{ on := 14, ground := .data }, { on := 24, ground := .data }, { on := 14, ground := .chain }], guard := none }) rfl (fun K hK => ?_) ?_
            · skip
              refine step_append_reads (by rfl) _ _ _ (by rfl) w.heap.size 66 i0 (.pointer none) 8 Tryz.underlying63 hi hz0 hz1 hz2 rfl b2 m c2 (a.map fun y => ptrV (kn y)) (by rfl) hown2 (some ⟨g, k1, none⟩) (L - k1) (cap - k1) (b.map fun y => ptrV (kn y)) (by rfl) HR2w ptrK_one (by unfold maxLen; omega) (by omega) hszw ?_
              intro b3 c3 w3 hown3 hgrow3
              have hbel3 : Below w.heap.size w w3 := hbel2.grown hgrow3 hbel2.size (fun q hq => (World.ownsRow.lt hown2 q hq).1)
              have e6' := cell_below hbel3 c6
              have e7' := cell_below hbel3 c7
              have e8' : w3.frozen? ⟨kn p, 7, none⟩ = false := ((H.out.below hbel3).node p HX.out.2).free 7
              have e9' : w3.frozen? ⟨kn x, 6, none⟩ = false := ((H.out.below hbel3).node x HX.out.1).free 6
              have e10' : ∀ u, (w3.setCell ⟨kn p, 7, none⟩ u).cell? ⟨kn x, 6, none⟩ = some (.pointer (some ⟨kn p, 0, none⟩)) := fun u => (cell_setCell_far ((H.out.below hbel3).node p HX.out.2) 7 u (p := ⟨kn x, 6, none⟩) (H.out.ne HX.out.1 HX.out.2 (irrK HF.out HL.out))).trans e6'
              have HEND := Lib.hid (cutK_end H.out HF.out HL.out HX.out.2 HX.out.1 hbel3 hown3 (by have := HLEN.out; simp only [List.length_append]; omega) (by simp))
              refine hK.out _ _ ?_ (fun hHeld => ?_)
              · (first | go_keep | exact e10' _ | exact e6' | exact e6)
              clear hK K
              try simp only [Act.put, List.setIfInBounds_toArray, List.set_cons_zero, List.set_cons_succ]
              refine wpAnyH_take (i := 26) (oi := { dst := some 33, op := .nilCheck (.tmp 10), type := 0, pos := "change.go:102", after := #[{ on := 3, ground := .data }, { on := 0, ground := .phase }, { on := 1, ground := .phase }, { on := 2, ground := .phase }, { on := 3, ground := .phase }, { on := 4, ground := .phase }, { on := 5, ground := .phase }, { on := 6, ground := .phase }, { on := 7, ground := .phase }, { on := 8, ground := .phase }, { on := 9, ground := .phase }, { on := 10, ground := .phase }, { on := 11, ground := .phase }, { on := 12, ground := .phase }, { on := 13, ground := .phase }, { on := 14, ground := .phase }, { on := 15, ground := .phase }, { on := 16, ground := .phase }, { on := 17, ground := .phase }, { on := 18, ground := .phase }, { on := 19, ground := .phase }, { on := 20, ground := .phase }, { on := 21, ground := .phase }, { on := 22, ground := .phase }, { on := 23, ground := .phase }, { on := 24, ground := .phase }, { on := 25, ground := .phase }], guard := none }) (v := ?_) rfl (by kernel_rfl) (by kernel_rfl) (by kernel_rfl) (fun _ _ _ h => h) (Or.inl ⟨by rfl, ?_⟩) (by assumption) ?_
              rotate_left
              · (intro w hSw; (try dsimp only at hSw); go_simp; try with_reducible rfl)
              try simp only [Act.put, List.setIfInBounds_toArray, List.set_cons_zero, List.set_cons_succ]
              refine wpAnyH_take (i := 27) (oi := { dst := some 34, op := .fieldAddr 93 (.tmp 33) 3, type := 0, pos := "change.go:102", after := #[{ on := 26, ground := .data }, { on := 0, ground := .phase }, { on := 1, ground := .phase }, { on := 2, ground := .phase }, { on := 3, ground := .phase }, { on := 4, ground := .phase }, { on := 5, ground := .phase }, { on := 6, ground := .phase }, { on := 7, ground := .phase }, { on := 8, ground := .phase }, { on := 9, ground := .phase }, { on := 10, ground := .phase }, { on := 11, ground := .phase }, { on := 12, ground := .phase }, { on := 13, ground := .phase }, { on := 14, ground := .phase }, { on := 15, ground := .phase }, { on := 16, ground := .phase }, { on := 17, ground := .phase }, { on := 18, ground := .phase }, { on := 19, ground := .phase }, { on := 20, ground := .phase }, { on := 21, ground := .phase }, { on := 22, ground := .phase }, { on := 23, ground := .phase }, { on := 24, ground := .phase }, { on := 25, ground := .phase }], guard := none }) (v := ?_) rfl (by kernel_rfl) (by kernel_rfl) (by kernel_rfl) (fun _ _ _ h => h) (Or.inl ⟨by rfl, ?_⟩) (by assumption) ?_
              rotate_left
              · (intro w hSw; (try dsimp only at hSw); go_simp; try with_reducible rfl)
              try simp only [Act.put, List.setIfInBounds_toArray, List.set_cons_zero, List.set_cons_succ]
              refine wpAnyH_ready (rs := [28]) (by kernel_rfl) (by simp) ?_
              refine AllReadyH.cons (o := { dst := none, op := .store 63 (.tmp 34) (.tmp 32), type := 0, pos := "change.go:102", after := #[{ on := 27, ground := .data }, { on := 25, ground := .data }, { on := 25, ground := .chain }, { on := 0, ground := .phase }, { on := 1, ground := .phase }, { on := 2, ground := .phase }, { on := 3, ground := .phase }, { on := 4, ground := .phase }, { on := 5, ground := .phase }, { on := 6, ground := .phase }, { on := 7, ground := .phase }, { on := 8, ground := .phase }, { on := 9, ground := .phase }, { on := 10, ground := .phase }, { on := 11, ground := .phase }, { on := 12, ground := .phase }, { on := 13, ground := .phase }, { on := 14, ground := .phase }, { on := 15, ground := .phase }, { on := 16, ground := .phase }, { on := 17, ground := .phase }, { on := 18, ground := .phase }, { on := 19, ground := .phase }, { on := 20, ground := .phase }, { on := 21, ground := .phase }, { on := 22, ground := .phase }, { on := 23, ground := .phase }, { on := 24, ground := .phase }, { on := 25, ground := .phase }], guard := none }) rfl (fun K hK => ?_) ?_
              · skip
                go_simp
                refine hK.out _ _ ?_ (fun hHeld => ?_)
                · (first | go_keep | exact e10' _ | exact e6' | exact e6)
                clear hK K
                try simp only [Act.put, List.setIfInBounds_toArray, List.set_cons_zero, List.set_cons_succ]
                refine wpAnyH_done (by kernel_rfl) ?_ _
                refine NoPanic.normal ?_
                have HE := Lib.hid (show Knots B ((w3.setCell ⟨kn p, 7, none⟩ (.slice b3 (m + (L - k1)) c3)).setCell ⟨kn x, 6, none⟩ (.pointer none)) n kn _ av pl lab (F.cut x) ∧ OnlyK n kn w _ by simpa only [Nat.zero_add, Nat.add_zero] using HEND.out)
                have HFR := Lib.hid (show FreshK w kv (updV kv p (.slice b3 (m + (L - k1)) c3)) by first | exact fresh_upd hown3 | simpa only [Nat.zero_add, Nat.add_zero] using fresh_upd (kv := kv) (p := p) hown3)
                clear HEND hown2 hgrow2 hown3 hgrow3
                go_wp2
                go_end0
                exact ⟨_, rfl, Lib.hid HE.out.1, Lib.hid HE.out.2, HFR⟩
              exact AllReadyH.nil
            exact AllReadyH.nil
          exact AllReadyH.nil
        exact AllReadyH.nil
      refine AllReadyH.cons (o := { dst := some 18, op := .load 63 (.tmp 17), type := 63, pos := "change.go:102", after := #[{ on := 10, ground := .data }], guard := none }) rfl (fun K hK => ?_) ?_
      · skip
        go_simp
        refine hK.out _ _ ?_ (fun hHeld => ?_)
        · (first | go_keep | exact e10' _ | exact e6' | exact e6)
        clear hK K
        try simp only [Act.put, List.setIfInBounds_toArray, List.set_cons_zero, List.set_cons_succ]
        refine wpAnyH_take (i := 13) (oi := { dst := some 20, op := .slice 63 (.tmp 18) none (some (.tmp 19)) none, type := 63, pos := "change.go:102", after := #[{ on := 11, ground := .data }, { on := 12, ground := .data }], guard := none }) (v := ?_) rfl (by kernel_rfl) (by kernel_rfl) (by kernel_rfl) (fun _ _ _ h => h) (Or.inl ⟨by rfl, ?_⟩) (by assumption) ?_
        rotate_left
        · (intro w hSw; (try dsimp only at hSw); go_simp; try with_reducible rfl)
        try simp only [Act.put, List.setIfInBounds_toArray, List.set_cons_zero, List.set_cons_succ]
        refine wpAnyH_ready (rs := [4]) (by kernel_rfl) (by simp) ?_
        refine AllReadyH.cons (o := { dst := some 11, op := .buildSlice 63 0 #[], type := 63, pos := "change.go:102", after := #[], guard := none }) rfl (fun K hK => ?_) ?_
        · skip
          go_simp
          refine hK.out _ _ ?_ (fun hHeld => ?_)
          · (first | go_keep | exact e10' _ | exact e6' | exact e6)
          clear hK K
          try simp only [Act.put, List.setIfInBounds_toArray, List.set_cons_zero, List.set_cons_succ]
          refine wpAnyH_ready (rs := [14]) (by kernel_rfl) (by simp) ?_
          refine AllReadyH.cons (o := { dst := some 21, op := .call { callee := .builtin .append, args := #[.tmp 11, .tmp 20], argTypes := #[63, 63] }, type := 63, pos := "change.go:102", after := #[{ on := 4, ground := .data }, { on := 13, ground := .data }], guard := none }) rfl (fun K hK => ?_) ?_
          · skip
            refine step_append_reads (by rfl) _ _ _ (by rfl) w.heap.size 66 i0 (.pointer none) 8 Tryz.underlying63 hi hz0 hz1 hz2 rfl (some ⟨w.heap.size, 0, none⟩) 0 0 [] (by rfl) (owns_empty w w.heap.size (Nat.le_refl _) _).drew (some ⟨g, 0, none⟩) m cap (a.map fun y => ptrV (kn y)) (by rfl) (HR1.out.below ((Below.refl _ _).alloc (Nat.le_refl _) _).drew) ptrK_one (by unfold maxLen; omega) (by omega) (by simp) ?_
            intro b2 c2 w2 hown2 hgrow2
            rw [Nat.zero_add, List.nil_append] at hown2
            rw [Nat.zero_add]
            have hbel2 : Below w.heap.size w w2 := (((Below.refl _ _).alloc (Nat.le_refl _) _).drew).grown hgrow2 (by simp) (fun q hq => by simp [Value.ownBlock] at hq; omega)
            have HR2w := HRR.out.below hbel2
            have hszw := hbel2.size
            have e6 := cell_below hbel2 c6
            have e7 := cell_below hbel2 c7
            refine hK.out _ _ ?_ (fun hHeld => ?_)
            · (first | go_keep | exact e10' _ | exact e6' | exact e6)
            clear hK K
            try simp only [Act.put, List.setIfInBounds_toArray, List.set_cons_zero, List.set_cons_succ]
            refine wpAnyH_ready (rs := [25]) (by kernel_rfl) (by simp) ?_
            refine AllReadyH.cons (o := { dst := some 32, op := .call { callee := .builtin .append, args := #[.tmp 21, .tmp 31], argTypes := #[63, 63] }, type := 63, pos := "change.go:102", after := #[{ on := 14, ground := .data }, { on := 24, ground := .data }, { on := 14, ground := .chain }], guard := none }) rfl (fun K hK => ?_) ?_
            · skip
              refine step_append_reads (by rfl) _ _ _ (by rfl) w.heap.size 66 i0 (.pointer none) 8 Tryz.underlying63 hi hz0 hz1 hz2 rfl b2 m c2 (a.map fun y => ptrV (kn y)) (by rfl) hown2 (some ⟨g, k1, none⟩) (L - k1) (cap - k1) (b.map fun y => ptrV (kn y)) (by rfl) HR2w ptrK_one (by unfold maxLen; omega) (by omega) hszw ?_
              intro b3 c3 w3 hown3 hgrow3
              have hbel3 : Below w.heap.size w w3 := hbel2.grown hgrow3 hbel2.size (fun q hq => (World.ownsRow.lt hown2 q hq).1)
              have e6' := cell_below hbel3 c6
              have e7' := cell_below hbel3 c7
              have e8' : w3.frozen? ⟨kn p, 7, none⟩ = false := ((H.out.below hbel3).node p HX.out.2).free 7
              have e9' : w3.frozen? ⟨kn x, 6, none⟩ = false := ((H.out.below hbel3).node x HX.out.1).free 6
              have e10' : ∀ u, (w3.setCell ⟨kn p, 7, none⟩ u).cell? ⟨kn x, 6, none⟩ = some (.pointer (some ⟨kn p, 0, none⟩)) := fun u => (cell_setCell_far ((H.out.below hbel3).node p HX.out.2) 7 u (p := ⟨kn x, 6, none⟩) (H.out.ne HX.out.1 HX.out.2 (irrK HF.out HL.out))).trans e6'
              have HEND := Lib.hid (cutK_end H.out HF.out HL.out HX.out.2 HX.out.1 hbel3 hown3 (by have := HLEN.out; simp only [List.length_append]; omega) (by simp))
              refine hK.out _ _ ?_ (fun hHeld => ?_)
              · (first | go_keep | exact e10' _ | exact e6' | exact e6)
              clear hK K
              try simp only [Act.put, List.setIfInBounds_toArray, List.set_cons_zero, List.set_cons_succ]
              refine wpAnyH_take (i := 26) (oi := { dst := some 33, op := .nilCheck (.tmp 10), type := 0, pos := "change.go:102", after := #[{ on := 3, ground := .data }, { on := 0, ground := .phase }, { on := 1, ground := .phase }, { on := 2, ground := .phase }, { on := 3, ground := .phase }, { on := 4, ground := .phase }, { on := 5, ground := .phase }, { on := 6, ground := .phase }, { on := 7, ground := .phase }, { on := 8, ground := .phase }, { on := 9, ground := .phase }, { on := 10, ground := .phase }, { on := 11, ground := .phase }, { on := 12, ground := .phase }, { on := 13, ground := .phase }, { on := 14, ground := .phase }, { on := 15, ground := .phase }, { on := 16, ground := .phase }, { on := 17, ground := .phase }, { on := 18, ground := .phase }, { on := 19, ground := .phase }, { on := 20, ground := .phase }, { on := 21, ground := .phase }, { on := 22, ground := .phase }, { on := 23, ground := .phase }, { on := 24, ground := .phase }, { on := 25, ground := .phase }], guard := none }) (v := ?_) rfl (by kernel_rfl) (by kernel_rfl) (by kernel_rfl) (fun _ _ _ h => h) (Or.inl ⟨by rfl, ?_⟩) (by assumption) ?_
              rotate_left
              · (intro w hSw; (try dsimp only at hSw); go_simp; try with_reducible rfl)
              try simp only [Act.put, List.setIfInBounds_toArray, List.set_cons_zero, List.set_cons_succ]
              refine wpAnyH_take (i := 27) (oi := { dst := some 34, op := .fieldAddr 93 (.tmp 33) 3, type := 0, pos := "change.go:102", after := #[{ on := 26, ground := .data }, { on := 0, ground := .phase }, { on := 1, ground := .phase }, { on := 2, ground := .phase }, { on := 3, ground := .phase }, { on := 4, ground := .phase }, { on := 5, ground := .phase }, { on := 6, ground := .phase }, { on := 7, ground := .phase }, { on := 8, ground := .phase }, { on := 9, ground := .phase }, { on := 10, ground := .phase }, { on := 11, ground := .phase }, { on := 12, ground := .phase }, { on := 13, ground := .phase }, { on := 14, ground := .phase }, { on := 15, ground := .phase }, { on := 16, ground := .phase }, { on := 17, ground := .phase }, { on := 18, ground := .phase }, { on := 19, ground := .phase }, { on := 20, ground := .phase }, { on := 21, ground := .phase }, { on := 22, ground := .phase }, { on := 23, ground := .phase }, { on := 24, ground := .phase }, { on := 25, ground := .phase }], guard := none }) (v := ?_) rfl (by kernel_rfl) (by kernel_rfl) (by kernel_rfl) (fun _ _ _ h => h) (Or.inl ⟨by rfl, ?_⟩) (by assumption) ?_
              rotate_left
              · (intro w hSw; (try dsimp only at hSw); go_simp; try with_reducible rfl)
              try simp only [Act.put, List.setIfInBounds_toArray, List.set_cons_zero, List.set_cons_succ]
              refine wpAnyH_ready (rs := [28]) (by kernel_rfl) (by simp) ?_
              refine AllReadyH.cons (o := { dst := none, op := .store 63 (.tmp 34) (.tmp 32), type := 0, pos := "change.go:102", after := #[{ on := 27, ground := .data }, { on := 25, ground := .data }, { on := 25, ground := .chain }, { on := 0, ground := .phase }, { on := 1, ground := .phase }, { on := 2, ground := .phase }, { on := 3, ground := .phase }, { on := 4, ground := .phase }, { on := 5, ground := .phase }, { on := 6, ground := .phase }, { on := 7, ground := .phase }, { on := 8, ground := .phase }, { on := 9, ground := .phase }, { on := 10, ground := .phase }, { on := 11, ground := .phase }, { on := 12, ground := .phase }, { on := 13, ground := .phase }, { on := 14, ground := .phase }, { on := 15, ground := .phase }, { on := 16, ground := .phase }, { on := 17, ground := .phase }, { on := 18, ground := .phase }, { on := 19, ground := .phase }, { on := 20, ground := .phase }, { on := 21, ground := .phase }, { on := 22, ground := .phase }, { on := 23, ground := .phase }, { on := 24, ground := .phase }, { on := 25, ground := .phase }], guard := none }) rfl (fun K hK => ?_) ?_
              · skip
                go_simp
                refine hK.out _ _ ?_ (fun hHeld => ?_)
                · (first | go_keep | exact e10' _ | exact e6' | exact e6)
                clear hK K
                try simp only [Act.put, List.setIfInBounds_toArray, List.set_cons_zero, List.set_cons_succ]
                refine wpAnyH_done (by kernel_rfl) ?_ _
                refine NoPanic.normal ?_
                have HE := Lib.hid (show Knots B ((w3.setCell ⟨kn p, 7, none⟩ (.slice b3 (m + (L - k1)) c3)).setCell ⟨kn x, 6, none⟩ (.pointer none)) n kn _ av pl lab (F.cut x) ∧ OnlyK n kn w _ by simpa only [Nat.zero_add, Nat.add_zero] using HEND.out)
                have HFR := Lib.hid (show FreshK w kv (updV kv p (.slice b3 (m + (L - k1)) c3)) by first | exact fresh_upd hown3 | simpa only [Nat.zero_add, Nat.add_zero] using fresh_upd (kv := kv) (p := p) hown3)
                clear HEND hown2 hgrow2 hown3 hgrow3
                go_wp2
                go_end0
                exact ⟨_, rfl, Lib.hid HE.out.1, Lib.hid HE.out.2, HFR⟩
              exact AllReadyH.nil
            exact AllReadyH.nil
          exact AllReadyH.nil
        exact AllReadyH.nil
      exact AllReadyH.nil
    exact AllReadyH.nil

theorem cutK_some {B : Nat} {w : World} {n : Nat} {kn : Nat → Nat} {kv av : Nat → Value} {pl : Nat → Int} {lab : Nat → NodeD} {F : Wd} (h : Knots B w n kn kv av pl lab F) (hF : WOk n F) (hn : n ≤ 1000000) {x p : Nat} {a b : List Nat} (hl : F.kids p = a ++ x :: b) :
    Calls Tryz.prog 44 #[.pointer (some ⟨kn x, 0, none⟩)] w (TurnKPost B n kn av pl lab (F.cut x) w) := by
  refine (cutK_fresh h hF hn hl).mono ?_
  rintro e w' ⟨kv', he, hk, ho, _⟩
  exact ⟨kv', he, hk, ho⟩

end Go.Proofs.YtoleejaabiafcaaGreat
