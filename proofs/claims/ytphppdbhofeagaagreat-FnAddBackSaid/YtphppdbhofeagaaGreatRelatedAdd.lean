/- spec.Related at AddNodes. -/
import Derived.Test.YtphppdbhofeagaaGreatRelSib
import Derived.Test.YtphppdbhofeagaaGreatOnce
import Derived.Deep.RegionHeld3
namespace Go.Proofs.YtphppdbhofeagaaGreat
open Go.RowKit
set_option linter.unusedVariables false
set_option linter.unusedSimpArgs false

def AddRow (l : List Nat) (w : World) (e : Ending) (w' : World) : Prop := ∃ v, e = .returned (.tuple #[v, .bool true]) ∧ Hid (OwnPl w' w.heap.size v l) ∧ Hid (Below w.heap.size w w')

set_option maxRecDepth 100000 in
set_option maxHeartbeats 4000000 in
theorem related_37 (ta : Option Addr) (len cap : Nat) (v v2 : Value) (l l2 : List Nat) (w : World) (hv : ReadsAs w v (l.map intV)) (hv2 : ReadsAs w v2 (l2.map intV)) (hn : l.length ≤ 400) (hn2 : l2.length ≤ 400) :
    Calls Tryz.prog 8 #[.slice ta len cap, v, .agg #[.int .i64 37, .string ⟨#[]⟩, v2, .int .i64 0, .int .i64 0]] w (AddRow (onceF (l ++ l2)) w) := by
  obtain ⟨a1, c1, rfl, _⟩ := hv.nil
  obtain ⟨a2, c2, rfl, _⟩ := hv2.nil
  rw [List.length_map] at hv hv2 ⊢
  have hb0 : Below w.heap.size w (w.alloc (.cells #[.int .i64 37, .string ⟨#[]⟩, .slice a2 l2.length c2, .int .i64 0, .int .i64 0] 27)) := (Below.refl _ _).alloc (Nat.le_refl _) _
  have hp : ∀ i u, (#[.int .i64 37, .string ⟨#[]⟩, .slice a2 l2.length c2, .int .i64 0, .int .i64 0] : Array Value)[i]? = some u → (w.alloc (.cells #[.int .i64 37, .string ⟨#[]⟩, .slice a2 l2.length c2, .int .i64 0, .int .i64 0] 27)).cell? ⟨w.heap.size, i, none⟩ = some u := fun i u h => cell_alloc_new' _ _ _ rfl h
  obtain ⟨w0, hw0⟩ : ∃ w0, w.alloc (.cells #[.int .i64 37, .string ⟨#[]⟩, .slice a2 l2.length c2, .int .i64 0, .int .i64 0] 27) = w0 := ⟨_, rfl⟩
  rw [hw0] at hb0 hp
  have q0 : w0.cell? ⟨w.heap.size, 0, none⟩ = some (.int .i64 37) := hp 0 _ rfl
  have q2 : w0.cell? ⟨w.heap.size, 2, none⟩ = some (.slice a2 l2.length c2) := hp 2 _ rfl
  have hml : w.heap.size < w0.heap.size := World.block_lt_of_cell? _ _ q0
  have HB := Lib.hid hb0
  have hrv : Row w0 a1 l.length (l.map intV) := by have h := (reads_row hv).below hb0; exact h
  have hr2 : Row w0 a2 l2.length (l2.map intV) := by have h := (reads_row hv2).below hb0; exact h
  have HR := Lib.hid (And.intro hrv hr2)
  obtain ⟨i0, hi, hz0, hz1, hz2⟩ := info_parts Tryz.infoInt
  rw [List.length_map]
  clear hv hv2 hb0 hp hrv hr2
  go_enter Tryz.func8, Tryz.ntmps8
  go_wp2_with fail
  refine wp_region_any (by kernel_rfl) ?_
  try (change wpAny _ _ _ _ _ _ _ (World.drew _))
  obtain ⟨wd, hwd⟩ : ∃ wd, w0.drew = wd := ⟨_, rfl⟩
  have hbd : Below w0.heap.size w0 wd := by rw [← hwd]; exact (Below.refl _ _).drew
  rw [hwd]
  have hHeld : wd.cell? ⟨w.heap.size, 2, none⟩ = some (.slice a2 l2.length c2) := cell_below hbd q2
  have hsd : w0.heap.size ≤ wd.heap.size := hbd.size
  have HD := Lib.hid (And.intro hwd hbd)
  clear hwd hbd hw0
  refine wpAny_of_held (S := fun w' => w'.cell? ⟨w.heap.size, 2, none⟩ = some (.slice a2 l2.length c2)) _ _ _ _ ?_
  refine wpAnyH_take (i := 1) (oi := { dst := some 33, op := .move (.tmp 1), type := 23, pos := "relatives.go:85", after := #[], guard := none }) (v := ?_) rfl (by kernel_rfl) (by kernel_rfl) (by kernel_rfl) (fun _ _ _ h => h) (Or.inl ⟨by rfl, ?_⟩) (by assumption) ?_
  rotate_left 1
  · (intro wx hSw; (try dsimp only at hSw); go_simp; try with_reducible rfl)
  try simp only [Act.put, List.setIfInBounds_toArray, List.set_cons_zero, List.set_cons_succ]
  refine wpAnyH_take (i := 3) (oi := { dst := some 35, op := .fieldAddr 27 (.tmp 5) 2, type := 0, pos := "relatives.go:85", after := #[], guard := none }) (v := ?_) rfl (by kernel_rfl) (by kernel_rfl) (by kernel_rfl) (fun _ _ _ h => h) (Or.inl ⟨by rfl, ?_⟩) (by assumption) ?_
  rotate_left 1
  · (intro wx hSw; (try dsimp only at hSw); go_simp; try with_reducible rfl)
  try simp only [Act.put, List.setIfInBounds_toArray, List.set_cons_zero, List.set_cons_succ]
  refine wpAnyH_take (i := 4) (oi := { dst := some 36, op := .load 23 (.tmp 35), type := 23, pos := "relatives.go:85", after := #[{ on := 3, ground := .data }], guard := none }) (v := ?_) rfl (by kernel_rfl) (by kernel_rfl) (by kernel_rfl) (fun _ _ _ h => h) (Or.inl ⟨by rfl, ?_⟩) (by assumption) ?_
  rotate_left 1
  · (intro wx hSw; (try dsimp only at hSw); go_simp; try with_reducible rfl)
  try simp only [Act.put, List.setIfInBounds_toArray, List.set_cons_zero, List.set_cons_succ]
  refine wpAnyH_ready (rs := [0]) (by kernel_rfl) (by simp) ?_
  refine AllReadyH.cons (o := { dst := some 32, op := .buildSlice 23 0 #[], type := 23, pos := "relatives.go:85", after := #[], guard := none }) rfl (fun K hK => ?_) AllReadyH.nil
  go_simp
  have hba : Below w0.heap.size w0 (wd.alloc (.cells #[] 3)) := HD.out.2.alloc hsd _
  have hHeld2 := cell_below hba q2
  refine hK.out _ _ hHeld2 (fun hHeld => ?_)
  clear hK K
  have hoE : (wd.alloc (.cells #[] 3)).ownsRow w0.heap.size 3 1 (.slice (some ⟨wd.heap.size, 0, none⟩) 0 0) 0 [] := owns_empty wd w0.heap.size hsd 3
  have H1 := Lib.hid (And.intro hoE hba)
  obtain ⟨wa, hwa⟩ : ∃ wa, wd.alloc (.cells #[] 3) = wa := ⟨_, rfl⟩
  rw [hwa] at H1 hHeld ⊢
  clear hoE hba hwa hHeld2
  refine wpAnyH_ready (rs := [2]) (by kernel_rfl) (by simp) ?_
  refine AllReadyH.cons (o := { dst := some 34, op := .call { callee := .builtin .append, args := #[.tmp 32, .tmp 33], argTypes := #[23, 23] }, type := 23, pos := "relatives.go:85", after := #[{ on := 0, ground := .data }, { on := 1, ground := .data }], guard := none }) rfl (fun K hK => ?_) AllReadyH.nil
  refine step_append_reads (by rfl) _ _ _ (by rfl) w0.heap.size 3 i0 (.int .i64 0) 8 Tryz.underlying23 hi hz0 hz1 hz2 rfl _ _ _ [] (by rfl) H1.out.1 a1 l.length c1 (l.map intV) (by rfl) (HR.out.1.below H1.out.2) intV_one (by unfold maxLen; omega) (by omega) (by have := H1.out.2.size; omega) ?_
  intro b2 k2 w2 hown2 hgrow2
  rw [Nat.zero_add, List.nil_append] at hown2
  rw [Nat.zero_add]
  have hb2 : Below w0.heap.size w0 w2 := H1.out.2.grown hgrow2 H1.out.2.size (fun q hq => (World.ownsRow.lt H1.out.1 q hq).1)
  have hHeld2 := cell_below hb2 q2
  refine hK.out _ _ hHeld2 (fun hHeld => ?_)
  have H2 := Lib.hid (And.intro hown2 hb2)
  clear hK K hown2 hgrow2 hb2 H1 hHeld2
  try simp only [Act.put, List.setIfInBounds_toArray, List.set_cons_zero, List.set_cons_succ]
  refine wpAnyH_ready (rs := [5]) (by kernel_rfl) (by simp) ?_
  refine AllReadyH.cons (o := { dst := some 37, op := .call { callee := .builtin .append, args := #[.tmp 34, .tmp 36], argTypes := #[23, 23] }, type := 23, pos := "relatives.go:85", after := #[{ on := 2, ground := .data }, { on := 4, ground := .data }, { on := 2, ground := .chain }], guard := none }) rfl (fun K hK => ?_) AllReadyH.nil
  refine step_append_reads (by rfl) _ _ _ (by rfl) w0.heap.size 3 i0 (.int .i64 0) 8 Tryz.underlying23 hi hz0 hz1 hz2 rfl _ _ _ (l.map intV) (by rfl) H2.out.1 a2 l2.length c2 (l2.map intV) (by rfl) (HR.out.2.below H2.out.2) intV_one (by unfold maxLen; omega) (by omega) (by have := H2.out.2.size; omega) ?_
  intro b3 k3 w3 hown3 hgrow3
  have hb3 : Below w0.heap.size w0 w3 := H2.out.2.grown hgrow3 H2.out.2.size (fun q hq => (World.ownsRow.lt H2.out.1 q hq).1)
  have hHeld2 := cell_below hb3 q2
  refine hK.out _ _ hHeld2 (fun hHeld => ?_)
  have hr3 : ReadsAs w3 (.slice b3 (l.length + l2.length) k3) ((l ++ l2).map intV) := by
    have h := owns_reads (l := (l ++ l2).map intV) (v := .slice b3 (l.length + l2.length) k3) (by simpa using hown3)
    exact h
  have hon := once2_any _ (l ++ l2) w3 hr3 (by rw [List.length_append]; omega)
  have HON := Lib.hid hon
  have H3 := Lib.hid hb3
  have hs3 := hb3.size
  clear hK K hown3 hgrow3 hb3 hr3 hon H2 hHeld2
  try simp only [Act.put, List.setIfInBounds_toArray, List.set_cons_zero, List.set_cons_succ]
  refine wpAnyH_ready (rs := [6]) (by kernel_rfl) (by simp) ?_
  refine AllReadyH.cons (o := { dst := some 38, op := .call { callee := .value (.func 20), args := #[.tmp 37], argTypes := #[23] }, type := 23, pos := "relatives.go:85", after := #[{ on := 5, ground := .data }, { on := 5, ground := .chain }], guard := none }) rfl (fun K hK => ?_) AllReadyH.nil
  go_simp
  go_wp2_with (go_at_call 20; refine HON.out.mono ?_; rintro e w4 ⟨v4, rfl, ho4, hb4⟩)
  have hb04 := H3.out.trans (hb4.out.mono hs3)
  have hHeld2 := cell_below hb04 q2
  refine hK.out _ _ hHeld2 (fun hHeld => ?_)
  have H4 := Lib.hid (And.intro (ownsRow_base ho4.out (Nat.le_trans HB.out.size hs3)) (HB.out.trans (hb04.mono HB.out.size)))
  clear hK K ho4 hb4 hb04 HON hHeld2
  try simp only [Act.put, List.setIfInBounds_toArray, List.set_cons_zero, List.set_cons_succ]
  refine wpAnyH_take (i := 7) (oi := { dst := some 6, op := .assign (.tmp 38), type := 23, pos := "relatives.go:85", after := #[{ on := 6, ground := .data }, { on := 6, ground := .chain }, { on := 0, ground := .phase }, { on := 1, ground := .phase }, { on := 2, ground := .phase }, { on := 3, ground := .phase }, { on := 4, ground := .phase }, { on := 5, ground := .phase }, { on := 6, ground := .phase }], guard := none }) (v := ?_) rfl (by kernel_rfl) (by kernel_rfl) (by kernel_rfl) (fun _ _ _ h => h) (Or.inl ⟨by rfl, ?_⟩) (by assumption) ?_
  rotate_left 1
  · (intro wx hSw; (try dsimp only at hSw); go_simp; try with_reducible rfl)
  try simp only [Act.put, List.setIfInBounds_toArray, List.set_cons_zero, List.set_cons_succ]
  refine wpAnyH_take (i := 8) (oi := { dst := some 7, op := .assign (.const (.bool true)), type := 4, pos := "relatives.go:85", after := #[{ on := 7, ground := .chain }, { on := 0, ground := .phase }, { on := 1, ground := .phase }, { on := 2, ground := .phase }, { on := 3, ground := .phase }, { on := 4, ground := .phase }, { on := 5, ground := .phase }, { on := 6, ground := .phase }, { on := 7, ground := .phase }], guard := none }) (v := ?_) rfl (by kernel_rfl) (by kernel_rfl) (by kernel_rfl) (fun _ _ _ h => h) (Or.inl ⟨by rfl, ?_⟩) (by assumption) ?_
  rotate_left 1
  · (intro wx hSw; (try dsimp only at hSw); go_simp; try with_reducible rfl)
  try simp only [Act.put, List.setIfInBounds_toArray, List.set_cons_zero, List.set_cons_succ]
  refine wpAnyH_done (by kernel_rfl) ?_ _
  go_wp2
  go_ret2
  exact ⟨v4, rfl, Lib.hid H4.out.1, Lib.hid H4.out.2⟩

end Go.Proofs.YtphppdbhofeagaaGreat
