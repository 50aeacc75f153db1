/- spec.Related at Add, Union, Intersection, and at no step. -/
import Derived.Test.YtphppdbhofeagaaGreatWkPartAll
import Derived.Test.YtphppdbhofeagaaGreatRelatedAll
namespace Go.Proofs.YtphppdbhofeagaaGreat
open Go.RowKit
set_option linter.unusedVariables false
set_option linter.unusedSimpArgs false

set_option maxRecDepth 100000 in
set_option maxHeartbeats 4000000 in
theorem relatedW_37 (tx : ByteArray) (wa : Option Addr) (wc : Nat) (l2 : List Nat) (pa pb : Int) (ta : Option Addr) (len cap : Nat) (v : Value) (l : List Nat) (w : World) (hv : ReadsAs w v (l.map intV)) (hv2 : ReadsAs w (.slice wa l2.length wc) (l2.map intV)) (hn : l.length ≤ 400) (hn2 : l2.length ≤ 400) :
    Calls Tryz.prog 8 #[.slice ta len cap, v, .agg #[.int .i64 37, .string tx, .slice wa l2.length wc, .int .i64 pa, .int .i64 pb]] w (AddRow (onceF (l ++ l2)) w) := by
  obtain ⟨a1, c1, rfl, _⟩ := hv.nil
  rw [List.length_map] at hv ⊢
  have hb0 : Below w.heap.size w (w.alloc (.cells #[.int .i64 37, .string tx, .slice wa l2.length wc, .int .i64 pa, .int .i64 pb] 27)) := (Below.refl _ _).alloc (Nat.le_refl _) _
  have hp : ∀ i u, (#[.int .i64 37, .string tx, .slice wa l2.length wc, .int .i64 pa, .int .i64 pb] : Array Value)[i]? = some u → (w.alloc (.cells #[.int .i64 37, .string tx, .slice wa l2.length wc, .int .i64 pa, .int .i64 pb] 27)).cell? ⟨w.heap.size, i, none⟩ = some u := fun i u h => cell_alloc_new' _ _ _ rfl h
  obtain ⟨w0, hw0⟩ : ∃ w0, w.alloc (.cells #[.int .i64 37, .string tx, .slice wa l2.length wc, .int .i64 pa, .int .i64 pb] 27) = w0 := ⟨_, rfl⟩
  rw [hw0] at hb0 hp
  have q0 : w0.cell? ⟨w.heap.size, 0, none⟩ = some (.int .i64 37) := hp 0 _ rfl
  have q1 : w0.cell? ⟨w.heap.size, 1, none⟩ = some (.string tx) := hp 1 _ rfl
  have q2 : w0.cell? ⟨w.heap.size, 2, none⟩ = some (.slice wa l2.length wc) := hp 2 _ rfl
  have q3 : w0.cell? ⟨w.heap.size, 3, none⟩ = some (.int .i64 pa) := hp 3 _ rfl
  have q4 : w0.cell? ⟨w.heap.size, 4, none⟩ = some (.int .i64 pb) := hp 4 _ rfl
  have hml : w.heap.size < w0.heap.size := World.block_lt_of_cell? _ _ q0
  have HB := Lib.hid hb0
  have hrv : Row w0 a1 l.length (l.map intV) := by have h := (reads_row hv).below hb0; exact h
  have hr2 : Row w0 wa l2.length (l2.map intV) := by have h := (reads_row hv2).below hb0; exact h
  have HR := Lib.hid (And.intro hrv hr2)
  obtain ⟨i0, hi, hz0, hz1, hz2⟩ := info_parts Tryz.infoInt
  clear hv hv2 hb0 hp hrv hr2
  go_enter Tryz.func8, Tryz.ntmps8
  go_wp2_with fail
  refine wp_region_any (by kernel_rfl) ?_
  try (change wpAny _ _ _ _ _ _ _ (World.drew _))
  obtain ⟨wd, hwd⟩ : ∃ wd, w0.drew = wd := ⟨_, rfl⟩
  have hbd : Below w0.heap.size w0 wd := by rw [← hwd]; exact (Below.refl _ _).drew
  rw [hwd]
  have hHeld : wd.cell? ⟨w.heap.size, 2, none⟩ = some (.slice wa l2.length wc) := cell_below hbd q2
  have hsd : w0.heap.size ≤ wd.heap.size := hbd.size
  have HD := Lib.hid (And.intro hwd hbd)
  clear hwd hbd hw0
  refine wpAny_of_held (S := fun w' => w'.cell? ⟨w.heap.size, 2, none⟩ = some (.slice wa l2.length wc)) _ _ _ _ ?_
  refine wpAnyH_take (i := 1) (oi := { dst := some 33, op := .move (.tmp 1), type := 23, pos := "relatives.go:85", after := #[], guard := none }) (v := ?_) rfl (by kernel_rfl) (by kernel_rfl) (by kernel_rfl) (fun _ _ _ h => h) (Or.inl ⟨by rfl, ?_⟩) (by assumption) ?_
  rotate_left 1
  · (intro wx hSw; (try dsimp only at hSw); go_simp; try with_reducible rfl)
  try simp only [Act.put, List.setIfInBounds_toArray, List.set_cons_zero, List.set_cons_succ]
  refine wpAnyH_take (i := 3) (oi := { dst := some 35, op := .fieldAddr 27 (.tmp 5) 2, type := 0, pos := "relatives.go:85", after := #[], guard := none }) (v := ?_) rfl (by kernel_rfl) (by kernel_rfl) (by kernel_rfl) (fun _ _ _ h => h) (Or.inl ⟨by rfl, ?_⟩) (by assumption) ?_
  rotate_left 1
  · (intro wx hSw; (try dsimp only at hSw); go_simp; try with_reducible rfl)
  try simp only [Act.put, List.setIfInBounds_toArray, List.set_cons_zero, List.set_cons_succ]
  refine wpAnyH_take (i := 4) (oi := { dst := some 36, op := .load 23 (.tmp 35), type := 23, pos := "relatives.go:85", after := #[{ on := 3, ground := .data }], guard := none }) (v := ?_) rfl (by kernel_rfl) (by kernel_rfl) (by kernel_rfl) (fun _ _ _ h => h) (Or.inl ⟨by rfl, ?_⟩) (by assumption) ?_
  rotate_left 1
  · (intro wx hSw; (try dsimp only at hSw); go_simp; try with_reducible rfl)
  try simp only [Act.put, List.setIfInBounds_toArray, List.set_cons_zero, List.set_cons_succ]
  refine wpAnyH_ready (rs := [0]) (by kernel_rfl) (by simp) ?_
  refine AllReadyH.cons (o := { dst := some 32, op := .buildSlice 23 0 #[], type := 23, pos := "relatives.go:85", after := #[], guard := none }) rfl (fun K hK => ?_) AllReadyH.nil
  go_simp
  have hba : Below w0.heap.size w0 (wd.alloc (.cells #[] 3)) := HD.out.2.alloc hsd _
  have hHeld2 := cell_below hba q2
  refine hK.out _ _ hHeld2 (fun hHeld => ?_)
  clear hK K
  have hoE : (wd.alloc (.cells #[] 3)).ownsRow w0.heap.size 3 1 (.slice (some ⟨wd.heap.size, 0, none⟩) 0 0) 0 [] := owns_empty wd w0.heap.size hsd 3
  have H1 := Lib.hid (And.intro hoE hba)
  obtain ⟨wy, hwa⟩ : ∃ wy, wd.alloc (.cells #[] 3) = wy := ⟨_, rfl⟩
  rw [hwa] at H1 hHeld ⊢
  clear hoE hba hwa hHeld2
  refine wpAnyH_ready (rs := [2]) (by kernel_rfl) (by simp) ?_
  refine AllReadyH.cons (o := { dst := some 34, op := .call { callee := .builtin .append, args := #[.tmp 32, .tmp 33], argTypes := #[23, 23] }, type := 23, pos := "relatives.go:85", after := #[{ on := 0, ground := .data }, { on := 1, ground := .data }], guard := none }) rfl (fun K hK => ?_) AllReadyH.nil
  refine step_append_reads (by rfl) _ _ _ (by rfl) w0.heap.size 3 i0 (.int .i64 0) 8 Tryz.underlying23 hi hz0 hz1 hz2 rfl _ _ _ [] (by rfl) H1.out.1 a1 l.length c1 (l.map intV) (by rfl) (HR.out.1.below H1.out.2) intV_one (by unfold maxLen; omega) (by omega) (by have := H1.out.2.size; omega) ?_
  intro b2 k2 w2 hown2 hgrow2
  rw [Nat.zero_add, List.nil_append] at hown2
  rw [Nat.zero_add]
  have hb2 : Below w0.heap.size w0 w2 := H1.out.2.grown hgrow2 H1.out.2.size (fun q hq => (World.ownsRow.lt H1.out.1 q hq).1)
  have hHeld2 := cell_below hb2 q2
  refine hK.out _ _ hHeld2 (fun hHeld => ?_)
  have H2 := Lib.hid (And.intro hown2 hb2)
  clear hK K hown2 hgrow2 hb2 H1 hHeld2
  try simp only [Act.put, List.setIfInBounds_toArray, List.set_cons_zero, List.set_cons_succ]
  refine wpAnyH_ready (rs := [5]) (by kernel_rfl) (by simp) ?_
  refine AllReadyH.cons (o := { dst := some 37, op := .call { callee := .builtin .append, args := #[.tmp 34, .tmp 36], argTypes := #[23, 23] }, type := 23, pos := "relatives.go:85", after := #[{ on := 2, ground := .data }, { on := 4, ground := .data }, { on := 2, ground := .chain }], guard := none }) rfl (fun K hK => ?_) AllReadyH.nil
  refine step_append_reads (by rfl) _ _ _ (by rfl) w0.heap.size 3 i0 (.int .i64 0) 8 Tryz.underlying23 hi hz0 hz1 hz2 rfl _ _ _ (l.map intV) (by rfl) H2.out.1 wa l2.length wc (l2.map intV) (by rfl) (HR.out.2.below H2.out.2) intV_one (by unfold maxLen; omega) (by omega) (by have := H2.out.2.size; omega) ?_
  intro b3 k3 w3 hown3 hgrow3
  have hb3 : Below w0.heap.size w0 w3 := H2.out.2.grown hgrow3 H2.out.2.size (fun q hq => (World.ownsRow.lt H2.out.1 q hq).1)
  have hHeld2 := cell_below hb3 q2
  refine hK.out _ _ hHeld2 (fun hHeld => ?_)
  have hr3 : ReadsAs w3 (.slice b3 (l.length + l2.length) k3) ((l ++ l2).map intV) := by
    have h := owns_reads (l := (l ++ l2).map intV) (v := .slice b3 (l.length + l2.length) k3) (by simpa using hown3)
    exact h
  have hon := once2_any _ (l ++ l2) w3 hr3 (by rw [List.length_append]; omega)
  have HON := Lib.hid hon
  have H3 := Lib.hid hb3
  have hs3 := hb3.size
  clear hK K hown3 hgrow3 hb3 hr3 hon H2 hHeld2
  try simp only [Act.put, List.setIfInBounds_toArray, List.set_cons_zero, List.set_cons_succ]
  refine wpAnyH_ready (rs := [6]) (by kernel_rfl) (by simp) ?_
  refine AllReadyH.cons (o := { dst := some 38, op := .call { callee := .value (.func 20), args := #[.tmp 37], argTypes := #[23] }, type := 23, pos := "relatives.go:85", after := #[{ on := 5, ground := .data }, { on := 5, ground := .chain }], guard := none }) rfl (fun K hK => ?_) AllReadyH.nil
  go_simp
  go_wp2_with (go_at_call 20; refine HON.out.mono ?_; rintro e w4 ⟨v4, rfl, ho4, hb4⟩)
  have hb04 := H3.out.trans (hb4.out.mono hs3)
  have hHeld2 := cell_below hb04 q2
  refine hK.out _ _ hHeld2 (fun hHeld => ?_)
  have H4 := Lib.hid (And.intro (ownsRow_base ho4.out (Nat.le_trans HB.out.size hs3)) (HB.out.trans (hb04.mono HB.out.size)))
  clear hK K ho4 hb4 hb04 HON hHeld2
  try simp only [Act.put, List.setIfInBounds_toArray, List.set_cons_zero, List.set_cons_succ]
  refine wpAnyH_take (i := 7) (oi := { dst := some 6, op := .assign (.tmp 38), type := 23, pos := "relatives.go:85", after := #[{ on := 6, ground := .data }, { on := 6, ground := .chain }, { on := 0, ground := .phase }, { on := 1, ground := .phase }, { on := 2, ground := .phase }, { on := 3, ground := .phase }, { on := 4, ground := .phase }, { on := 5, ground := .phase }, { on := 6, ground := .phase }], guard := none }) (v := ?_) rfl (by kernel_rfl) (by kernel_rfl) (by kernel_rfl) (fun _ _ _ h => h) (Or.inl ⟨by rfl, ?_⟩) (by assumption) ?_
  rotate_left 1
  · (intro wx hSw; (try dsimp only at hSw); go_simp; try with_reducible rfl)
  try simp only [Act.put, List.setIfInBounds_toArray, List.set_cons_zero, List.set_cons_succ]
  refine wpAnyH_take (i := 8) (oi := { dst := some 7, op := .assign (.const (.bool true)), type := 4, pos := "relatives.go:85", after := #[{ on := 7, ground := .chain }, { on := 0, ground := .phase }, { on := 1, ground := .phase }, { on := 2, ground := .phase }, { on := 3, ground := .phase }, { on := 4, ground := .phase }, { on := 5, ground := .phase }, { on := 6, ground := .phase }, { on := 7, ground := .phase }], guard := none }) (v := ?_) rfl (by kernel_rfl) (by kernel_rfl) (by kernel_rfl) (fun _ _ _ h => h) (Or.inl ⟨by rfl, ?_⟩) (by assumption) ?_
  rotate_left 1
  · (intro wx hSw; (try dsimp only at hSw); go_simp; try with_reducible rfl)
  try simp only [Act.put, List.setIfInBounds_toArray, List.set_cons_zero, List.set_cons_succ]
  refine wpAnyH_done (by kernel_rfl) ?_ _
  go_wp2
  go_ret2
  exact ⟨v4, rfl, Lib.hid H4.out.1, Lib.hid H4.out.2⟩

set_option maxRecDepth 100000 in
set_option maxHeartbeats 4000000 in
theorem relatedW_38 (tx : ByteArray) (wa : Option Addr) (wc : Nat) (l2 : List Nat) (pa pb : Int) (ta : Option Addr) (len cap : Nat) (v : Value) (l : List Nat) (w : World) (hv : ReadsAs w v (l.map intV)) (hv2 : ReadsAs w (.slice wa l2.length wc) (l2.map intV)) (hn : l.length ≤ 400) (hn2 : l2.length ≤ 400) :
    Calls Tryz.prog 8 #[.slice ta len cap, v, .agg #[.int .i64 38, .string tx, .slice wa l2.length wc, .int .i64 pa, .int .i64 pb]] w (AddRow (onceF (l ++ l2)) w) := by
  obtain ⟨a1, c1, rfl, _⟩ := hv.nil
  rw [List.length_map] at hv ⊢
  have hb0 : Below w.heap.size w (w.alloc (.cells #[.int .i64 38, .string tx, .slice wa l2.length wc, .int .i64 pa, .int .i64 pb] 27)) := (Below.refl _ _).alloc (Nat.le_refl _) _
  have hp : ∀ i u, (#[.int .i64 38, .string tx, .slice wa l2.length wc, .int .i64 pa, .int .i64 pb] : Array Value)[i]? = some u → (w.alloc (.cells #[.int .i64 38, .string tx, .slice wa l2.length wc, .int .i64 pa, .int .i64 pb] 27)).cell? ⟨w.heap.size, i, none⟩ = some u := fun i u h => cell_alloc_new' _ _ _ rfl h
  obtain ⟨w0, hw0⟩ : ∃ w0, w.alloc (.cells #[.int .i64 38, .string tx, .slice wa l2.length wc, .int .i64 pa, .int .i64 pb] 27) = w0 := ⟨_, rfl⟩
  rw [hw0] at hb0 hp
  have q0 : w0.cell? ⟨w.heap.size, 0, none⟩ = some (.int .i64 38) := hp 0 _ rfl
  have q1 : w0.cell? ⟨w.heap.size, 1, none⟩ = some (.string tx) := hp 1 _ rfl
  have q2 : w0.cell? ⟨w.heap.size, 2, none⟩ = some (.slice wa l2.length wc) := hp 2 _ rfl
  have q3 : w0.cell? ⟨w.heap.size, 3, none⟩ = some (.int .i64 pa) := hp 3 _ rfl
  have q4 : w0.cell? ⟨w.heap.size, 4, none⟩ = some (.int .i64 pb) := hp 4 _ rfl
  have hml : w.heap.size < w0.heap.size := World.block_lt_of_cell? _ _ q0
  have HB := Lib.hid hb0
  have hrv : Row w0 a1 l.length (l.map intV) := by have h := (reads_row hv).below hb0; exact h
  have hr2 : Row w0 wa l2.length (l2.map intV) := by have h := (reads_row hv2).below hb0; exact h
  have HR := Lib.hid (And.intro hrv hr2)
  obtain ⟨i0, hi, hz0, hz1, hz2⟩ := info_parts Tryz.infoInt
  clear hv hv2 hb0 hp hrv hr2
  go_enter Tryz.func8, Tryz.ntmps8
  go_wp2_with fail
  refine wp_region_any (by kernel_rfl) ?_
  try (change wpAny _ _ _ _ _ _ _ (World.drew _))
  obtain ⟨wd, hwd⟩ : ∃ wd, w0.drew = wd := ⟨_, rfl⟩
  have hbd : Below w0.heap.size w0 wd := by rw [← hwd]; exact (Below.refl _ _).drew
  rw [hwd]
  have hHeld : wd.cell? ⟨w.heap.size, 2, none⟩ = some (.slice wa l2.length wc) := cell_below hbd q2
  have hsd : w0.heap.size ≤ wd.heap.size := hbd.size
  have HD := Lib.hid (And.intro hwd hbd)
  clear hwd hbd hw0
  refine wpAny_of_held (S := fun w' => w'.cell? ⟨w.heap.size, 2, none⟩ = some (.slice wa l2.length wc)) _ _ _ _ ?_
  refine wpAnyH_take (i := 1) (oi := { dst := some 33, op := .move (.tmp 1), type := 23, pos := "relatives.go:85", after := #[], guard := none }) (v := ?_) rfl (by kernel_rfl) (by kernel_rfl) (by kernel_rfl) (fun _ _ _ h => h) (Or.inl ⟨by rfl, ?_⟩) (by assumption) ?_
  rotate_left 1
  · (intro wx hSw; (try dsimp only at hSw); go_simp; try with_reducible rfl)
  try simp only [Act.put, List.setIfInBounds_toArray, List.set_cons_zero, List.set_cons_succ]
  refine wpAnyH_take (i := 3) (oi := { dst := some 35, op := .fieldAddr 27 (.tmp 5) 2, type := 0, pos := "relatives.go:85", after := #[], guard := none }) (v := ?_) rfl (by kernel_rfl) (by kernel_rfl) (by kernel_rfl) (fun _ _ _ h => h) (Or.inl ⟨by rfl, ?_⟩) (by assumption) ?_
  rotate_left 1
  · (intro wx hSw; (try dsimp only at hSw); go_simp; try with_reducible rfl)
  try simp only [Act.put, List.setIfInBounds_toArray, List.set_cons_zero, List.set_cons_succ]
  refine wpAnyH_take (i := 4) (oi := { dst := some 36, op := .load 23 (.tmp 35), type := 23, pos := "relatives.go:85", after := #[{ on := 3, ground := .data }], guard := none }) (v := ?_) rfl (by kernel_rfl) (by kernel_rfl) (by kernel_rfl) (fun _ _ _ h => h) (Or.inl ⟨by rfl, ?_⟩) (by assumption) ?_
  rotate_left 1
  · (intro wx hSw; (try dsimp only at hSw); go_simp; try with_reducible rfl)
  try simp only [Act.put, List.setIfInBounds_toArray, List.set_cons_zero, List.set_cons_succ]
  refine wpAnyH_ready (rs := [0]) (by kernel_rfl) (by simp) ?_
  refine AllReadyH.cons (o := { dst := some 32, op := .buildSlice 23 0 #[], type := 23, pos := "relatives.go:85", after := #[], guard := none }) rfl (fun K hK => ?_) AllReadyH.nil
  go_simp
  have hba : Below w0.heap.size w0 (wd.alloc (.cells #[] 3)) := HD.out.2.alloc hsd _
  have hHeld2 := cell_below hba q2
  refine hK.out _ _ hHeld2 (fun hHeld => ?_)
  clear hK K
  have hoE : (wd.alloc (.cells #[] 3)).ownsRow w0.heap.size 3 1 (.slice (some ⟨wd.heap.size, 0, none⟩) 0 0) 0 [] := owns_empty wd w0.heap.size hsd 3
  have H1 := Lib.hid (And.intro hoE hba)
  obtain ⟨wy, hwa⟩ : ∃ wy, wd.alloc (.cells #[] 3) = wy := ⟨_, rfl⟩
  rw [hwa] at H1 hHeld ⊢
  clear hoE hba hwa hHeld2
  refine wpAnyH_ready (rs := [2]) (by kernel_rfl) (by simp) ?_
  refine AllReadyH.cons (o := { dst := some 34, op := .call { callee := .builtin .append, args := #[.tmp 32, .tmp 33], argTypes := #[23, 23] }, type := 23, pos := "relatives.go:85", after := #[{ on := 0, ground := .data }, { on := 1, ground := .data }], guard := none }) rfl (fun K hK => ?_) AllReadyH.nil
  refine step_append_reads (by rfl) _ _ _ (by rfl) w0.heap.size 3 i0 (.int .i64 0) 8 Tryz.underlying23 hi hz0 hz1 hz2 rfl _ _ _ [] (by rfl) H1.out.1 a1 l.length c1 (l.map intV) (by rfl) (HR.out.1.below H1.out.2) intV_one (by unfold maxLen; omega) (by omega) (by have := H1.out.2.size; omega) ?_
  intro b2 k2 w2 hown2 hgrow2
  rw [Nat.zero_add, List.nil_append] at hown2
  rw [Nat.zero_add]
  have hb2 : Below w0.heap.size w0 w2 := H1.out.2.grown hgrow2 H1.out.2.size (fun q hq => (World.ownsRow.lt H1.out.1 q hq).1)
  have hHeld2 := cell_below hb2 q2
  refine hK.out _ _ hHeld2 (fun hHeld => ?_)
  have H2 := Lib.hid (And.intro hown2 hb2)
  clear hK K hown2 hgrow2 hb2 H1 hHeld2
  try simp only [Act.put, List.setIfInBounds_toArray, List.set_cons_zero, List.set_cons_succ]
  refine wpAnyH_ready (rs := [5]) (by kernel_rfl) (by simp) ?_
  refine AllReadyH.cons (o := { dst := some 37, op := .call { callee := .builtin .append, args := #[.tmp 34, .tmp 36], argTypes := #[23, 23] }, type := 23, pos := "relatives.go:85", after := #[{ on := 2, ground := .data }, { on := 4, ground := .data }, { on := 2, ground := .chain }], guard := none }) rfl (fun K hK => ?_) AllReadyH.nil
  refine step_append_reads (by rfl) _ _ _ (by rfl) w0.heap.size 3 i0 (.int .i64 0) 8 Tryz.underlying23 hi hz0 hz1 hz2 rfl _ _ _ (l.map intV) (by rfl) H2.out.1 wa l2.length wc (l2.map intV) (by rfl) (HR.out.2.below H2.out.2) intV_one (by unfold maxLen; omega) (by omega) (by have := H2.out.2.size; omega) ?_
  intro b3 k3 w3 hown3 hgrow3
  have hb3 : Below w0.heap.size w0 w3 := H2.out.2.grown hgrow3 H2.out.2.size (fun q hq => (World.ownsRow.lt H2.out.1 q hq).1)
  have hHeld2 := cell_below hb3 q2
  refine hK.out _ _ hHeld2 (fun hHeld => ?_)
  have hr3 : ReadsAs w3 (.slice b3 (l.length + l2.length) k3) ((l ++ l2).map intV) := by
    have h := owns_reads (l := (l ++ l2).map intV) (v := .slice b3 (l.length + l2.length) k3) (by simpa using hown3)
    exact h
  have hon := once2_any _ (l ++ l2) w3 hr3 (by rw [List.length_append]; omega)
  have HON := Lib.hid hon
  have H3 := Lib.hid hb3
  have hs3 := hb3.size
  clear hK K hown3 hgrow3 hb3 hr3 hon H2 hHeld2
  try simp only [Act.put, List.setIfInBounds_toArray, List.set_cons_zero, List.set_cons_succ]
  refine wpAnyH_ready (rs := [6]) (by kernel_rfl) (by simp) ?_
  refine AllReadyH.cons (o := { dst := some 38, op := .call { callee := .value (.func 20), args := #[.tmp 37], argTypes := #[23] }, type := 23, pos := "relatives.go:85", after := #[{ on := 5, ground := .data }, { on := 5, ground := .chain }], guard := none }) rfl (fun K hK => ?_) AllReadyH.nil
  go_simp
  go_wp2_with (go_at_call 20; refine HON.out.mono ?_; rintro e w4 ⟨v4, rfl, ho4, hb4⟩)
  have hb04 := H3.out.trans (hb4.out.mono hs3)
  have hHeld2 := cell_below hb04 q2
  refine hK.out _ _ hHeld2 (fun hHeld => ?_)
  have H4 := Lib.hid (And.intro (ownsRow_base ho4.out (Nat.le_trans HB.out.size hs3)) (HB.out.trans (hb04.mono HB.out.size)))
  clear hK K ho4 hb4 hb04 HON hHeld2
  try simp only [Act.put, List.setIfInBounds_toArray, List.set_cons_zero, List.set_cons_succ]
  refine wpAnyH_take (i := 7) (oi := { dst := some 6, op := .assign (.tmp 38), type := 23, pos := "relatives.go:85", after := #[{ on := 6, ground := .data }, { on := 6, ground := .chain }, { on := 0, ground := .phase }, { on := 1, ground := .phase }, { on := 2, ground := .phase }, { on := 3, ground := .phase }, { on := 4, ground := .phase }, { on := 5, ground := .phase }, { on := 6, ground := .phase }], guard := none }) (v := ?_) rfl (by kernel_rfl) (by kernel_rfl) (by kernel_rfl) (fun _ _ _ h => h) (Or.inl ⟨by rfl, ?_⟩) (by assumption) ?_
  rotate_left 1
  · (intro wx hSw; (try dsimp only at hSw); go_simp; try with_reducible rfl)
  try simp only [Act.put, List.setIfInBounds_toArray, List.set_cons_zero, List.set_cons_succ]
  refine wpAnyH_take (i := 8) (oi := { dst := some 7, op := .assign (.const (.bool true)), type := 4, pos := "relatives.go:85", after := #[{ on := 7, ground := .chain }, { on := 0, ground := .phase }, { on := 1, ground := .phase }, { on := 2, ground := .phase }, { on := 3, ground := .phase }, { on := 4, ground := .phase }, { on := 5, ground := .phase }, { on := 6, ground := .phase }, { on := 7, ground := .phase }], guard := none }) (v := ?_) rfl (by kernel_rfl) (by kernel_rfl) (by kernel_rfl) (fun _ _ _ h => h) (Or.inl ⟨by rfl, ?_⟩) (by assumption) ?_
  rotate_left 1
  · (intro wx hSw; (try dsimp only at hSw); go_simp; try with_reducible rfl)
  try simp only [Act.put, List.setIfInBounds_toArray, List.set_cons_zero, List.set_cons_succ]
  refine wpAnyH_done (by kernel_rfl) ?_ _
  go_wp2
  go_ret2
  exact ⟨v4, rfl, Lib.hid H4.out.1, Lib.hid H4.out.2⟩

set_option maxRecDepth 100000 in
set_option maxHeartbeats 4000000 in
theorem relatedW_39 (tx : ByteArray) (wa : Option Addr) (wc : Nat) (l2 : List Nat) (pa pb : Int) (ta : Option Addr) (len cap : Nat) (v : Value) (l : List Nat) (w : World) (hv : ReadsAs w v (l.map intV)) (hv2 : ReadsAs w (.slice wa l2.length wc) (l2.map intV)) (hn : l.length ≤ 400) (hn2 : l2.length ≤ 400) :
    Calls Tryz.prog 8 #[.slice ta len cap, v, .agg #[.int .i64 39, .string tx, .slice wa l2.length wc, .int .i64 pa, .int .i64 pb]] w (AddRow (l.filter fun x => decide (x ∈ l2)) w) := by
  obtain ⟨a1, c1, rfl, _⟩ := hv.nil
  rw [List.length_map] at hv ⊢
  have hb0 : Below w.heap.size w (w.alloc (.cells #[.int .i64 39, .string tx, .slice wa l2.length wc, .int .i64 pa, .int .i64 pb] 27)) := (Below.refl _ _).alloc (Nat.le_refl _) _
  have hp : ∀ i u, (#[.int .i64 39, .string tx, .slice wa l2.length wc, .int .i64 pa, .int .i64 pb] : Array Value)[i]? = some u → (w.alloc (.cells #[.int .i64 39, .string tx, .slice wa l2.length wc, .int .i64 pa, .int .i64 pb] 27)).cell? ⟨w.heap.size, i, none⟩ = some u := fun i u h => cell_alloc_new' _ _ _ rfl h
  obtain ⟨w0, hw0⟩ : ∃ w0, w.alloc (.cells #[.int .i64 39, .string tx, .slice wa l2.length wc, .int .i64 pa, .int .i64 pb] 27) = w0 := ⟨_, rfl⟩
  rw [hw0] at hb0 hp
  have q0 : w0.cell? ⟨w.heap.size, 0, none⟩ = some (.int .i64 39) := hp 0 _ rfl
  have q1 : w0.cell? ⟨w.heap.size, 1, none⟩ = some (.string tx) := hp 1 _ rfl
  have q2 : w0.cell? ⟨w.heap.size, 2, none⟩ = some (.slice wa l2.length wc) := hp 2 _ rfl
  have q3 : w0.cell? ⟨w.heap.size, 3, none⟩ = some (.int .i64 pa) := hp 3 _ rfl
  have q4 : w0.cell? ⟨w.heap.size, 4, none⟩ = some (.int .i64 pb) := hp 4 _ rfl
  have hml : w.heap.size < w0.heap.size := World.block_lt_of_cell? _ _ q0
  have HB := Lib.hid hb0
  obtain ⟨va, vcap, b, off, hve, hm, ha, hc⟩ := ints_open hv
  simp at hve
  obtain ⟨rfl, rfl⟩ := hve
  have HA := Lib.hid ha
  have HC : Hid (∀ i, i < l.length → w0.cell? ⟨b, off + i, none⟩ = some (.int .i64 ((l.getD i 0 : Nat) : Int))) := Lib.hid (fun i hi => cell_below hb0 (hc i hi))
  have H2 := Lib.hid (hv2.below hb0)
  obtain ⟨i0, hi, hz0, hz1, hz2⟩ := info_parts Tryz.infoInt
  clear hv ha hc hb0 hp hv2
  go_enter Tryz.func8, Tryz.ntmps8
  go_wp2
  go_loopw [8, 9] (fun x i wr => ∃ (k : Nat) (done : List Nat), i = .int .i64 k ∧ k ≤ l.length ∧ done.length ≤ k ∧ Hid ((l.take k).filter (fun x => decide (x ∈ l2)) = done) ∧ Hid (OwnPl wr w0.heap.size x done) ∧ Hid (Below w0.heap.size w0 wr))
    (fun _ i _ => l.length - (intOf i).toNat)
  case atStart => exact ⟨0, [], by go_num, by omega, by simp, Lib.hid rfl, Lib.hid (World.ownsRow_nil _ _ _ _), Lib.hid (Below.refl _ _)⟩
  case round =>
    obtain ⟨k, done, rfl, hk, hdl, hdone, hown, hbel⟩ := hrel
    have r2 := cell_below hbel.out q2
    obtain ⟨oa, oc, hu8, hum⟩ := hown.out.reads.nil
    rw [List.length_map] at hu8 hum
    subst hu8
    by_cases hlt : k < l.length
    · obtain rfl := HA.out (by omega)
      have ck := cell_below hbel.out (HC.out k hlt)
      have htk : (l.take (k + 1)).filter (fun x => decide (x ∈ l2)) = (l.take k).filter (fun x => decide (x ∈ l2)) ++ [l.getD k 0].filter (fun x => decide (x ∈ l2)) := by rw [take_snoc hlt, List.filter_append]
      obtain ⟨x, hxx⟩ : ∃ x, l.getD k 0 = x := ⟨_, rfl⟩
      rw [hxx] at ck htk
      rw [hdone.out] at htk
      have hkI : (k : Int) < (l.length : Int) := by omega
      have hin := fun q => specIn_any (.slice wa l2.length wc) l2 x (wr.drewN q) (H2.out.below (below_drewN hbel.out q))
      obtain ⟨q, hq⟩ : ∃ q, decide (x ∈ l2) = q := ⟨_, rfl⟩
      rw [hq] at hin
      have hfl : [x].filter (fun x => decide (x ∈ l2)) = if q then [x] else [] := by simp [List.filter, hq]; cases q <;> rfl
      rw [hfl] at htk
      have HIN := Lib.hid (fun n => (hin n).mono (fun e w' (h : BoolPost q (wr.drewN n) e w') => (⟨h.1, h.2.symm⟩ : e = .returned (.bool q) ∧ w' = wr.drewN n)))
      have HTK := Lib.hid htk
      clear hin hq hxx htk hfl hdone
      go_wp2
      go_quiet (exact Calls.quiet_of_same (HIN.out _))
      obtain ⟨wz, hwz⟩ : ∃ wz, wr.drewN nq = wz := ⟨_, rfl⟩
      have hbz : Below w0.heap.size w0 wz := by rw [← hwz]; exact below_drewN hbel.out _
      have hoz : wz.ownsRow w0.heap.size 3 1 (.slice oa done.length oc) done.length (done.map intV) := by rw [← hwz]; exact hown.out
      have cz : wz.cell? ⟨b, off + k, none⟩ = some (.int .i64 (x : Int)) := by rw [← hwz]; exact ck
      have hsz : w0.heap.size ≤ wz.heap.size := hbz.size
      rw [hwz]
      have HBZ := Lib.hid hbz
      have HOZ := Lib.hid hoz
      clear hwz hbz hoz hown hbel ck r2 HIN
      cases q
      · go_wp2
        go_roundw
        case rel => exact ⟨k + 1, done, by go_num, by omega, by omega, Lib.hid (by rw [HTK.out]; simp), HOZ, HBZ⟩
        case measure => simp [intOf]; omega
      · go_wp2_with (at_builtin; refine wpList_append_own _ rfl _ _ 23 rfl w0.heap.size 3 i0 (.int .i64 0) 1 8 Tryz.underlying23 hi hz0 hz1 hz2 rfl (by decide) _ _ _ rfl (HOZ.out.alloc _) ⟨wz.heap.size, 0, none⟩ 1 1 [.int .i64 (x : Int)] rfl rfl ?c1 ?c2 ?c3 ?c4 ?c5 ?_)
        case c2 => rfl
        case c3 => unfold maxLen; omega
        case c4 => omega
        case c5 => first | omega | (simp; omega)
        intro v' w3 hown3 hgrow _
        have hbel3 : Below w0.heap.size w0 w3 := (HBZ.out.alloc hsz _).grown hgrow (by simp; omega) (fun q hq => (World.ownsRow.lt HOZ.out q hq).1)
        have hsn := ownInts_any_snoc (k := x) hown3
        have H3 := Lib.hid (And.intro hsn hbel3)
        clear hown3 hgrow hbel3 hsn
        go_wp2
        go_roundw
        case rel => exact ⟨k + 1, done ++ [x], by go_num, by omega, by simp; omega, Lib.hid (by rw [HTK.out]; simp), Lib.hid H3.out.1, Lib.hid H3.out.2⟩
        case measure => simp [intOf]; omega
    · obtain rfl : k = l.length := by omega
      have hd := hdone.out
      rw [List.take_length] at hd
      have HO : Hid (OwnPl wr w.heap.size (.slice oa done.length oc) (l.filter fun x => decide (x ∈ l2))) := Lib.hid (by rw [hd]; exact ownsRow_base hown.out HB.out.size)
      have HF := Lib.hid (HB.out.trans (hbel.out.mono HB.out.size))
      clear hd hdone hown hbel hlt
      go_wp2
      go_ret2
      exact ⟨_, rfl, HO, HF⟩

set_option maxRecDepth 100000 in
set_option maxHeartbeats 4000000 in
theorem relatedW_no (tx : ByteArray) (wa : Option Addr) (wc : Nat) (l2 : List Nat) (pa pb : Int) (op : Int) (hop : op < 20 ∨ 39 < op) (ta : Option Addr) (len cap : Nat) (v : Value) (l : List Nat) (w : World) (hv : ReadsAs w v (l.map intV)) (hn : l.length ≤ 400) :
    Calls Tryz.prog 8 #[.slice ta len cap, v, .agg #[.int .i64 op, .string tx, .slice wa l2.length wc, .int .i64 pa, .int .i64 pb]] w (RelNot w) := by
  obtain ⟨va, vcap, b, off, rfl, hm, ha, hc⟩ := ints_open hv
  have o32 : (op == 32) = false := by simp; omega
  have o33 : (op == 33) = false := by simp; omega
  have o34 : (op == 34) = false := by simp; omega
  have o35 : (op == 35) = false := by simp; omega
  have o36 : (op == 36) = false := by simp; omega
  have o37 : (op == 37) = false := by simp; omega
  have o38 : (op == 38) = false := by simp; omega
  have o39 : (op == 39) = false := by simp; omega
  have hb0 : Below w.heap.size w (w.alloc (.cells #[.int .i64 op, .string tx, .slice wa l2.length wc, .int .i64 pa, .int .i64 pb] 27)) := (Below.refl _ _).alloc (Nat.le_refl _) _
  have hp : ∀ i u, (#[.int .i64 op, .string tx, .slice wa l2.length wc, .int .i64 pa, .int .i64 pb] : Array Value)[i]? = some u → (w.alloc (.cells #[.int .i64 op, .string tx, .slice wa l2.length wc, .int .i64 pa, .int .i64 pb] 27)).cell? ⟨w.heap.size, i, none⟩ = some u := fun i u h => cell_alloc_new' _ _ _ rfl h
  obtain ⟨w0, hw0⟩ : ∃ w0, w.alloc (.cells #[.int .i64 op, .string tx, .slice wa l2.length wc, .int .i64 pa, .int .i64 pb] 27) = w0 := ⟨_, rfl⟩
  rw [hw0] at hb0 hp
  have q0 : w0.cell? ⟨w.heap.size, 0, none⟩ = some (.int .i64 op) := hp 0 _ rfl
  have q1 : w0.cell? ⟨w.heap.size, 1, none⟩ = some (.string tx) := hp 1 _ rfl
  have q2 : w0.cell? ⟨w.heap.size, 2, none⟩ = some (.slice wa l2.length wc) := hp 2 _ rfl
  have q3 : w0.cell? ⟨w.heap.size, 3, none⟩ = some (.int .i64 pa) := hp 3 _ rfl
  have q4 : w0.cell? ⟨w.heap.size, 4, none⟩ = some (.int .i64 pb) := hp 4 _ rfl
  have hml : w.heap.size < w0.heap.size := World.block_lt_of_cell? _ _ q0
  have hno := fun (x : Int) (w' : World) => relW_no tx wa wc l2 pa pb op (by omega) ta len cap x w'
  have HNO := Lib.hid hno
  have HB := Lib.hid hb0
  have honce := fun (w' : World) => once2_any (.slice none 0 0) [] w' ⟨none, 0, rfl, Nat.le_refl _, Nat.zero_le _, rfl, Nat.zero_le _, fun h => absurd h (Nat.lt_irrefl 0)⟩ (by simp)
  have HON := Lib.hid honce
  cases l with
  | nil =>
    clear hno hb0 hp hv ha hc hop honce
    go_enter Tryz.func8, Tryz.ntmps8
    go_wp2
    go_loopw [10, 11] (fun x i wr => x = .slice none 0 0 ∧ i = .int .i64 0 ∧ wr = w0) (fun _ _ _ => 0)
    case atStart => exact ⟨rfl, rfl, rfl⟩
    case round =>
      obtain ⟨rfl, rfl, rfl⟩ := hrel
      go_wp2_with fail
      refine (HNO.out _ _).mono ?_
      rintro e w2 ⟨rfl, hb2⟩
      have HB2 := Lib.hid (HB.out.trans (hb2.out.mono HB.out.size))
      clear hb2
      go_wp2_with fail
      refine (HON.out w2).mono ?_
      rintro e w3 ⟨v3, rfl, _, hb3⟩
      have HB3 := Lib.hid (HB2.out.trans (hb3.out.mono HB2.out.size))
      clear hb3
      go_wp2
      go_ret2
      exact ⟨_, rfl, HB3⟩
  | cons y l =>
    obtain rfl := ha (by simp)
    have hcy := cell_below hb0 (hc 0 (by simp))
    simp only [List.getD_cons_zero, Nat.add_zero] at hcy
    obtain ⟨n, hnn⟩ : ∃ n, (y :: l).length = n := ⟨_, rfl⟩
    have hn0 : 0 < n := by rw [← hnn]; simp
    rw [hnn] at hm hn ⊢
    clear hno hb0 hp hv ha hc hop honce hnn
    have hnI : (0 : Int) < (n : Int) := by omega
    go_enter Tryz.func8, Tryz.ntmps8
    go_wp2
    go_loopw [10, 11] (fun x i wr => x = .slice none 0 0 ∧ i = .int .i64 0 ∧ wr = w0) (fun _ _ _ => 0)
    case atStart => exact ⟨rfl, rfl, rfl⟩
    case round =>
      obtain ⟨rfl, rfl, rfl⟩ := hrel
      go_wp2_with fail
      go_region_with (go_at_call 22; refine Calls.mono (HNO.out _ _) ?_; rintro e w2 ⟨rfl, hb2⟩)
      all_goals
        have HB2 := Lib.hid (HB.out.trans ((Below.refl _ _).drew.trans (hb2.out.mono (by simp)) |>.mono HB.out.size))
        clear hb2
        go_wp2
        go_ret2
        exact ⟨_, rfl, HB2⟩

/-- One step of the reference. -/
theorem related_any {ts : List NodeD} {len : Nat} (tx : ByteArray) (wa : Option Addr) (wc : Nat) (p : PickP) (hra : -9223372036854775808 ≤ p.a ∧ p.a ≤ 9223372036854775807) (hrb : -9223372036854775808 ≤ p.b ∧ p.b ≤ 9223372036854775807) (ta : Option Addr) (cap : Nat) (v : Value) (l : List Nat) (w : World) (hR : RightT ts len) (hN : Nodes w ta len ts) (hv : IntsOn w v l) (hin : ∀ i ∈ l, i < len) (hn : l.length ≤ 200) (h2 : ReadsAs w (.slice wa p.wl.length wc) (p.wl.map intV)) (hn2 : p.wl.length ≤ 200) (hgood : ∀ F, relF ts len p.op p.wl = some F → ∀ x, x < len → (F x).length ≤ 400) (h40 : p.op ≠ 40) :
    Calls Tryz.prog 8 #[.slice ta len cap, v, .agg #[.int .i64 p.op, .string tx, .slice wa p.wl.length wc, .int .i64 p.a, .int .i64 p.b]] w (RelSPost (relS ts len p l) v w) := by
  obtain ⟨op, l2, pa, pb⟩ := p
  simp only at hra hrb h2 hn2 hgood h40 ⊢
  by_cases hp : (⟨op, l2, pa, pb⟩ : PickP).part = true
  · have hop : 32 ≤ op ∧ op ≤ 36 := by simpa [PickP.part] using hp
    have he : relS ts len ⟨op, l2, pa, pb⟩ l = (partOf ⟨op, l2, pa, pb⟩ l.length).map (cutL l) := by unfold relS; rw [if_pos hp]
    rw [he]
    have hpt := fun (w' : World) (hb : Below w.heap.size w w') => parted_any tx wa wc l2 pa pb hra hrb op hop v l w' (hv.below hb) hn
    have hfin : ∀ e w'', (∃ w', Below w.heap.size w w' ∧ RelSPost ((partOf ⟨op, l2, pa, pb⟩ l.length).map (cutL l)) v w' e w'') → RelSPost ((partOf ⟨op, l2, pa, pb⟩ l.length).map (cutL l)) v w e w'' := by
      rintro e w'' ⟨w', hb, h⟩
      cases ho : (partOf ⟨op, l2, pa, pb⟩ l.length).map (cutL l) with
      | none =>
        rw [ho] at h
        obtain ⟨v', he, hb'⟩ := h
        exact ⟨v', he, Lib.hid (hb.trans (hb'.out.mono hb.size))⟩
      | some M =>
        rw [ho] at h
        obtain ⟨v', he, hi, hj, hb'⟩ := h
        exact ⟨v', he, hi, Lib.hid (fun j h1 => by
          rcases hj.out j h1 with h3 | h3
          · exact .inl h3
          · have := hb.size; exact .inr ⟨by omega, h3.2⟩), Lib.hid (hb.trans (hb'.out.mono hb.size))⟩
    have hP : ∀ w' e w'', Below w.heap.size w w' → RelSPost ((partOf ⟨op, l2, pa, pb⟩ l.length).map (cutL l)) v w' e w'' → ∃ v' q, e = .returned (.tuple #[v', .bool q]) := by
      intro w' e w'' hb h
      cases ho : (partOf ⟨op, l2, pa, pb⟩ l.length).map (cutL l) with
      | none =>
        rw [ho] at h
        obtain ⟨v', he, _⟩ := h
        exact ⟨v', false, he⟩
      | some M =>
        rw [ho] at h
        obtain ⟨v', he, _⟩ := h
        exact ⟨v', true, he⟩
    rcases (show op = 32 ∨ op = 33 ∨ op = 34 ∨ op = 35 ∨ op = 36 by omega) with rfl | rfl | rfl | rfl | rfl
    · exact (relatedP_32 tx wa wc l2 pa pb _ ta len cap v w hpt hP).mono hfin
    · exact (relatedP_33 tx wa wc l2 pa pb _ ta len cap v w hpt hP).mono hfin
    · exact (relatedP_34 tx wa wc l2 pa pb _ ta len cap v w hpt hP).mono hfin
    · exact (relatedP_35 tx wa wc l2 pa pb _ ta len cap v w hpt hP).mono hfin
    · exact (relatedP_36 tx wa wc l2 pa pb _ ta len cap v w hpt hP).mono hfin
  have hop : ¬(32 ≤ op ∧ op ≤ 36) := by simpa [PickP.part] using hp
  have hadd : ∀ M e w', AddRow M w e w' → RelSPost (some M) v w e w' := by
    rintro M e w' ⟨v', he, ho, hb⟩
    exact ⟨v', he, Lib.hid ho.out.on, Lib.hid (fun j h => .inr (World.ownsRow.lt ho.out j h)), hb⟩
  by_cases h7 : op = 37 ∨ op = 38
  · have he : relS ts len ⟨op, l2, pa, pb⟩ l = some (onceF (l ++ l2)) := by unfold relS; rw [if_neg hp, if_pos h7]
    rw [he]
    rcases h7 with rfl | rfl
    · exact (relatedW_37 tx wa wc l2 pa pb ta len cap v l w hv.1 h2 (by omega) (by omega)).mono (hadd _)
    · exact (relatedW_38 tx wa wc l2 pa pb ta len cap v l w hv.1 h2 (by omega) (by omega)).mono (hadd _)
  by_cases h9 : op = 39
  · subst h9
    have he : relS ts len ⟨39, l2, pa, pb⟩ l = some (l.filter fun x => decide (x ∈ l2)) := by unfold relS; rw [if_neg hp, if_neg h7, if_pos rfl]
    rw [he]
    exact (relatedW_39 tx wa wc l2 pa pb ta len cap v l w hv.1 h2 (by omega) (by omega)).mono (hadd _)
  have he : relS ts len ⟨op, l2, pa, pb⟩ l = (relF ts len op l2).map fun F => onceF (l.flatMap F) := by unfold relS; rw [if_neg hp, if_neg h7, if_neg h9]
  rw [he]
  by_cases hr : 20 ≤ op ∧ op ≤ 31
  · obtain ⟨F, hF⟩ := relF_some ts len l2 hr
    rw [hF]
    refine (relatedW tx wa wc l2 pa pb op hr F ta len cap ts v l w hR hN hv.1 hin hn h2 (fun x hx => hgood F hF x (hin x hx)) (fun x w' hN' h2' hx => relW_any tx wa wc l2 pa pb op hF ta cap w' hR hN' h2' x hx)).mono ?_
    rintro e w' ⟨v', he, ho, hb⟩
    exact hadd _ e w' ⟨v', he, ho, hb⟩
  · rw [relF_none ts len l2 hr]
    exact relatedW_no tx wa wc l2 pa pb op (by omega) ta len cap v l w hv.1 (by omega)

end Go.Proofs.YtphppdbhofeagaaGreat
