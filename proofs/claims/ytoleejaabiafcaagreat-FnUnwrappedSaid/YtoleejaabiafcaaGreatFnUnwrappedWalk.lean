/- The walk of FnUnwrapped. -/
import Derived.Test.YtoleejaabiafcaaGreatUnwKAll
import Derived.Test.YtoleejaabiafcaaGreatUnwDom
import Derived.Test.YtoleejaabiafcaaGreatUnwFlatAll
import Derived.Test.YtoleejaabiafcaaGreatOutAll
import Derived.Test.YtoleejaabiafcaaGreatSameAll
import Derived.Test.YtoleejaabiafcaaGreatOutMore
import Derived.Test.YtoleejaabiafcaaGreatSure
import Derived.Test.YtoleejaabiafcaaGreatFitAll
import Derived.Test.YtoleejaabiafcaaGreatBaseAll
import Derived.Deep.RegionHeld3
namespace Go.Proofs.YtoleejaabiafcaaGreat.lawFnUnwrapped
open Go.RowKit
set_option linter.unusedVariables false
set_option linter.unusedSimpArgs false

set_option maxRecDepth 100000 in
set_option maxHeartbeats 4000000 in
theorem walk {W : World} (a : Option Addr) (len cap : Nat) (ts : List NodeD) (h : Nodes W a len ts ∧ len ≤ cap ∧ cap ≤ maxLen) (q : Int) {P : Prop} (_ : P) :
    Calls Tryz.prog 3 #[.slice a len cap, .int .i64 q] W (YesB W) := by
  obtain ⟨hN, hN2⟩ := h
  have hlt := hN.len.1
  have hlm := hN.len.2
  have HN := Lib.hid (And.intro hN hN2)
  clear hN hN2
  go_enter Tryz.func3, Tryz.ntmps3
  go_wp2_with fail
  refine (fits1_any a len cap ts W HN.out.1).mono ?_
  rintro e w1 ⟨b1, _, rfl, hb1⟩
  have HB1 := Lib.hid hb1
  clear hb1
  cases b1
  · go_wp2
    go_ret
    exact ⟨rfl, HB1.out⟩
  go_wp2_with fail
  refine wp_region_any (by kernel_rfl) ?_
  change wpAny _ _ _ _ _ _ _ (World.drew _)
  refine wpAny_take (i := 0) (oi := { dst := Option.some 12, op := .move (.tmp 0), type := 22, pos := "laws7change.go:527", after := #[], guard := Option.none }) (v := ?_) rfl (by kernel_rfl) (by kernel_rfl) (by kernel_rfl) (fun _ _ _ h => h) (Or.inl ⟨by rfl, ?_⟩) ?_
  rotate_left 1
  · (intro wx; go_simp; try with_reducible rfl)
  try simp only [Act.put, List.setIfInBounds_toArray, List.set_cons_zero, List.set_cons_succ]
  refine wpAny_take (i := 1) (oi := { dst := Option.some 13, op := .move (.tmp 1), type := 3, pos := "laws7change.go:527", after := #[], guard := Option.none }) (v := ?_) rfl (by kernel_rfl) (by kernel_rfl) (by kernel_rfl) (fun _ _ _ h => h) (Or.inl ⟨by rfl, ?_⟩) ?_
  rotate_left 1
  · (intro wx; go_simp; try with_reducible rfl)
  try simp only [Act.put, List.setIfInBounds_toArray, List.set_cons_zero, List.set_cons_succ]
  refine wpAny_ready (rs := [2]) (by kernel_rfl) (by simp) ?_
  refine AllReady.cons (o := { dst := Option.some 14, op := .buildSlice 25 1 #[(0, .tmp 13)], type := 25, pos := "laws7change.go:527", after := #[{ on := 1, ground := .data }], guard := Option.none }) rfl (fun K hK => ?_) AllReady.nil
  go_simp
  refine hK _ _ ?_
  clear hK K
  obtain ⟨wq, hwq⟩ : ∃ wq, (w1.alloc (.cells #[.int .i64 q] 3)).drew = wq := ⟨_, rfl⟩
  rw [hwq]
  have hbq : Below W.heap.size W wq := by rw [← hwq]; exact (HB1.out.alloc HB1.out.size _).drew
  have hcq : wq.cell? ⟨w1.heap.size, 0, none⟩ = some (.int .i64 q) := by rw [← hwq]; exact cell_alloc_new' _ _ _ rfl rfl
  have hiq : Ints wq (some ⟨w1.heap.size, 0, none⟩) 1 [q] := ⟨rfl, by decide, fun _ => ⟨w1.heap.size, 0, rfl, fun i hi => by
    obtain rfl : i = 0 := by omega
    exact hcq⟩⟩
  have HBQ := Lib.hid hbq
  have HIQ := Lib.hid hiq
  have HWQ := Lib.hid hwq
  clear hbq hiq hcq hwq
  refine wpAny_ready (rs := [3]) (by kernel_rfl) (by simp) ?_
  refine AllReady.cons (o := { dst := Option.some 15, op := .call { callee := .value (.func 7), args := #[.const (.int .i64 8), .tmp 14, .const (.slice Option.none 0 0)], argTypes := #[3, 25, 25] }, type := 28, pos := "laws7change.go:527", after := #[{ on := 2, ground := .data }], guard := Option.none }) rfl (fun K hK => ?_) AllReady.nil
  go_simp
  go_wp2_with (go_at_call 7; refine (step7_any 8 (some ⟨w1.heap.size, 0, none⟩) 1 1 none 0 0 wq).mono ?_; rintro e w2 ⟨rfl, hb2⟩)
  have hb02 := HBQ.out.trans (hb2.out.mono HBQ.out.size)
  have HIQ2 := Lib.hid (HIQ.out.below hb2.out)
  have hsure := sure7_any w2 a len cap ts (HN.out.1.below hb02) 8 (some ⟨w1.heap.size, 0, none⟩) 1 1 none 0 0 (UnwPhi len ts [q]) (unwPhi_ok len ts [q]) (unwSays HIQ2.out)
  have HS := Lib.hid hsure
  have HB2 := Lib.hid hb02
  clear hsure hb02 hb2
  refine wpAny_ready (rs := [4]) (by kernel_rfl) (by simp) ?_
  refine AllReady.cons (o := { dst := Option.some 16, op := .call { callee := .value (.func 6), args := #[.tmp 12, .tmp 15], argTypes := #[22, 28] }, type := 4, pos := "laws7change.go:527", after := #[{ on := 0, ground := .data }, { on := 3, ground := .data }, { on := 3, ground := .chain }], guard := Option.none }) rfl (fun K hK => ?_) AllReady.nil
  go_simp
  go_wp2_with (go_at_call 6; refine HS.out.mono ?_; rintro e w4 ⟨b4, rfl, hsay, hb4⟩)
  have HB4 := Lib.hid (HB2.out.trans (hb4.out.mono HB2.out.size))
  refine wpAny_take (i := 5) (oi := { dst := Option.some 17, op := .unOp .not 4 (.tmp 16), type := 4, pos := "laws7change.go:527", after := #[{ on := 4, ground := .data }], guard := Option.none }) (v := ?_) rfl (by kernel_rfl) (by kernel_rfl) (by kernel_rfl) (fun _ _ _ h => h) (Or.inl ⟨by rfl, ?_⟩) ?_
  rotate_left 1
  · (intro wx; go_simp; try with_reducible rfl)
  try simp only [Act.put, List.setIfInBounds_toArray, List.set_cons_zero, List.set_cons_succ]
  refine wpAny_take (i := 6) (oi := { dst := Option.some 18, op := .move (.tmp 17), type := 4, pos := "laws7change.go:527", after := #[{ on := 5, ground := .data }, { on := 4, ground := .chain }], guard := Option.none }) (v := ?_) rfl (by kernel_rfl) (by kernel_rfl) (by kernel_rfl) (fun _ _ _ h => h) (Or.inl ⟨by rfl, ?_⟩) ?_
  rotate_left 1
  · (intro wx; go_simp; try with_reducible rfl)
  try simp only [Act.put, List.setIfInBounds_toArray, List.set_cons_zero, List.set_cons_succ]
  cases b4
  · clear hsay hb4
    refine wpAny_take (i := 7) (oi := { dst := Option.some 19, op := .move (.tmp 0), type := 22, pos := "laws7change.go:527", after := #[{ on := 6, ground := .guard }], guard := Option.some (6, Bool.false) }) (v := undef) rfl (by kernel_rfl) (by kernel_rfl) (by kernel_rfl) (fun _ _ _ h => h) (Or.inr ⟨by kernel_rfl, rfl⟩) ?_
    try simp only [Act.put, List.setIfInBounds_toArray, List.set_cons_zero, List.set_cons_succ]
    refine wpAny_take (i := 8) (oi := { dst := Option.some 20, op := .move (.tmp 0), type := 22, pos := "laws7change.go:527", after := #[{ on := 6, ground := .guard }], guard := Option.some (6, Bool.false) }) (v := undef) rfl (by kernel_rfl) (by kernel_rfl) (by kernel_rfl) (fun _ _ _ h => h) (Or.inr ⟨by kernel_rfl, rfl⟩) ?_
    try simp only [Act.put, List.setIfInBounds_toArray, List.set_cons_zero, List.set_cons_succ]
    refine wpAny_take (i := 9) (oi := { dst := Option.some 21, op := .move (.tmp 1), type := 3, pos := "laws7change.go:527", after := #[{ on := 6, ground := .guard }], guard := Option.some (6, Bool.false) }) (v := undef) rfl (by kernel_rfl) (by kernel_rfl) (by kernel_rfl) (fun _ _ _ h => h) (Or.inr ⟨by kernel_rfl, rfl⟩) ?_
    try simp only [Act.put, List.setIfInBounds_toArray, List.set_cons_zero, List.set_cons_succ]
    refine wpAny_take (i := 10) (oi := { dst := Option.some 22, op := .call { callee := .value (.func 8), args := #[.tmp 20, .tmp 21], argTypes := #[22, 3] }, type := 3, pos := "laws7change.go:527", after := #[{ on := 8, ground := .data }, { on := 9, ground := .data }, { on := 6, ground := .chain }, { on := 6, ground := .guard }], guard := Option.some (6, Bool.false) }) (v := undef) rfl (by kernel_rfl) (by kernel_rfl) (by kernel_rfl) (fun _ _ _ h => h) (Or.inr ⟨by kernel_rfl, rfl⟩) ?_
    try simp only [Act.put, List.setIfInBounds_toArray, List.set_cons_zero, List.set_cons_succ]
    refine wpAny_take (i := 11) (oi := { dst := Option.some 23, op := .indexAddr 22 (.tmp 19) (.tmp 22), type := 0, pos := "laws7change.go:527", after := #[{ on := 7, ground := .data }, { on := 10, ground := .data }, { on := 6, ground := .guard }], guard := Option.some (6, Bool.false) }) (v := undef) rfl (by kernel_rfl) (by kernel_rfl) (by kernel_rfl) (fun _ _ _ h => h) (Or.inr ⟨by kernel_rfl, rfl⟩) ?_
    try simp only [Act.put, List.setIfInBounds_toArray, List.set_cons_zero, List.set_cons_succ]
    refine wpAny_take (i := 12) (oi := { dst := Option.some 24, op := .fieldAddr 32 (.tmp 23) 4, type := 0, pos := "laws7change.go:527", after := #[{ on := 11, ground := .data }, { on := 6, ground := .guard }], guard := Option.some (6, Bool.false) }) (v := undef) rfl (by kernel_rfl) (by kernel_rfl) (by kernel_rfl) (fun _ _ _ h => h) (Or.inr ⟨by kernel_rfl, rfl⟩) ?_
    try simp only [Act.put, List.setIfInBounds_toArray, List.set_cons_zero, List.set_cons_succ]
    refine wpAny_take (i := 13) (oi := { dst := Option.some 25, op := .load 3 (.tmp 24), type := 3, pos := "laws7change.go:527", after := #[{ on := 12, ground := .data }, { on := 6, ground := .guard }], guard := Option.some (6, Bool.false) }) (v := undef) rfl (by kernel_rfl) (by kernel_rfl) (by kernel_rfl) (fun _ _ _ h => h) (Or.inr ⟨by kernel_rfl, rfl⟩) ?_
    try simp only [Act.put, List.setIfInBounds_toArray, List.set_cons_zero, List.set_cons_succ]
    refine wpAny_take (i := 14) (oi := { dst := Option.some 26, op := .move (.tmp 0), type := 22, pos := "laws7change.go:527", after := #[{ on := 6, ground := .guard }], guard := Option.some (6, Bool.false) }) (v := undef) rfl (by kernel_rfl) (by kernel_rfl) (by kernel_rfl) (fun _ _ _ h => h) (Or.inr ⟨by kernel_rfl, rfl⟩) ?_
    try simp only [Act.put, List.setIfInBounds_toArray, List.set_cons_zero, List.set_cons_succ]
    refine wpAny_take (i := 15) (oi := { dst := Option.some 27, op := .move (.tmp 1), type := 3, pos := "laws7change.go:527", after := #[{ on := 6, ground := .guard }], guard := Option.some (6, Bool.false) }) (v := undef) rfl (by kernel_rfl) (by kernel_rfl) (by kernel_rfl) (fun _ _ _ h => h) (Or.inr ⟨by kernel_rfl, rfl⟩) ?_
    try simp only [Act.put, List.setIfInBounds_toArray, List.set_cons_zero, List.set_cons_succ]
    refine wpAny_take (i := 16) (oi := { dst := Option.some 28, op := .indexAddr 22 (.tmp 26) (.tmp 27), type := 0, pos := "laws7change.go:527", after := #[{ on := 14, ground := .data }, { on := 15, ground := .data }, { on := 6, ground := .guard }], guard := Option.some (6, Bool.false) }) (v := undef) rfl (by kernel_rfl) (by kernel_rfl) (by kernel_rfl) (fun _ _ _ h => h) (Or.inr ⟨by kernel_rfl, rfl⟩) ?_
    try simp only [Act.put, List.setIfInBounds_toArray, List.set_cons_zero, List.set_cons_succ]
    refine wpAny_take (i := 17) (oi := { dst := Option.some 29, op := .fieldAddr 32 (.tmp 28) 4, type := 0, pos := "laws7change.go:527", after := #[{ on := 16, ground := .data }, { on := 6, ground := .guard }], guard := Option.some (6, Bool.false) }) (v := undef) rfl (by kernel_rfl) (by kernel_rfl) (by kernel_rfl) (fun _ _ _ h => h) (Or.inr ⟨by kernel_rfl, rfl⟩) ?_
    try simp only [Act.put, List.setIfInBounds_toArray, List.set_cons_zero, List.set_cons_succ]
    refine wpAny_take (i := 18) (oi := { dst := Option.some 30, op := .load 3 (.tmp 29), type := 3, pos := "laws7change.go:527", after := #[{ on := 17, ground := .data }, { on := 6, ground := .guard }], guard := Option.some (6, Bool.false) }) (v := undef) rfl (by kernel_rfl) (by kernel_rfl) (by kernel_rfl) (fun _ _ _ h => h) (Or.inr ⟨by kernel_rfl, rfl⟩) ?_
    try simp only [Act.put, List.setIfInBounds_toArray, List.set_cons_zero, List.set_cons_succ]
    refine wpAny_take (i := 19) (oi := { dst := Option.some 31, op := .binOp .add 3 (.tmp 30) (.const (.int .i64 1)) 3, type := 3, pos := "laws7change.go:527", after := #[{ on := 18, ground := .data }, { on := 6, ground := .guard }], guard := Option.some (6, Bool.false) }) (v := undef) rfl (by kernel_rfl) (by kernel_rfl) (by kernel_rfl) (fun _ _ _ h => h) (Or.inr ⟨by kernel_rfl, rfl⟩) ?_
    try simp only [Act.put, List.setIfInBounds_toArray, List.set_cons_zero, List.set_cons_succ]
    refine wpAny_take (i := 20) (oi := { dst := Option.some 32, op := .binOp .neq 3 (.tmp 25) (.tmp 31) 3, type := 4, pos := "laws7change.go:527", after := #[{ on := 13, ground := .data }, { on := 19, ground := .data }, { on := 6, ground := .guard }], guard := Option.some (6, Bool.false) }) (v := undef) rfl (by kernel_rfl) (by kernel_rfl) (by kernel_rfl) (fun _ _ _ h => h) (Or.inr ⟨by kernel_rfl, rfl⟩) ?_
    try simp only [Act.put, List.setIfInBounds_toArray, List.set_cons_zero, List.set_cons_succ]
    refine wpAny_take (i := 21) (oi := { dst := Option.some 33, op := .pick (.tmp 18) (.const (.bool Bool.true)) (.tmp 32), type := 4, pos := "laws7change.go:527", after := #[{ on := 6, ground := .data }, { on := 20, ground := .data }], guard := Option.none }) (v := ?_) rfl (by kernel_rfl) (by kernel_rfl) (by kernel_rfl) (fun _ _ _ h => h) (Or.inl ⟨by rfl, ?_⟩) ?_
    rotate_left 1
    · (intro wx; go_simp; try with_reducible rfl)
    try simp only [Act.put, List.setIfInBounds_toArray, List.set_cons_zero, List.set_cons_succ]
    refine wpAny_done (by kernel_rfl) ?_ _
    go_wp2
    go_ret
    exact ⟨rfl, HB4.out⟩
  obtain ⟨n, pl, lab, F, hR, hphi⟩ := hsay rfl
  obtain ⟨hnl, rfl, rfl, l, hpk, hl0, hgood, hun⟩ := hphi
  obtain rfl : len = n := hnl.symm
  obtain ⟨x, rfl⟩ : ∃ x, l = [x] := by
    have h1 := congrArg List.length hpk.eq
    simp only [List.length_map, List.length_singleton] at h1
    match l, h1 with
    | [x], _ => exact ⟨x, rfl⟩
  have hqx : q = (x : Int) := by
    have h9 := hpk.eq
    simpa using h9
  have hxl := hpk.lt x (by simp)
  obtain ⟨p, g, hu, hug, hkd, htag⟩ := hgood x (by simp)
  have hlen := hR.le
  have hF0 := wd0_ok hR.nest
  obtain ⟨hgl, hpl⟩ := hF0.lt g p ((hF0.iff g p).2 hug)
  have hpx : par (sz ts) x = some p := by rw [wd0_up hxl] at hu; exact hu
  have hpar := parent_any a len cap ts x w4 (HN.out.1.below HB4.out) hR.sizes hR.nest.fit hxl
  rw [hpx] at hpar
  have hpar : Calls Tryz.prog 8 #[.slice a len cap, .int .i64 (x : Int)] w4 (fun e w' => e = .returned (.int .i64 (p : Int)) ∧ w4 = w') := hpar
  obtain ⟨b, off, rfl, hcc⟩ := (HN.out.1.below HB4.out).at (by omega)
  have cx := (hcc x hxl).size
  have cp := (hcc p hpl).size
  rw [(hR.sizes x hxl).2.1] at cx
  rw [(hR.sizes p hpl).2.1] at cp
  have hfx := hR.nest.fit x hxl
  obtain ⟨zx, hzx⟩ : ∃ zx, sz ts x = zx := ⟨_, rfl⟩
  obtain ⟨zp, hzp⟩ : ∃ zp, sz ts p = zp := ⟨_, rfl⟩
  rw [hzx] at cx hfx
  rw [hzp] at cp
  have hxI : (x : Int) < (len : Int) := by omega
  have hpI : (p : Int) < (len : Int) := by omega
  have hwr : IntKind.i64.wrap ((zx : Int) + 1) = (zx : Int) + 1 := IntWalk.i64_in _ (by omega)
  obtain ⟨b5, hb5⟩ : ∃ b5, ((zp : Int) != (zx : Int) + 1) = b5 := ⟨_, rfl⟩
  have HR := Lib.hid hR
  have HPAR := Lib.hid hpar
  have HX := Lib.hid (And.intro hpk (And.intro hgood (And.intro hun (And.intro hu (And.intro hug (And.intro hkd (And.intro htag (And.intro hpx (And.intro hzx (And.intro hzp (And.intro hb5 hF0)))))))))))
  clear hR hpar hpk hl0 hgood hun hu hug hkd htag hpx hzx hzp hF0 hcc hsay hb4 HS HIQ2 HIQ HWQ HBQ HB2
  subst hqx
  refine wpAny_take (i := 7) (oi := { dst := Option.some 19, op := .move (.tmp 0), type := 22, pos := "laws7change.go:527", after := #[{ on := 6, ground := .guard }], guard := Option.some (6, Bool.false) }) (v := ?_) rfl (by kernel_rfl) (by kernel_rfl) (by kernel_rfl) (fun _ _ _ h => h) (Or.inl ⟨by rfl, ?_⟩) ?_
  rotate_left 1
  · (intro wx; go_simp; try with_reducible rfl)
  try simp only [Act.put, List.setIfInBounds_toArray, List.set_cons_zero, List.set_cons_succ]
  refine wpAny_take (i := 8) (oi := { dst := Option.some 20, op := .move (.tmp 0), type := 22, pos := "laws7change.go:527", after := #[{ on := 6, ground := .guard }], guard := Option.some (6, Bool.false) }) (v := ?_) rfl (by kernel_rfl) (by kernel_rfl) (by kernel_rfl) (fun _ _ _ h => h) (Or.inl ⟨by rfl, ?_⟩) ?_
  rotate_left 1
  · (intro wx; go_simp; try with_reducible rfl)
  try simp only [Act.put, List.setIfInBounds_toArray, List.set_cons_zero, List.set_cons_succ]
  refine wpAny_take (i := 9) (oi := { dst := Option.some 21, op := .move (.tmp 1), type := 3, pos := "laws7change.go:527", after := #[{ on := 6, ground := .guard }], guard := Option.some (6, Bool.false) }) (v := ?_) rfl (by kernel_rfl) (by kernel_rfl) (by kernel_rfl) (fun _ _ _ h => h) (Or.inl ⟨by rfl, ?_⟩) ?_
  rotate_left 1
  · (intro wx; go_simp; try with_reducible rfl)
  try simp only [Act.put, List.setIfInBounds_toArray, List.set_cons_zero, List.set_cons_succ]
  refine wpAny_take (i := 14) (oi := { dst := Option.some 26, op := .move (.tmp 0), type := 22, pos := "laws7change.go:527", after := #[{ on := 6, ground := .guard }], guard := Option.some (6, Bool.false) }) (v := ?_) rfl (by kernel_rfl) (by kernel_rfl) (by kernel_rfl) (fun _ _ _ h => h) (Or.inl ⟨by rfl, ?_⟩) ?_
  rotate_left 1
  · (intro wx; go_simp; try with_reducible rfl)
  try simp only [Act.put, List.setIfInBounds_toArray, List.set_cons_zero, List.set_cons_succ]
  refine wpAny_take (i := 15) (oi := { dst := Option.some 27, op := .move (.tmp 1), type := 3, pos := "laws7change.go:527", after := #[{ on := 6, ground := .guard }], guard := Option.some (6, Bool.false) }) (v := ?_) rfl (by kernel_rfl) (by kernel_rfl) (by kernel_rfl) (fun _ _ _ h => h) (Or.inl ⟨by rfl, ?_⟩) ?_
  rotate_left 1
  · (intro wx; go_simp; try with_reducible rfl)
  try simp only [Act.put, List.setIfInBounds_toArray, List.set_cons_zero, List.set_cons_succ]
  refine wpAny_take (i := 16) (oi := { dst := Option.some 28, op := .indexAddr 22 (.tmp 26) (.tmp 27), type := 0, pos := "laws7change.go:527", after := #[{ on := 14, ground := .data }, { on := 15, ground := .data }, { on := 6, ground := .guard }], guard := Option.some (6, Bool.false) }) (v := ?_) rfl (by kernel_rfl) (by kernel_rfl) (by kernel_rfl) (fun _ _ _ h => h) (Or.inl ⟨by rfl, ?_⟩) ?_
  rotate_left 1
  · (intro wx; go_simp; try with_reducible rfl)
  try simp only [Act.put, List.setIfInBounds_toArray, List.set_cons_zero, List.set_cons_succ]
  refine wpAny_take (i := 17) (oi := { dst := Option.some 29, op := .fieldAddr 32 (.tmp 28) 4, type := 0, pos := "laws7change.go:527", after := #[{ on := 16, ground := .data }, { on := 6, ground := .guard }], guard := Option.some (6, Bool.false) }) (v := ?_) rfl (by kernel_rfl) (by kernel_rfl) (by kernel_rfl) (fun _ _ _ h => h) (Or.inl ⟨by rfl, ?_⟩) ?_
  rotate_left 1
  · (intro wx; go_simp; try with_reducible rfl)
  try simp only [Act.put, List.setIfInBounds_toArray, List.set_cons_zero, List.set_cons_succ]
  refine wpAny_of_held (S := fun w => w = w4) _ _ _ _ ?_
  refine wpAnyH_take (i := 18) (oi := { dst := Option.some 30, op := .load 3 (.tmp 29), type := 3, pos := "laws7change.go:527", after := #[{ on := 17, ground := .data }, { on := 6, ground := .guard }], guard := Option.some (6, Bool.false) }) (v := ?_) rfl (by kernel_rfl) (by kernel_rfl) (by kernel_rfl) (fun _ _ _ h => h) (Or.inl ⟨by rfl, ?_⟩) rfl ?_
  rotate_left 1
  · (intro wx hSw; obtain rfl : wx = w4 := hSw; go_simp; try with_reducible rfl)
  try simp only [Act.put, List.setIfInBounds_toArray, List.set_cons_zero, List.set_cons_succ]
  refine wpAnyH_take (i := 19) (oi := { dst := Option.some 31, op := .binOp .add 3 (.tmp 30) (.const (.int .i64 1)) 3, type := 3, pos := "laws7change.go:527", after := #[{ on := 18, ground := .data }, { on := 6, ground := .guard }], guard := Option.some (6, Bool.false) }) (v := ?_) rfl (by kernel_rfl) (by kernel_rfl) (by kernel_rfl) (fun _ _ _ h => h) (Or.inl ⟨by rfl, ?_⟩) rfl ?_
  rotate_left 1
  · (intro wx hSw; obtain rfl : wx = w4 := hSw; go_simp; try with_reducible rfl)
  try simp only [Act.put, List.setIfInBounds_toArray, List.set_cons_zero, List.set_cons_succ]
  refine wpAnyH_ready (rs := [10]) (by kernel_rfl) (by simp) ?_
  refine AllReadyH.cons (o := { dst := Option.some 22, op := .call { callee := .value (.func 8), args := #[.tmp 20, .tmp 21], argTypes := #[22, 3] }, type := 3, pos := "laws7change.go:527", after := #[{ on := 8, ground := .data }, { on := 9, ground := .data }, { on := 6, ground := .chain }, { on := 6, ground := .guard }], guard := Option.some (6, Bool.false) }) rfl (fun K hK => ?_) AllReadyH.nil
  go_simp
  go_wp2_with (go_at_call 8; refine HPAR.out.mono ?_; rintro e w5 ⟨rfl, rfl⟩)
  refine hK.out _ _ rfl (fun hHeld => ?_)
  clear hK K hHeld
  try simp only [Act.put, List.setIfInBounds_toArray, List.set_cons_zero, List.set_cons_succ]
  refine wpAnyH_take (i := 11) (oi := { dst := Option.some 23, op := .indexAddr 22 (.tmp 19) (.tmp 22), type := 0, pos := "laws7change.go:527", after := #[{ on := 7, ground := .data }, { on := 10, ground := .data }, { on := 6, ground := .guard }], guard := Option.some (6, Bool.false) }) (v := ?_) rfl (by kernel_rfl) (by kernel_rfl) (by kernel_rfl) (fun _ _ _ h => h) (Or.inl ⟨by rfl, ?_⟩) rfl ?_
  rotate_left 1
  · (intro wx hSw; obtain rfl : wx = w4 := hSw; go_simp; try with_reducible rfl)
  try simp only [Act.put, List.setIfInBounds_toArray, List.set_cons_zero, List.set_cons_succ]
  refine wpAnyH_take (i := 12) (oi := { dst := Option.some 24, op := .fieldAddr 32 (.tmp 23) 4, type := 0, pos := "laws7change.go:527", after := #[{ on := 11, ground := .data }, { on := 6, ground := .guard }], guard := Option.some (6, Bool.false) }) (v := ?_) rfl (by kernel_rfl) (by kernel_rfl) (by kernel_rfl) (fun _ _ _ h => h) (Or.inl ⟨by rfl, ?_⟩) rfl ?_
  rotate_left 1
  · (intro wx hSw; obtain rfl : wx = w4 := hSw; go_simp; try with_reducible rfl)
  try simp only [Act.put, List.setIfInBounds_toArray, List.set_cons_zero, List.set_cons_succ]
  refine wpAnyH_take (i := 13) (oi := { dst := Option.some 25, op := .load 3 (.tmp 24), type := 3, pos := "laws7change.go:527", after := #[{ on := 12, ground := .data }, { on := 6, ground := .guard }], guard := Option.some (6, Bool.false) }) (v := ?_) rfl (by kernel_rfl) (by kernel_rfl) (by kernel_rfl) (fun _ _ _ h => h) (Or.inl ⟨by rfl, ?_⟩) rfl ?_
  rotate_left 1
  · (intro wx hSw; obtain rfl : wx = w4 := hSw; go_simp; try with_reducible rfl)
  try simp only [Act.put, List.setIfInBounds_toArray, List.set_cons_zero, List.set_cons_succ]
  refine wpAnyH_take (i := 20) (oi := { dst := Option.some 32, op := .binOp .neq 3 (.tmp 25) (.tmp 31) 3, type := 4, pos := "laws7change.go:527", after := #[{ on := 13, ground := .data }, { on := 19, ground := .data }, { on := 6, ground := .guard }], guard := Option.some (6, Bool.false) }) (v := ?_) rfl (by kernel_rfl) (by kernel_rfl) (by kernel_rfl) (fun _ _ _ h => h) (Or.inl ⟨by rfl, ?_⟩) rfl ?_
  rotate_left 1
  · (intro wx hSw; obtain rfl : wx = w4 := hSw; go_simp; try with_reducible rfl)
  try simp only [Act.put, List.setIfInBounds_toArray, List.set_cons_zero, List.set_cons_succ]
  refine wpAnyH_take (i := 21) (oi := { dst := Option.some 33, op := .pick (.tmp 18) (.const (.bool Bool.true)) (.tmp 32), type := 4, pos := "laws7change.go:527", after := #[{ on := 6, ground := .data }, { on := 20, ground := .data }], guard := Option.none }) (v := ?_) rfl (by kernel_rfl) (by kernel_rfl) (by kernel_rfl) (fun _ _ _ h => h) (Or.inl ⟨by rfl, ?_⟩) rfl ?_
  rotate_left 1
  · (intro wx hSw; obtain rfl : wx = w4 := hSw; go_simp; try with_reducible rfl)
  try simp only [Act.put, List.setIfInBounds_toArray, List.set_cons_zero, List.set_cons_succ]
  refine wpAnyH_done (by kernel_rfl) ?_ _
  clear hwr
  cases b5
  rotate_left 1
  · go_wp2
    go_ret
    exact ⟨rfl, HB4.out⟩
  clear cx cp
  obtain ⟨hpk, hgood, hun, hu, hug, hkd, htag, hpx, hzx, hzp, hb5, hF0⟩ := HX.out
  have hzz : zp = zx + 1 := by
    have h9 : (zp : Int) = (zx : Int) + 1 := by simpa using hb5
    omega
  have e1 : parK (wd0 (sz ts) len) x = p := by unfold parK; rw [hu]; rfl
  have hun2 : Unws F [p] (wd0 (sz ts) len) := by
    have h9 := hun
    rw [List.map_singleton, e1] at h9
    exact h9
  obtain ⟨A, B, hk, ho⟩ : ∃ A B, (wd0 (sz ts) len).kids g = A ++ p :: B ∧ UnwOut len (wd0 (sz ts) len) p g A B F := by
    cases hun2 with
    | @cons _ g' _ A B _ hu' hk' h3 =>
      rw [hug] at hu'
      cases hu'
      cases h3 with
      | nil h4 => exact ⟨A, B, hk', by rw [h4]; exact unwr_out hF0 hug hk'⟩
  obtain ⟨C, hC, hnd, hClt, hCl⟩ := ho.ok.sized HR.out.pos
  obtain ⟨u1, u2, u3, u4, u5, u6⟩ := unw_one HR.out.nest HR.out.pos HR.out.root hxl hpx (by rw [hzp, hzx]; exact hzz) hug hk ho hC hnd
  rw [hzx] at u5 u6
  obtain ⟨wz, hwz⟩ : ∃ wz, w4.alloc (.cells #[.int .i64 (x : Int)] 3) = wz := ⟨_, rfl⟩
  have hbz : Below W.heap.size W wz := by rw [← hwz]; exact HB4.out.alloc HB4.out.size _
  have hcz : wz.cell? ⟨w4.heap.size, 0, none⟩ = some (.int .i64 (x : Int)) := by rw [← hwz]; exact cell_alloc_new' _ _ _ rfl rfl
  have hiz : Ints wz (some ⟨w4.heap.size, 0, none⟩) 1 [(x : Int)] := ⟨rfl, by decide, fun _ => ⟨w4.heap.size, 0, rfl, fun i hi => by
    obtain rfl : i = 0 := by omega
    exact hcz⟩⟩
  have hof := unwrapOf_any wz (some ⟨b, off, none⟩) len cap ts HR.out (HN.out.1.below hbz) (.slice (some ⟨w4.heap.size, 0, none⟩) 1 1) [x] (hpk.reads hiz (Nat.le_refl _) (by decide)) hpk.lt (once_nodup hpk.nd) (by simp) (by simp) hgood hun C hC
  have hkk : ∀ y, y < len → F.kids y ≠ [] → (ts.getD y default).kind = 1 ∨ (ts.getD y default).kind = 3 := fun y hy h => wd0_kk HR.out y hy (ho.kk hF0 hug hk h)
  obtain ⟨m, hm⟩ : ∃ m, C.length = m := ⟨_, rfl⟩
  rw [hm] at u2 u5 hCl
  have hpl2 : p < len := by omega
  have g1 : ((m : Int) == (len : Int) - 1) = true := by simp; omega
  have hpm : (p : Int) < (m : Int) := by have := HR.out.nest.pos x hxl; omega
  have hzx0 : 0 < zx := by have := HR.out.nest.pos x hxl; omega
  have HOF := Lib.hid hof
  have HBZ := Lib.hid hbz
  have HCC := Lib.hid (And.intro hC (And.intro hnd (And.intro hClt (And.intro hm (And.intro hkk (And.intro hCl (And.intro u3 (And.intro u4 (And.intro u6 hzx)))))))))
  have HPA : Hid (∀ w9, Below W.heap.size W w9 → Calls Tryz.prog 8 #[.slice (some ⟨b, off, none⟩) len cap, .int .i64 (x : Int)] w9 (fun e w' => e = .returned (.int .i64 (p : Int)) ∧ w9 = w')) := Lib.hid (fun w9 h9 => by
    have h8 := parent_any (some ⟨b, off, none⟩) len cap ts x w9 (HN.out.1.below h9) HR.out.sizes HR.out.nest.fit hxl
    rw [hpx] at h8
    exact h8)
  have HLE := Lib.hid (And.intro u1 (And.intro u2 (And.intro u5 (And.intro hzz (And.intro hxl (And.intro hpl hfx))))))
  clear hpk hgood hun hu hug hkd htag hpx hzx hzp hb5 hF0 hzz e1 hun2 hk ho hC hnd hClt hCl u1 u3 u4 u6 hof hbz hcz hiz hkk hm HPAR HX
  clear u2 u5 hfx
  subst hwz
  go_wp2_with fail
  refine HOF.out.mono ?_
  rintro e w5 ⟨tv, pv, rfl, hot, hz, hb5⟩
  have HB5 := Lib.hid (HBZ.out.trans (hb5.out.mono HBZ.out.size))
  obtain ⟨oa, oc, ts', rfl, hn', hlike⟩ := hot.out.nodes (fun y hy => fit_of HR.out HN.out.1 y.1 (HCC.out.2.2.1 y hy)) (fun y hy => by have := HCC.out.1.sizes y hy; have := HCC.out.2.2.2.2.2.1; have := HCC.out.2.2.2.1; omega) (by have := HCC.out.2.2.2.2.2.1; have := HCC.out.2.2.2.1; omega)
  obtain ⟨pa, pc, rfl, hp⟩ := hz.out.ints
  have hcap := hot.out.cap
  have hplc : (placesW len C).length = len := by simp [placesW]
  rw [hplc] at hp ⊢
  have hsh := out_shaped HR.out HCC.out.1 HCC.out.2.1 HCC.out.2.2.1 HCC.out.2.2.2.2.1 hlike
  rw [HCC.out.2.2.2.1] at hn' hsh hcap
  rw [HCC.out.2.2.2.1]
  obtain ⟨_, _, pb, po, hpa, hpc⟩ := hp.open
  obtain rfl := hpa (by omega)
  obtain ⟨ob, oo, rfl, _⟩ := hn'.at (by omega)
  have cp9 := hpc p (by omega)
  have cx9 := hpc x (by omega)
  rw [places_get (by omega), HCC.out.2.2.2.2.2.2.1] at cp9
  rw [places_get (by omega), HCC.out.2.2.2.2.2.2.2.1] at cx9
  have htold := told7_any (some ⟨b, off, none⟩) len cap (some ⟨ob, oo, none⟩) m oc ts' (some ⟨pb, po, none⟩) pc w5 hn' hsh (by have := HLE.out.2.1; omega)
  have hm2 : m ≤ oc := hcap.1
  have hm3 := hcap.2
  have HTOLD := Lib.hid htold
  have HOUT := Lib.hid (And.intro hn' (And.intro hlike (And.intro cp9 cx9)))
  clear htold hsh hn' hlike hp hpc cp9 cx9 hot hz hb5 HOF hplc hcap
  go_wp2_with fail
  refine (HPA.out w5 HB5.out).mono ?_
  rintro e w9 ⟨rfl, rfl⟩
  go_wp2_with fail
  refine HTOLD.out.mono ?_
  rintro e w6 ⟨rfl, hb6⟩
  have HB6 := Lib.hid (HB5.out.trans (hb6.mono HB5.out.size))
  have cp9 := cell_below hb6 HOUT.out.2.2.1
  have cx9 := cell_below hb6 HOUT.out.2.2.2
  have hlk : ∀ j, j < zx → (ts'.getD (p + j) default).size = (sz ts (x + j) : Int) ∧ SameN (ts'.getD (p + j) default) (ts.getD (x + j) default) := fun j hj => by
    have hl9 := HLE.out
    have h1 := HCC.out.2.2.2.2.2.2.2.2.1 j hj
    obtain ⟨k1, k2, k3, k4, k5⟩ := HOUT.out.2.1 (p + j) (by rw [HCC.out.2.2.2.1]; omega)
    rw [h1] at k1 k2 k3 k4 k5
    exact ⟨k5, k1, k2, k3, k4, k5.trans (HR.out.sizes (x + j) (by omega)).2.1.symm⟩
  have hs1 := sub_any ob oo m oc ts' w6 (HOUT.out.1.below hb6) hm2 hm3 hzx0 (p := p) HLE.out.2.2.1 (by
    have h1 := (hlk 0 hzx0).1
    simp only [Nat.add_zero] at h1
    rw [h1, HCC.out.2.2.2.2.2.2.2.2.2])
  have hs2 := sub_any b off len cap ts w6 (HN.out.1.below HB6.out) HN.out.2.1 HN.out.2.2 hzx0 (p := x) (by have := HLE.out.2.2.2.2.2.2; omega) (by rw [(HR.out.sizes x hxl).2.1, HCC.out.2.2.2.2.2.2.2.2.2])
  have hst := sameTree_any (some ⟨ob, oo + p * 5, none⟩) (some ⟨b, off + x * 5, none⟩) zx (oc - p) (cap - x) _ _ w6 (nodes_sub (HOUT.out.1.below hb6) (p := p) (n := zx) HLE.out.2.2.1) (nodes_sub (HN.out.1.below HB6.out) (p := x) (n := zx) (by have := HLE.out.2.2.2.2.2.2; omega)) (fun i hi => by
    have := (hlk i hi).2
    simpa [List.getD, hi] using this)
  have HS1 := Lib.hid hs1
  have HS2 := Lib.hid hs2
  have HST := Lib.hid hst
  clear hs1 hs2 hst hlk hb6 HTOLD
  go_wp2_with fail
  refine HS1.out.mono ?_
  rintro e w7 ⟨rfl, hw7⟩
  subst hw7
  go_wp2_with fail
  refine HS2.out.mono ?_
  rintro e w8 ⟨rfl, hw8⟩
  subst hw8
  go_wp2_with fail
  refine HST.out.mono ?_
  rintro e w10 ⟨rfl, hb10⟩
  have HB10 := Lib.hid (HB6.out.trans (hb10.mono HB6.out.size))
  clear hb10 HST
  go_wp2
  go_ret
  exact ⟨rfl, HB10.out⟩

end Go.Proofs.YtoleejaabiafcaaGreat.lawFnUnwrapped
