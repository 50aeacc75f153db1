/- The walk of FnAddBack. -/
import Derived.Test.YtphppdbhofeagaaGreatBackOps
import Derived.Test.YtphppdbhofeagaaGreatRelatedAdd
import Derived.Test.YtphppdbhofeagaaGreatRisingAll
import Derived.Deep.RegionHeld3
namespace Go.Proofs.YtphppdbhofeagaaGreat
open Go.RowKit
set_option linter.unusedVariables false
set_option linter.unusedSimpArgs false

theorem results_cell_back {fn : Func} {p : Tmp} {ty : TypeId} (h : fn.results = #[.cell p ty]) (tmps : Array Value) (P : Program) (w : World) :
    (results fn tmps).run P w = ((asAddr (tmps.getD p undef)).run P w).andThen fun a w₁ => (loadVar ty a).run P w₁ := by
  simp only [results, h]
  simp [Sem.run_bind, Result.andThen]

set_option maxRecDepth 100000 in
theorem by7_back (op : Int) (w : World) : Calls Tryz.prog 7 #[.int .i64 op] w (Gives (.agg #[.int .i64 op, .string ⟨#[]⟩, .slice none 0 0, .int .i64 0, .int .i64 0]) w) := by
  go_enter Tryz.func7, Tryz.ntmps7
  go_wp2
  refine bodyPost_ret (v := .agg #[.int .i64 op, .string ⟨#[]⟩, .slice none 0 0, .int .i64 0, .int .i64 0]) ?_ rfl ?_
  · rw [results_cell_back rfl]
    go_simp
    try rfl
  · exact ⟨rfl, (Below.refl _ _).alloc (Nat.le_refl _) _⟩

theorem u8_mod {how : Int} (h : (Lit.int IntKind.u8 how).wf = true) : 0 ≤ how.tmod 8 ∧ how.tmod 8 < 8 := by
  have h1 : 0 ≤ how := by
    simp [Lit.wf, IntKind.min, IntKind.signed] at h
    exact h.1
  exact ⟨Int.tmod_nonneg _ h1, Int.tmod_lt_of_pos _ (by decide)⟩

theorem eight_at (k : Nat) (hk : k < 8) : ([.int .i64 20, .int .i64 22, .int .i64 23, .int .i64 25, .int .i64 26, .int .i64 28, .int .i64 29, .int .i64 31] : List Value)[k]'hk = .int .i64 (opOf k) := by
  match k, hk with
  | 0, _ => rfl
  | 1, _ => rfl
  | 2, _ => rfl
  | 3, _ => rfl
  | 4, _ => rfl
  | 5, _ => rfl
  | 6, _ => rfl
  | 7, _ => rfl

namespace lawFnAddBack

set_option maxRecDepth 100000 in
set_option maxHeartbeats 8000000 in
theorem walk {W : World} (a : Option Addr) (len cap : Nat) (ts : List NodeD) (h : Nodes W a len ts ∧ len ≤ cap ∧ cap ≤ maxLen) (a1 : Option Addr) (n1 c1 : Nat) (z1 : List Int) (h1 : Ints W a1 n1 z1 ∧ n1 ≤ c1 ∧ c1 ≤ maxLen) (how : Int) (hhow : (Lit.int IntKind.u8 how).wf = true) :
    Calls Tryz.prog 3 #[.slice a len cap, .slice a1 n1 c1, .int .u8 how] W (YesB W) := by
  obtain ⟨hN, hN2⟩ := h
  obtain ⟨h1, hc1⟩ := h1
  have hm1 := h1.open.2.1
  have HN := Lib.hid hN
  have H1 := Lib.hid (And.intro h1 hc1)
  clear hN hN2 h1 hc1
  go_enter Tryz.func3, Tryz.ntmps3
  go_wp2_with fail
  refine (fits1_any a len cap ts W HN.out).mono ?_
  rintro e w1 ⟨b1, _, rfl, hb1⟩
  have HB1 := Lib.hid hb1
  clear hb1
  cases b1
  · go_wp2
    go_ret
    exact ⟨rfl, HB1.out⟩
  by_cases q1 : (2147483647 : Int) < (n1 : Int)
  · have g1 : decide ((2147483647 : Int) < (n1 : Int)) = true := by simp [q1]
    clear q1
    go_wp2
    go_ret
    exact ⟨rfl, HB1.out⟩
  have g1 : decide ((2147483647 : Int) < (n1 : Int)) = false := by simp [q1]
  clear q1
  go_wp2_with fail
  refine (rising3_any a len cap ts a1 n1 c1 z1 w1 (HN.out.below HB1.out) ⟨H1.out.1.below HB1.out, H1.out.2⟩).mono ?_
  rintro e w2 ⟨b2, hb2, rfl, hbel2⟩
  have HB2 := Lib.hid (HB1.out.trans (hbel2.mono HB1.out.size))
  clear hbel2 HB1
  cases b2
  · go_wp2
    go_ret
    exact ⟨rfl, HB2.out⟩
  obtain ⟨hR, l, hp, hk⟩ := hb2 rfl
  obtain ⟨m1, m2⟩ := u8_mod hhow
  have hk8 : (how.tmod 8).toNat < 8 := by omega
  obtain ⟨F, G, hst⟩ := step_ok a len cap ts hR (how.tmod 8).toNat hk8
  have hidx := eight_at (how.tmod 8).toNat hk8
  obtain ⟨op, hop⟩ : ∃ op, opOf (how.tmod 8).toNat = op := ⟨_, rfl⟩
  rw [hop] at hidx hst
  have hle : l.length ≤ 200 := Nat.le_trans hp.le hR.le
  have hlen := hR.le
  have hpos : ∀ i ∈ l, 0 < i := fun i hi => by
    rcases Nat.eq_zero_or_pos i with h0 | h0
    · have h3 := hk i hi
      rw [h0, hR.kind] at h3
      omega
    · exact h0
  have hrd := fun (w : World) (hb : Below W.heap.size W w) => hp.reads (H1.out.1.below hb) H1.out.2.1 H1.out.2.2
  have hrel := fun (w : World) (hb : Below W.heap.size W w) => related_g op hst.one G a len cap ts (.slice a1 n1 c1) l w hR (HN.out.below hb) (hrd w hb) hp.lt hle (fun x hx => hst.few x (hp.lt x hx)) hst.rel
  have himp := fun (w : World) (hb : Below W.heap.size W w) (pb pc : Nat) (q0 : PickAt w pb 0 op) (q1 : PickAt w pb 5 40) => goes_of _ w a len cap (.slice a1 n1 c1) pb pc (walked_any op F w a len cap ts hR (HN.out.below hb) (.slice a1 n1 c1) l (hrd w hb) hp.lt hp.once hle hpos (fun x hx => hst.good x (hp.lt x hx)) hst.kin pb pc q0 q1)
  have hmem : ∀ y, y ∈ onceF (l.flatMap F) ↔ y ∈ onceF (l.flatMap G) := fun y => by
    rw [onceF_mem, onceF_mem, List.mem_flatMap, List.mem_flatMap]
    constructor
    · rintro ⟨x, hx, hy⟩
      exact ⟨x, hx, (hst.mem x (hp.lt x hx) (hpos x hx) y).1 hy⟩
    · rintro ⟨x, hx, hy⟩
      exact ⟨x, hx, (hst.mem x (hp.lt x hx) (hpos x hx) y).2 hy⟩
  have hKl : (onceF (l.flatMap F)).length ≤ 200 := Nat.le_trans (once_le (onceF_once _) (flat_lt (fun x hx => hst.good x (hp.lt x hx)))) hlen
  have hll := once_same_len (onceF_once (l.flatMap G)) (onceF_once (l.flatMap F)) (fun y => (hmem y).symm)
  have hres : withAll (onceF (l.flatMap F)) l = onceF (l.flatMap F ++ l) := (once_withAll _ _).symm
  rw [hres] at himp
  obtain ⟨M, hM⟩ : ∃ M, onceF (l.flatMap G) = M := ⟨_, rfl⟩
  have hmem2 : ∀ y, y ∈ onceF (l.flatMap F ++ l) ↔ y ∈ onceF (M ++ l) := fun y => by
    rw [onceF_mem, onceF_mem, List.mem_append, List.mem_append, ← hM, ← hmem y, onceF_mem]
  have hlt2 : ∀ i ∈ onceF (l.flatMap F ++ l), i < len := fun i hi => by
    rw [onceF_mem, List.mem_append] at hi
    rcases hi with h | h
    · exact flat_lt (fun x hx => hst.good x (hp.lt x hx)) i ((onceF_mem).2 h)
    · exact hp.lt i h
  have hlen2 : (onceF (l.flatMap F ++ l)).length ≤ 200 := Nat.le_trans (once_le (onceF_once _) hlt2) hlen
  have hll2 := once_same_len (onceF_once (M ++ l)) (onceF_once (l.flatMap F ++ l)) (fun y => (hmem2 y).symm)
  have hon2 := onceF_once (l.flatMap F ++ l)
  have hMl : M.length ≤ 200 := by rw [← hM, hll]; exact hKl
  obtain ⟨Z, hZ⟩ : ∃ Z, onceF (l.flatMap F ++ l) = Z := ⟨_, rfl⟩
  obtain ⟨Y, hY⟩ : ∃ Y, onceF (M ++ l) = Y := ⟨_, rfl⟩
  rw [hM] at hrel
  rw [hZ] at himp hmem2 hlen2 hll2 hon2
  rw [hY] at hmem2 hll2
  have HREL := Lib.hid hrel
  have HIMP := Lib.hid himp
  have HRD := Lib.hid hrd
  have HON := Lib.hid (And.intro hon2 (And.intro hmem2 (And.intro hll2 hY)))
  have HIDX := Lib.hid hidx
  clear hb2 hR hp hrel himp hrd hon2 hmem hmem2 hll hll2 hM hY hZ hk hpos hst hop hres hKl hlt2 hidx
  go_wp2_with fail
  rw [HIDX.out]
  refine (by7_back op _).mono ?_
  rintro e w3 ⟨rfl, hb3⟩
  have HB3 := Lib.hid (HB2.out.trans (((Below.refl w2.heap.size w2).alloc (Nat.le_refl _) _).trans (hb3.mono (by simp)) |>.mono HB2.out.size))
  clear hb3 HIDX
  have hbx : Below w3.heap.size w3 (w3.alloc (.cells #[.int .i64 op, .string ⟨#[]⟩, .slice none 0 0, .int .i64 0, .int .i64 0] 27)) := (Below.refl _ _).alloc (Nat.le_refl _) _
  have hx : ∀ i u, (#[.int .i64 op, .string ⟨#[]⟩, .slice none 0 0, .int .i64 0, .int .i64 0] : Array Value)[i]? = some u → (w3.alloc (.cells #[.int .i64 op, .string ⟨#[]⟩, .slice none 0 0, .int .i64 0, .int .i64 0] 27)).cell? ⟨w3.heap.size, i, none⟩ = some u := fun i u h => cell_alloc_new' _ _ _ rfl h
  obtain ⟨wx, hwx⟩ : ∃ wx, w3.alloc (.cells #[.int .i64 op, .string ⟨#[]⟩, .slice none 0 0, .int .i64 0, .int .i64 0] 27) = wx := ⟨_, rfl⟩
  rw [hwx] at hbx hx
  have x0 := hx 0 _ rfl
  have x1 := hx 1 _ rfl
  have x2 := hx 2 _ rfl
  have x3 := hx 3 _ rfl
  have x4 := hx 4 _ rfl
  have HBX := Lib.hid (HB3.out.trans (hbx.mono HB3.out.size))
  have HRL := Lib.hid (HREL.out wx HBX.out)
  have HWX := Lib.hid hwx
  clear hwx hx hbx
  go_wp2_with fail
  rw [HWX.out]
  refine HRL.out.mono ?_
  rintro e w4 ⟨v4, rfl, ho4, hb4⟩
  have HB4 := Lib.hid (HBX.out.trans (hb4.out.mono HBX.out.size))
  have hr4 := ho4.out.reads
  obtain ⟨a4, c4, hv4, _⟩ := hr4.nil
  rw [List.length_map] at hv4
  subst hv4
  have y0 := cell_below hb4.out x0
  have y1 := cell_below hb4.out x1
  have y2 := cell_below hb4.out x2
  have y3 := cell_below hb4.out x3
  have y4 := cell_below hb4.out x4
  have h37 := related_37 a len cap (.slice a4 M.length c4) (.slice a1 n1 c1) M l w4 hr4 (HRD.out w4 HB4.out) (by omega) (by omega)
  rw [HON.out.2.2.2] at h37
  have H37 := Lib.hid h37
  clear hr4 ho4 hb4 HB3 HRL x0 x1 x2 x3 x4 h37 HBX HWX
  go_wp2_with fail
  refine H37.out.mono ?_
  rintro e w5 ⟨v5, rfl, ho5, hb5⟩
  have HB5 := Lib.hid (HB4.out.trans (hb5.out.mono HB4.out.size))
  have hr5 := ho5.out.reads
  obtain ⟨a5, c5, hv5, _⟩ := hr5.nil
  rw [List.length_map, HON.out.2.2.1] at hv5
  subst hv5
  have x0 := cell_below hb5.out y0
  have x1 := cell_below hb5.out y1
  have x2 := cell_below hb5.out y2
  have x3 := cell_below hb5.out y3
  have x4 := cell_below hb5.out y4
  have HR5 := Lib.hid hr5
  clear ho5 hr5 hb5 H37 HB4 y0 y1 y2 y3 y4
  go_wp2_with fail
  refine wp_region_any (by kernel_rfl) ?_
  try (change wpAny _ _ _ _ _ _ _ (World.drew _))
  obtain ⟨wd, hwd⟩ : ∃ wd, w5.drew = wd := ⟨_, rfl⟩
  have hbd : Below w5.heap.size w5 wd := by rw [← hwd]; exact (Below.refl _ _).drew
  rw [hwd]
  have hHeld : wd.cell? ⟨w3.heap.size, 0, none⟩ = some (.int .i64 op) ∧ wd.cell? ⟨w3.heap.size, 1, none⟩ = some (.string ⟨#[]⟩) ∧ wd.cell? ⟨w3.heap.size, 2, none⟩ = some (.slice none 0 0) ∧ wd.cell? ⟨w3.heap.size, 3, none⟩ = some (.int .i64 0) ∧ wd.cell? ⟨w3.heap.size, 4, none⟩ = some (.int .i64 0) := ⟨cell_below hbd x0, cell_below hbd x1, cell_below hbd x2, cell_below hbd x3, cell_below hbd x4⟩
  have HBD := Lib.hid hbd
  clear hwd hbd
  refine wpAny_of_held (S := fun w' => w'.cell? ⟨w3.heap.size, 0, none⟩ = some (.int .i64 op) ∧ w'.cell? ⟨w3.heap.size, 1, none⟩ = some (.string ⟨#[]⟩) ∧ w'.cell? ⟨w3.heap.size, 2, none⟩ = some (.slice none 0 0) ∧ w'.cell? ⟨w3.heap.size, 3, none⟩ = some (.int .i64 0) ∧ w'.cell? ⟨w3.heap.size, 4, none⟩ = some (.int .i64 0)) _ _ _ _ ?_
  refine wpAnyH_take (i := 0) (oi := { dst := some 46, op := .move (.tmp 0), type := 22, pos := "laws7relatives.go:104", after := #[], guard := none }) (v := ?_) rfl (by kernel_rfl) (by kernel_rfl) (by kernel_rfl) (fun _ _ _ h => h) (Or.inl ⟨by rfl, ?_⟩) (by assumption) ?_
  rotate_left 1
  · (intro wx hSw; (try dsimp only at hSw); go_simp; try with_reducible rfl)
  try simp only [Act.put, List.setIfInBounds_toArray, List.set_cons_zero, List.set_cons_succ]
  refine wpAnyH_take (i := 1) (oi := { dst := some 47, op := .move (.tmp 1), type := 23, pos := "laws7relatives.go:104", after := #[], guard := none }) (v := ?_) rfl (by kernel_rfl) (by kernel_rfl) (by kernel_rfl) (fun _ _ _ h => h) (Or.inl ⟨by rfl, ?_⟩) (by assumption) ?_
  rotate_left 1
  · (intro wx hSw; (try dsimp only at hSw); go_simp; try with_reducible rfl)
  try simp only [Act.put, List.setIfInBounds_toArray, List.set_cons_zero, List.set_cons_succ]
  refine wpAnyH_take (i := 2) (oi := { dst := some 48, op := .load 27 (.tmp 7), type := 27, pos := "laws7relatives.go:104", after := #[], guard := none }) (v := ?_) rfl (by kernel_rfl) (by kernel_rfl) (by kernel_rfl) (fun _ _ _ h => h) (Or.inl ⟨by rfl, ?_⟩) (by assumption) ?_
  rotate_left 1
  · (intro wz hSw; (try dsimp only at hSw); obtain ⟨s0, s1, s2, s3, s4⟩ := hSw; go_simp; try with_reducible rfl)
  try simp only [Act.put, List.setIfInBounds_toArray, List.set_cons_zero, List.set_cons_succ]
  refine wpAnyH_ready (rs := [3]) (by kernel_rfl) (by simp) ?_
  refine AllReadyH.cons (o := { dst := some 49, op := .call { callee := .value (.func 7), args := #[.const (.int .i64 40)], argTypes := #[3] }, type := 27, pos := "laws7relatives.go:104", after := #[], guard := none }) rfl (fun K hK => ?_) AllReadyH.nil
  go_simp
  go_wp2_with (go_at_call 7; refine (by7_back 40 _).mono ?_; rintro e w6 ⟨rfl, hb6⟩)
  have hb56 := HBD.out.trans (hb6.mono HBD.out.size)
  refine hK.out _ _ ⟨cell_below hb56 x0, cell_below hb56 x1, cell_below hb56 x2, cell_below hb56 x3, cell_below hb56 x4⟩ (fun hHeld => ?_)
  have HB6 := Lib.hid hb56
  clear hK K hb6 hb56
  try simp only [Act.put, List.setIfInBounds_toArray, List.set_cons_zero, List.set_cons_succ]
  refine wpAnyH_ready (rs := [4]) (by kernel_rfl) (by simp) ?_
  refine AllReadyH.cons (o := { dst := some 50, op := .buildSlice 34 2 #[(0, .tmp 48), (1, .tmp 49)], type := 34, pos := "laws7relatives.go:104", after := #[{ on := 2, ground := .data }, { on := 3, ground := .data }], guard := none }) rfl (fun K hK => ?_) AllReadyH.nil
  go_simp
  have hb57 : Below w5.heap.size w5 (w6.alloc (.cells #[.int .i64 op, .string ⟨#[]⟩, .slice none 0 0, .int .i64 0, .int .i64 0, .int .i64 40, .string ⟨#[]⟩, .slice none 0 0, .int .i64 0, .int .i64 0] 27)) := HB6.out.alloc HB6.out.size _
  have hx : ∀ i u, (#[.int .i64 op, .string ⟨#[]⟩, .slice none 0 0, .int .i64 0, .int .i64 0, .int .i64 40, .string ⟨#[]⟩, .slice none 0 0, .int .i64 0, .int .i64 0] : Array Value)[i]? = some u → (w6.alloc (.cells #[.int .i64 op, .string ⟨#[]⟩, .slice none 0 0, .int .i64 0, .int .i64 0, .int .i64 40, .string ⟨#[]⟩, .slice none 0 0, .int .i64 0, .int .i64 0] 27)).cell? ⟨w6.heap.size, i, none⟩ = some u := fun i u h => cell_alloc_new' _ _ _ rfl h
  refine hK.out _ _ ⟨cell_below hb57 x0, cell_below hb57 x1, cell_below hb57 x2, cell_below hb57 x3, cell_below hb57 x4⟩ (fun hHeld => ?_)
  obtain ⟨w7, hw7⟩ : ∃ w7, w6.alloc (.cells #[.int .i64 op, .string ⟨#[]⟩, .slice none 0 0, .int .i64 0, .int .i64 0, .int .i64 40, .string ⟨#[]⟩, .slice none 0 0, .int .i64 0, .int .i64 0] 27) = w7 := ⟨_, rfl⟩
  rw [hw7] at hb57 hx hHeld ⊢
  have hb07 := HB5.out.trans (hb57.mono HB5.out.size)
  have HIM := Lib.hid (HIMP.out w7 hb07 w6.heap.size 2 ⟨hx 0 _ rfl, hx 1 _ rfl, hx 2 _ rfl, hx 3 _ rfl, hx 4 _ rfl⟩ ⟨hx 5 _ rfl, hx 6 _ rfl, hx 7 _ rfl, hx 8 _ rfl, hx 9 _ rfl⟩)
  have HB7 := Lib.hid (And.intro hb57 hb07)
  clear hK K hb57 hb07 hx hw7 HB6
  try simp only [Act.put, List.setIfInBounds_toArray, List.set_cons_zero, List.set_cons_succ]
  refine wpAnyH_ready (rs := [5]) (by kernel_rfl) (by simp) ?_
  refine AllReadyH.cons (o := { dst := some 51, op := .call { callee := .value (.func 9), args := #[.tmp 46, .tmp 47, .tmp 50], argTypes := #[22, 23, 34] }, type := 29, pos := "laws7relatives.go:104", after := #[{ on := 0, ground := .data }, { on := 1, ground := .data }, { on := 4, ground := .data }, { on := 3, ground := .chain }], guard := none }) rfl (fun K hK => ?_) AllReadyH.nil
  go_simp
  go_wp2_with (go_at_call 9; refine HIM.out.mono ?_; rintro e w8 ⟨v8, rfl, hr8, hb8⟩)
  have hb58 := HB7.out.1.trans (hb8.out.mono HB7.out.1.size)
  have hb08 := HB7.out.2.trans (hb8.out.mono HB7.out.2.size)
  refine hK.out _ _ ⟨cell_below hb58 x0, cell_below hb58 x1, cell_below hb58 x2, cell_below hb58 x3, cell_below hb58 x4⟩ (fun hHeld => ?_)
  have hso := sameOnce2_any v8 (.slice a5 Z.length c5) Z Y w8 hr8.out (HR5.out.below hb58) HON.out.1 HON.out.2.2.1 (fun x hx => (HON.out.2.1 x).1 hx) (by omega)
  obtain ⟨a8, c8, hv8, _⟩ := hr8.out.nil
  rw [List.length_map] at hv8
  subst hv8
  have HSO := Lib.hid hso
  have HB8 := Lib.hid hb08
  clear hK K hb58 hb08 hb8 hr8 hso HIM HB7 x0 x1 x2 x3 x4
  try simp only [Act.put, List.setIfInBounds_toArray, List.set_cons_zero, List.set_cons_succ]
  refine wpAnyH_take (i := 6) (oi := { dst := some 45, op := .move (.tmp 51), type := 29, pos := "laws7relatives.go:104", after := #[{ on := 5, ground := .data }], guard := none }) (v := ?_) rfl (by kernel_rfl) (by kernel_rfl) (by kernel_rfl) (fun _ _ _ h => h) (Or.inl ⟨by rfl, ?_⟩) (by assumption) ?_
  rotate_left 1
  · (intro wx hSw; (try dsimp only at hSw); go_simp; try with_reducible rfl)
  try simp only [Act.put, List.setIfInBounds_toArray, List.set_cons_zero, List.set_cons_succ]
  refine wpAnyH_take (i := 7) (oi := { dst := some 52, op := .extract (.tmp 45) 0, type := 23, pos := "laws7relatives.go:104", after := #[{ on := 6, ground := .data }], guard := none }) (v := ?_) rfl (by kernel_rfl) (by kernel_rfl) (by kernel_rfl) (fun _ _ _ h => h) (Or.inl ⟨by rfl, ?_⟩) (by assumption) ?_
  rotate_left 1
  · (intro wx hSw; (try dsimp only at hSw); go_simp; try with_reducible rfl)
  try simp only [Act.put, List.setIfInBounds_toArray, List.set_cons_zero, List.set_cons_succ]
  refine wpAnyH_take (i := 8) (oi := { dst := some 53, op := .extract (.tmp 45) 1, type := 4, pos := "laws7relatives.go:104", after := #[{ on := 6, ground := .data }, { on := 9, ground := .gcOnly Go.Departure.lateStores }], guard := none }) (v := ?_) rfl (by kernel_rfl) (by kernel_rfl) (by kernel_rfl) (fun _ _ _ h => h) (Or.inl ⟨by rfl, ?_⟩) (by assumption) ?_
  rotate_left 1
  · (intro wx hSw; (try dsimp only at hSw); go_simp; try with_reducible rfl)
  try simp only [Act.put, List.setIfInBounds_toArray, List.set_cons_zero, List.set_cons_succ]
  refine wpAnyH_take (i := 9) (oi := { dst := some 10, op := .assign (.tmp 52), type := 23, pos := "laws7relatives.go:104", after := #[{ on := 7, ground := .data }, { on := 5, ground := .chain }, { on := 0, ground := .phase }, { on := 1, ground := .phase }, { on := 2, ground := .phase }, { on := 3, ground := .phase }, { on := 4, ground := .phase }, { on := 5, ground := .phase }, { on := 6, ground := .phase }, { on := 7, ground := .phase }, { on := 8, ground := .textOnly Go.Departure.lateStores }], guard := none }) (v := ?_) rfl (by kernel_rfl) (by kernel_rfl) (by kernel_rfl) (fun _ _ _ h => h) (Or.inl ⟨by rfl, ?_⟩) (by assumption) ?_
  rotate_left 1
  · (intro wx hSw; (try dsimp only at hSw); go_simp; try with_reducible rfl)
  try simp only [Act.put, List.setIfInBounds_toArray, List.set_cons_zero, List.set_cons_succ]
  refine wpAnyH_take (i := 10) (oi := { dst := some 11, op := .assign (.tmp 53), type := 4, pos := "laws7relatives.go:104", after := #[{ on := 8, ground := .data }, { on := 9, ground := .chain }, { on := 0, ground := .phase }, { on := 1, ground := .phase }, { on := 2, ground := .phase }, { on := 3, ground := .phase }, { on := 4, ground := .phase }, { on := 5, ground := .phase }, { on := 6, ground := .phase }, { on := 7, ground := .phase }, { on := 8, ground := .phase }, { on := 9, ground := .phase }], guard := none }) (v := ?_) rfl (by kernel_rfl) (by kernel_rfl) (by kernel_rfl) (fun _ _ _ h => h) (Or.inl ⟨by rfl, ?_⟩) (by assumption) ?_
  rotate_left 1
  · (intro wx hSw; (try dsimp only at hSw); go_simp; try with_reducible rfl)
  try simp only [Act.put, List.setIfInBounds_toArray, List.set_cons_zero, List.set_cons_succ]
  refine wpAnyH_done (by kernel_rfl) ?_ _
  clear hHeld
  go_wp2_with fail
  refine HSO.out.mono ?_
  rintro e w9 ⟨rfl, hb9⟩
  have HB9 := Lib.hid (HB8.out.trans (hb9.mono HB8.out.size))
  clear hb9 HSO HB8
  go_wp2
  go_ret
  exact ⟨rfl, HB9.out⟩

end lawFnAddBack
end Go.Proofs.YtphppdbhofeagaaGreat
