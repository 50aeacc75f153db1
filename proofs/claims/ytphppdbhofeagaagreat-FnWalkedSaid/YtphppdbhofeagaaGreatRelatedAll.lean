/- spec.Related at any step to relatives. (Printed by gen_relg.py.) spec.Related at AddNodes. -/
import Derived.Test.YtphppdbhofeagaaGreatRelSib
import Derived.Test.YtphppdbhofeagaaGreatOnce
import Derived.Deep.RegionHeld3
namespace Go.Proofs.YtphppdbhofeagaaGreat
open Go.RowKit
set_option linter.unusedVariables false
set_option linter.unusedSimpArgs false

def RelatedRowG (l : List Nat) (w : World) (e : Ending) (w' : World) : Prop := ∃ v, e = .returned (.tuple #[v, .bool true]) ∧ Hid (OwnPl w' w.heap.size v l) ∧ Hid (Below w.heap.size w w')

set_option maxRecDepth 100000 in
set_option maxHeartbeats 4000000 in
theorem related_g (op : Int) (hop : op = 20 ∨ op = 22 ∨ op = 23 ∨ op = 25 ∨ op = 26 ∨ op = 28 ∨ op = 29 ∨ op = 31) (F : Nat → List Nat) (a : Option Addr) (len cap : Nat) (ts : List NodeD) (v : Value) (l : List Nat) (w : World) (hR : RightT ts len) (hN : Nodes w a len ts) (hv : ReadsAs w v (l.map intV)) (hin : ∀ i ∈ l, i < len) (hn : l.length ≤ 200) (hgl : ∀ x ∈ l, (F x).length ≤ 400)
    (hrel : ∀ (x : Nat) (w' : World), Nodes w' a len ts → x < len → Calls Tryz.prog 22 #[.slice a len cap, .int .i64 (x : Int), .agg #[.int .i64 op, .string ⟨#[]⟩, .slice none 0 0, .int .i64 0, .int .i64 0]] w' (RelRow (F x) w')) :
    Calls Tryz.prog 8 #[.slice a len cap, v, .agg #[.int .i64 op, .string ⟨#[]⟩, .slice none 0 0, .int .i64 0, .int .i64 0]] w (RelatedRowG (onceF (l.flatMap F)) w) := by
  have hpos := hR.pos
  obtain ⟨va, vcap, b, off, rfl, hm, ha, hc⟩ := ints_open hv
  have o32 : (op == 32) = false := by rcases hop with rfl | rfl | rfl | rfl | rfl | rfl | rfl | rfl <;> rfl
  have o33 : (op == 33) = false := by rcases hop with rfl | rfl | rfl | rfl | rfl | rfl | rfl | rfl <;> rfl
  have o34 : (op == 34) = false := by rcases hop with rfl | rfl | rfl | rfl | rfl | rfl | rfl | rfl <;> rfl
  have o35 : (op == 35) = false := by rcases hop with rfl | rfl | rfl | rfl | rfl | rfl | rfl | rfl <;> rfl
  have o36 : (op == 36) = false := by rcases hop with rfl | rfl | rfl | rfl | rfl | rfl | rfl | rfl <;> rfl
  have o37 : (op == 37) = false := by rcases hop with rfl | rfl | rfl | rfl | rfl | rfl | rfl | rfl <;> rfl
  have o38 : (op == 38) = false := by rcases hop with rfl | rfl | rfl | rfl | rfl | rfl | rfl | rfl <;> rfl
  have o39 : (op == 39) = false := by rcases hop with rfl | rfl | rfl | rfl | rfl | rfl | rfl | rfl <;> rfl
  have hb0 : Below w.heap.size w (w.alloc (.cells #[.int .i64 op, .string ⟨#[]⟩, .slice none 0 0, .int .i64 0, .int .i64 0] 27)) := (Below.refl _ _).alloc (Nat.le_refl _) _
  have hp : ∀ i u, (#[.int .i64 op, .string ⟨#[]⟩, .slice none 0 0, .int .i64 0, .int .i64 0] : Array Value)[i]? = some u → (w.alloc (.cells #[.int .i64 op, .string ⟨#[]⟩, .slice none 0 0, .int .i64 0, .int .i64 0] 27)).cell? ⟨w.heap.size, i, none⟩ = some u := fun i u h => cell_alloc_new' _ _ _ rfl h
  obtain ⟨w0, hw0⟩ : ∃ w0, w.alloc (.cells #[.int .i64 op, .string ⟨#[]⟩, .slice none 0 0, .int .i64 0, .int .i64 0] 27) = w0 := ⟨_, rfl⟩
  rw [hw0] at hb0 hp
  have q0 : w0.cell? ⟨w.heap.size, 0, none⟩ = some (.int .i64 op) := hp 0 _ rfl
  have q1 : w0.cell? ⟨w.heap.size, 1, none⟩ = some (.string ⟨#[]⟩) := hp 1 _ rfl
  have q2 : w0.cell? ⟨w.heap.size, 2, none⟩ = some (.slice none 0 0) := hp 2 _ rfl
  have q3 : w0.cell? ⟨w.heap.size, 3, none⟩ = some (.int .i64 0) := hp 3 _ rfl
  have q4 : w0.cell? ⟨w.heap.size, 4, none⟩ = some (.int .i64 0) := hp 4 _ rfl
  have hml : w.heap.size < w0.heap.size := World.block_lt_of_cell? _ _ q0
  have HN0 := Lib.hid (hN.below hb0)
  have HA := Lib.hid ha
  have HC : Hid (∀ i, i < l.length → w0.cell? ⟨b, off + i, none⟩ = some (.int .i64 ((l.getD i 0 : Nat) : Int))) := Lib.hid (fun i hi => cell_below hb0 (hc i hi))
  have HREL := Lib.hid hrel
  have HIN := Lib.hid (And.intro hin hgl)
  have HB := Lib.hid hb0
  obtain ⟨i0, hi, hz0, hz1, hz2⟩ := info_parts Tryz.infoInt
  clear hv ha hc hrel hin hN hR hb0 hp hgl hop
  go_enter Tryz.func8, Tryz.ntmps8
  go_wp2
  clear hw0
  go_loopw [10, 11] (fun x i wr => ∃ (k : Nat) (done : List Nat), i = .int .i64 k ∧ k ≤ l.length ∧ done.length ≤ 400 * k ∧ (l.take k).flatMap F = done ∧ OwnPl wr w0.heap.size x done ∧ Below w0.heap.size w0 wr)
    (fun _ i _ => l.length - (intOf i).toNat)
  case atStart => exact ⟨0, [], by go_num, by omega, by simp, rfl, World.ownsRow_nil _ _ _ _, Below.refl _ _⟩
  case round =>
    obtain ⟨k, done, rfl, hk, hdl, hdone, hown, hbel⟩ := hrel
    have r0 := cell_below hbel q0
    have r1 := cell_below hbel q1
    have r2 := cell_below hbel q2
    have r3 := cell_below hbel q3
    have r4 := cell_below hbel q4
    have hmr : w.heap.size < wr.heap.size := Nat.lt_of_lt_of_le hml hbel.size
    by_cases hlt : k < l.length
    · obtain rfl := HA.out (by omega)
      have hmem := getD_mem' (d := 0) hlt
      have hxl := HIN.out.1 _ hmem
      have hgx := HIN.out.2 _ hmem
      have ck := cell_below hbel (HC.out k hlt)
      have htk : (l.take (k + 1)).flatMap F = (l.take k).flatMap F ++ F (l.getD k 0) := by rw [take_snoc hlt, List.flatMap_append]; simp
      obtain ⟨x, hxx⟩ : ∃ x, l.getD k 0 = x := ⟨_, rfl⟩
      rw [hxx] at ck hxl htk hgx
      rw [hdone] at htk
      have hkI : (k : Int) < (l.length : Int) := by omega
      have hRL := fun w' (h : Nodes w' a len ts) => HREL.out x w' h hxl
      obtain ⟨G, hG⟩ : ∃ G, F x = G := ⟨_, rfl⟩
      simp only [hG] at hRL htk hgx
      obtain ⟨oa, oc, hu10, hnc⟩ := hown.reads.nil
      rw [List.length_map] at hu10 hnc
      subst hu10
      have hbd : Below w0.heap.size w0 wr.drew := Below.drew hbel
      have hownd : OwnPl wr.drew w0.heap.size (.slice oa done.length oc) done := ownsRow_kept hown (fun q _ => rfl)
      have HBD := Lib.hid (And.intro hbd hownd)
      have HRL := Lib.hid hRL
      have HT := Lib.hid htk
      clear hRL htk hxx hown hbel hbd hownd hdone hG hmem
      go_wp2_with fail
      go_region_with (go_at_call 22; refine Calls.mono (HRL.out _ (HN0.out.below HBD.out.1)) ?_; rintro e w2 ⟨vg, rfl, hrg, hb2⟩)
      all_goals
        have hb3 := HBD.out.1.trans (hb2.out.mono HBD.out.1.size)
        have hown2 : w2.ownsRow w0.heap.size 3 1 (.slice oa done.length oc) done.length (done.map intV) := ownsRow_kept HBD.out.2 (fun q hq => hb2.out.block q (World.ownsRow.lt HBD.out.2 q hq).2)
        obtain ⟨ga, gc, hvg, _⟩ := hrg.out.nil
        rw [List.length_map] at hvg
        subst hvg
        have hrow : Row w2 ga G.length (G.map intV) := by have h := reads_row hrg.out; exact h
        have H3 := Lib.hid (And.intro hown2 (And.intro hrow hb3))
        have hsz2 : w0.heap.size ≤ w2.heap.size := hb3.size
        clear hb2 hb3 hown2 hrow hrg r0 r1 r2 r3 r4 ck
        go_wp2_with (at_builtin; refine wpList_append_reads rfl _ _ 23 rfl w0.heap.size 3 i0 (.int .i64 0) 8 Tryz.underlying23 hi hz0 hz1 hz2 rfl _ _ _ (done.map intV) rfl H3.out.1 ga G.length gc (G.map intV) rfl H3.out.2.1 intV_one (by unfold maxLen; omega) (by omega) (by omega) ?_)
        intro b4 c4 w4 hown4 hgrow4
        have hb4 : Below w0.heap.size w0 w4 := H3.out.2.2.grown hgrow4 H3.out.2.2.size (fun q hq => (World.ownsRow.lt H3.out.1 q hq).1)
        have hsn : OwnPl w4 w0.heap.size (.slice b4 (done.length + G.length) c4) (done ++ G) := by
          unfold OwnPl
          simpa using hown4
        have H4 := Lib.hid (And.intro hsn hb4)
        clear hown4 hgrow4 hb4 hsn H3
        go_wp2
        go_roundw
        case rel => exact ⟨k + 1, done ++ G, by go_num, by omega, by rw [List.length_append]; omega, HT.out, H4.out.1, H4.out.2⟩
        case measure => simp [intOf]; omega
    · obtain rfl : k = l.length := by omega
      have hd := hdone
      rw [List.take_length] at hd
      have hRL := HREL.out 0 wr (HN0.out.below hbel) hpos
      have HRL := Lib.hid hRL
      have HO := Lib.hid (And.intro hown (And.intro hbel hd))
      clear hRL hown hbel hd hdone hlt
      go_wp2_with fail
      refine HRL.out.mono ?_
      rintro e w2 ⟨v0, rfl, _, hb2⟩
      have hon := once2_any u10 done w2 ((HO.out.1.reads).below hb2.out) (by omega)
      have HON := Lib.hid hon
      have HB2 := Lib.hid (HB.out.trans ((HO.out.2.1.trans (hb2.out.mono HO.out.2.1.size)).mono HB.out.size))
      clear hon hb2 HRL r0 r1 r2 r3 r4
      go_wp2_with fail
      refine HON.out.mono ?_
      rintro e w3 ⟨v3, rfl, ho3, hb3⟩
      have hfin := Lib.hid (HB2.out.trans (hb3.out.mono HB2.out.size))
      have hown3 : Hid (OwnPl w3 w.heap.size v3 (onceF (l.flatMap F))) := Lib.hid (by rw [HO.out.2.2]; exact ownsRow_base ho3.out HB2.out.size)
      clear ho3 hb3 HON
      go_wp2
      go_ret2
      exact ⟨v3, rfl, hown3, hfin⟩

end Go.Proofs.YtphppdbhofeagaaGreat

namespace Go.Proofs.YtphppdbhofeagaaGreat
open Go.RowKit
set_option linter.unusedVariables false
set_option linter.unusedSimpArgs false

def AddRow (l : List Nat) (w : World) (e : Ending) (w' : World) : Prop := ∃ v, e = .returned (.tuple #[v, .bool true]) ∧ Hid (OwnPl w' w.heap.size v l) ∧ Hid (Below w.heap.size w w')

set_option maxRecDepth 100000 in
set_option maxHeartbeats 4000000 in
theorem related_37 (ta : Option Addr) (len cap : Nat) (v v2 : Value) (l l2 : List Nat) (w : World) (hv : ReadsAs w v (l.map intV)) (hv2 : ReadsAs w v2 (l2.map intV)) (hn : l.length ≤ 400) (hn2 : l2.length ≤ 400) :
    Calls Tryz.prog 8 #[.slice ta len cap, v, .agg #[.int .i64 37, .string ⟨#[]⟩, v2, .int .i64 0, .int .i64 0]] w (AddRow (onceF (l ++ l2)) w) := by
  obtain ⟨a1, c1, rfl, _⟩ := hv.nil
  obtain ⟨a2, c2, rfl, _⟩ := hv2.nil
  rw [List.length_map] at hv hv2 ⊢
  have hb0 : Below w.heap.size w (w.alloc (.cells #[.int .i64 37, .string ⟨#[]⟩, .slice a2 l2.length c2, .int .i64 0, .int .i64 0] 27)) := (Below.refl _ _).alloc (Nat.le_refl _) _
  have hp : ∀ i u, (#[.int .i64 37, .string ⟨#[]⟩, .slice a2 l2.length c2, .int .i64 0, .int .i64 0] : Array Value)[i]? = some u → (w.alloc (.cells #[.int .i64 37, .string ⟨#[]⟩, .slice a2 l2.length c2, .int .i64 0, .int .i64 0] 27)).cell? ⟨w.heap.size, i, none⟩ = some u := fun i u h => cell_alloc_new' _ _ _ rfl h
  obtain ⟨w0, hw0⟩ : ∃ w0, w.alloc (.cells #[.int .i64 37, .string ⟨#[]⟩, .slice a2 l2.length c2, .int .i64 0, .int .i64 0] 27) = w0 := ⟨_, rfl⟩
  rw [hw0] at hb0 hp
  have q0 : w0.cell? ⟨w.heap.size, 0, none⟩ = some (.int .i64 37) := hp 0 _ rfl
  have q2 : w0.cell? ⟨w.heap.size, 2, none⟩ = some (.slice a2 l2.length c2) := hp 2 _ rfl
  have hml : w.heap.size < w0.heap.size := World.block_lt_of_cell? _ _ q0
  have HB := Lib.hid hb0
  have hrv : Row w0 a1 l.length (l.map intV) := by have h := (reads_row hv).below hb0; exact h
  have hr2 : Row w0 a2 l2.length (l2.map intV) := by have h := (reads_row hv2).below hb0; exact h
  have HR := Lib.hid (And.intro hrv hr2)
  obtain ⟨i0, hi, hz0, hz1, hz2⟩ := info_parts Tryz.infoInt
  rw [List.length_map]
  clear hv hv2 hb0 hp hrv hr2
  go_enter Tryz.func8, Tryz.ntmps8
  go_wp2_with fail
  refine wp_region_any (by kernel_rfl) ?_
  try (change wpAny _ _ _ _ _ _ _ (World.drew _))
  obtain ⟨wd, hwd⟩ : ∃ wd, w0.drew = wd := ⟨_, rfl⟩
  have hbd : Below w0.heap.size w0 wd := by rw [← hwd]; exact (Below.refl _ _).drew
  rw [hwd]
  have hHeld : wd.cell? ⟨w.heap.size, 2, none⟩ = some (.slice a2 l2.length c2) := cell_below hbd q2
  have hsd : w0.heap.size ≤ wd.heap.size := hbd.size
  have HD := Lib.hid (And.intro hwd hbd)
  clear hwd hbd hw0
  refine wpAny_of_held (S := fun w' => w'.cell? ⟨w.heap.size, 2, none⟩ = some (.slice a2 l2.length c2)) _ _ _ _ ?_
  refine wpAnyH_take (i := 1) (oi := { dst := some 33, op := .move (.tmp 1), type := 23, pos := "relatives.go:85", after := #[], guard := none }) (v := ?_) rfl (by kernel_rfl) (by kernel_rfl) (by kernel_rfl) (fun _ _ _ h => h) (Or.inl ⟨by rfl, ?_⟩) (by assumption) ?_
  rotate_left 1
  · (intro wx hSw; (try dsimp only at hSw); go_simp; try with_reducible rfl)
  try simp only [Act.put, List.setIfInBounds_toArray, List.set_cons_zero, List.set_cons_succ]
  refine wpAnyH_take (i := 3) (oi := { dst := some 35, op := .fieldAddr 27 (.tmp 5) 2, type := 0, pos := "relatives.go:85", after := #[], guard := none }) (v := ?_) rfl (by kernel_rfl) (by kernel_rfl) (by kernel_rfl) (fun _ _ _ h => h) (Or.inl ⟨by rfl, ?_⟩) (by assumption) ?_
  rotate_left 1
  · (intro wx hSw; (try dsimp only at hSw); go_simp; try with_reducible rfl)
  try simp only [Act.put, List.setIfInBounds_toArray, List.set_cons_zero, List.set_cons_succ]
  refine wpAnyH_take (i := 4) (oi := { dst := some 36, op := .load 23 (.tmp 35), type := 23, pos := "relatives.go:85", after := #[{ on := 3, ground := .data }], guard := none }) (v := ?_) rfl (by kernel_rfl) (by kernel_rfl) (by kernel_rfl) (fun _ _ _ h => h) (Or.inl ⟨by rfl, ?_⟩) (by assumption) ?_
  rotate_left 1
  · (intro wx hSw; (try dsimp only at hSw); go_simp; try with_reducible rfl)
  try simp only [Act.put, List.setIfInBounds_toArray, List.set_cons_zero, List.set_cons_succ]
  refine wpAnyH_ready (rs := [0]) (by kernel_rfl) (by simp) ?_
  refine AllReadyH.cons (o := { dst := some 32, op := .buildSlice 23 0 #[], type := 23, pos := "relatives.go:85", after := #[], guard := none }) rfl (fun K hK => ?_) AllReadyH.nil
  go_simp
  have hba : Below w0.heap.size w0 (wd.alloc (.cells #[] 3)) := HD.out.2.alloc hsd _
  have hHeld2 := cell_below hba q2
  refine hK.out _ _ hHeld2 (fun hHeld => ?_)
  clear hK K
  have hoE : (wd.alloc (.cells #[] 3)).ownsRow w0.heap.size 3 1 (.slice (some ⟨wd.heap.size, 0, none⟩) 0 0) 0 [] := owns_empty wd w0.heap.size hsd 3
  have H1 := Lib.hid (And.intro hoE hba)
  obtain ⟨wa, hwa⟩ : ∃ wa, wd.alloc (.cells #[] 3) = wa := ⟨_, rfl⟩
  rw [hwa] at H1 hHeld ⊢
  clear hoE hba hwa hHeld2
  refine wpAnyH_ready (rs := [2]) (by kernel_rfl) (by simp) ?_
  refine AllReadyH.cons (o := { dst := some 34, op := .call { callee := .builtin .append, args := #[.tmp 32, .tmp 33], argTypes := #[23, 23] }, type := 23, pos := "relatives.go:85", after := #[{ on := 0, ground := .data }, { on := 1, ground := .data }], guard := none }) rfl (fun K hK => ?_) AllReadyH.nil
  refine step_append_reads (by rfl) _ _ _ (by rfl) w0.heap.size 3 i0 (.int .i64 0) 8 Tryz.underlying23 hi hz0 hz1 hz2 rfl _ _ _ [] (by rfl) H1.out.1 a1 l.length c1 (l.map intV) (by rfl) (HR.out.1.below H1.out.2) intV_one (by unfold maxLen; omega) (by omega) (by have := H1.out.2.size; omega) ?_
  intro b2 k2 w2 hown2 hgrow2
  rw [Nat.zero_add, List.nil_append] at hown2
  rw [Nat.zero_add]
  have hb2 : Below w0.heap.size w0 w2 := H1.out.2.grown hgrow2 H1.out.2.size (fun q hq => (World.ownsRow.lt H1.out.1 q hq).1)
  have hHeld2 := cell_below hb2 q2
  refine hK.out _ _ hHeld2 (fun hHeld => ?_)
  have H2 := Lib.hid (And.intro hown2 hb2)
  clear hK K hown2 hgrow2 hb2 H1 hHeld2
  try simp only [Act.put, List.setIfInBounds_toArray, List.set_cons_zero, List.set_cons_succ]
  refine wpAnyH_ready (rs := [5]) (by kernel_rfl) (by simp) ?_
  refine AllReadyH.cons (o := { dst := some 37, op := .call { callee := .builtin .append, args := #[.tmp 34, .tmp 36], argTypes := #[23, 23] }, type := 23, pos := "relatives.go:85", after := #[{ on := 2, ground := .data }, { on := 4, ground := .data }, { on := 2, ground := .chain }], guard := none }) rfl (fun K hK => ?_) AllReadyH.nil
  refine step_append_reads (by rfl) _ _ _ (by rfl) w0.heap.size 3 i0 (.int .i64 0) 8 Tryz.underlying23 hi hz0 hz1 hz2 rfl _ _ _ (l.map intV) (by rfl) H2.out.1 a2 l2.length c2 (l2.map intV) (by rfl) (HR.out.2.below H2.out.2) intV_one (by unfold maxLen; omega) (by omega) (by have := H2.out.2.size; omega) ?_
  intro b3 k3 w3 hown3 hgrow3
  have hb3 : Below w0.heap.size w0 w3 := H2.out.2.grown hgrow3 H2.out.2.size (fun q hq => (World.ownsRow.lt H2.out.1 q hq).1)
  have hHeld2 := cell_below hb3 q2
  refine hK.out _ _ hHeld2 (fun hHeld => ?_)
  have hr3 : ReadsAs w3 (.slice b3 (l.length + l2.length) k3) ((l ++ l2).map intV) := by
    have h := owns_reads (l := (l ++ l2).map intV) (v := .slice b3 (l.length + l2.length) k3) (by simpa using hown3)
    exact h
  have hon := once2_any _ (l ++ l2) w3 hr3 (by rw [List.length_append]; omega)
  have HON := Lib.hid hon
  have H3 := Lib.hid hb3
  have hs3 := hb3.size
  clear hK K hown3 hgrow3 hb3 hr3 hon H2 hHeld2
  try simp only [Act.put, List.setIfInBounds_toArray, List.set_cons_zero, List.set_cons_succ]
  refine wpAnyH_ready (rs := [6]) (by kernel_rfl) (by simp) ?_
  refine AllReadyH.cons (o := { dst := some 38, op := .call { callee := .value (.func 20), args := #[.tmp 37], argTypes := #[23] }, type := 23, pos := "relatives.go:85", after := #[{ on := 5, ground := .data }, { on := 5, ground := .chain }], guard := none }) rfl (fun K hK => ?_) AllReadyH.nil
  go_simp
  go_wp2_with (go_at_call 20; refine HON.out.mono ?_; rintro e w4 ⟨v4, rfl, ho4, hb4⟩)
  have hb04 := H3.out.trans (hb4.out.mono hs3)
  have hHeld2 := cell_below hb04 q2
  refine hK.out _ _ hHeld2 (fun hHeld => ?_)
  have H4 := Lib.hid (And.intro (ownsRow_base ho4.out (Nat.le_trans HB.out.size hs3)) (HB.out.trans (hb04.mono HB.out.size)))
  clear hK K ho4 hb4 hb04 HON hHeld2
  try simp only [Act.put, List.setIfInBounds_toArray, List.set_cons_zero, List.set_cons_succ]
  refine wpAnyH_take (i := 7) (oi := { dst := some 6, op := .assign (.tmp 38), type := 23, pos := "relatives.go:85", after := #[{ on := 6, ground := .data }, { on := 6, ground := .chain }, { on := 0, ground := .phase }, { on := 1, ground := .phase }, { on := 2, ground := .phase }, { on := 3, ground := .phase }, { on := 4, ground := .phase }, { on := 5, ground := .phase }, { on := 6, ground := .phase }], guard := none }) (v := ?_) rfl (by kernel_rfl) (by kernel_rfl) (by kernel_rfl) (fun _ _ _ h => h) (Or.inl ⟨by rfl, ?_⟩) (by assumption) ?_
  rotate_left 1
  · (intro wx hSw; (try dsimp only at hSw); go_simp; try with_reducible rfl)
  try simp only [Act.put, List.setIfInBounds_toArray, List.set_cons_zero, List.set_cons_succ]
  refine wpAnyH_take (i := 8) (oi := { dst := some 7, op := .assign (.const (.bool true)), type := 4, pos := "relatives.go:85", after := #[{ on := 7, ground := .chain }, { on := 0, ground := .phase }, { on := 1, ground := .phase }, { on := 2, ground := .phase }, { on := 3, ground := .phase }, { on := 4, ground := .phase }, { on := 5, ground := .phase }, { on := 6, ground := .phase }, { on := 7, ground := .phase }], guard := none }) (v := ?_) rfl (by kernel_rfl) (by kernel_rfl) (by kernel_rfl) (fun _ _ _ h => h) (Or.inl ⟨by rfl, ?_⟩) (by assumption) ?_
  rotate_left 1
  · (intro wx hSw; (try dsimp only at hSw); go_simp; try with_reducible rfl)
  try simp only [Act.put, List.setIfInBounds_toArray, List.set_cons_zero, List.set_cons_succ]
  refine wpAnyH_done (by kernel_rfl) ?_ _
  go_wp2
  go_ret2
  exact ⟨v4, rfl, Lib.hid H4.out.1, Lib.hid H4.out.2⟩

end Go.Proofs.YtphppdbhofeagaaGreat

