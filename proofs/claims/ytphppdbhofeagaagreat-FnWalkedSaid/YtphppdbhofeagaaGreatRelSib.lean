/- spec.RelativesOf at brothers. (Printed by gen_rel.py.) -/
import Derived.Test.YtphppdbhofeagaaGreatBesideOf
import Derived.Deep.RegionWith
import Derived.Test.YtphppdbhofeagaaGreatAppendNone
namespace Go.Proofs.YtphppdbhofeagaaGreat
open Go.RowKit
set_option linter.unusedVariables false
set_option linter.unusedSimpArgs false

/-- What RelativesOf answers. -/
def RelRow (l : List Nat) (w : World) (e : Ending) (w' : World) : Prop := ∃ v, e = .returned (.tuple #[v, .bool true]) ∧ Hid (ReadsAs w' v (l.map intV)) ∧ Hid (Below w.heap.size w w')

set_option maxRecDepth 100000 in
set_option maxHeartbeats 4000000 in
theorem relOf_26 (a : Option Addr) (len cap : Nat) (ts : List NodeD) (x : Nat) (w : World) (hR : RightT ts len) (hN : Nodes w a len ts) (hx : x < len) :
    Calls Tryz.prog 22 #[.slice a len cap, .int .i64 (x : Int), .agg #[.int .i64 26, .string ⟨#[]⟩, .slice none 0 0, .int .i64 0, .int .i64 0]] w (RelRow (nextL ts len x) w) := by
  have hb0 : Below w.heap.size w (w.alloc (.cells #[.int .i64 26, .string ⟨#[]⟩, .slice none 0 0, .int .i64 0, .int .i64 0] 27)) := (Below.refl _ _).alloc (Nat.le_refl _) _
  have k0 : (w.alloc (.cells #[.int .i64 26, .string ⟨#[]⟩, .slice none 0 0, .int .i64 0, .int .i64 0] 27)).cell? ⟨w.heap.size, 0, none⟩ = some (.int .i64 26) := cell_alloc_new' _ _ _ rfl rfl
  have k2 : (w.alloc (.cells #[.int .i64 26, .string ⟨#[]⟩, .slice none 0 0, .int .i64 0, .int .i64 0] 27)).cell? ⟨w.heap.size, 2, none⟩ = some (.slice none 0 0) := cell_alloc_new' _ _ _ rfl rfl
  obtain ⟨w0, hw0⟩ : ∃ w0, w.alloc (.cells #[.int .i64 26, .string ⟨#[]⟩, .slice none 0 0, .int .i64 0, .int .i64 0] 27) = w0 := ⟨_, rfl⟩
  rw [hw0] at hb0 k0 k2
  have hml : w.heap.size < w0.heap.size := World.block_lt_of_cell? _ _ k0
  have hN0 := hN.below hb0
  have HB := Lib.hid hb0
  have hbe := beside_true a len cap ts x w0 hN0 hR hx
  obtain ⟨L, hL⟩ : ∃ L, nextL ts len x = L := ⟨_, rfl⟩
  rw [hL] at hbe ⊢
  have HBE := Lib.hid hbe
  clear hbe hN hR hb0 hN0 hL
  go_enter Tryz.func22, Tryz.ntmps22
  go_wp2_with fail
  refine HBE.out.mono ?_
  rintro e w1 ⟨v, rfl, ho, hb⟩
  have H := Lib.hid (HB.out.trans (hb.out.mono HB.out.size))
  have HR := Lib.hid ho.out.reads
  clear ho hb HBE
  go_wp2
  go_ret2
  exact ⟨v, rfl, HR, H⟩

set_option maxRecDepth 100000 in
set_option maxHeartbeats 4000000 in
theorem relOf_30 (a : Option Addr) (len cap : Nat) (ts : List NodeD) (x : Nat) (w : World) (hR : RightT ts len) (hN : Nodes w a len ts) (hx : x < len) (v2 : Value) (l2 : List Nat) (h2 : ReadsAs w v2 (l2.map intV)) :
    Calls Tryz.prog 22 #[.slice a len cap, .int .i64 (x : Int), .agg #[.int .i64 30, .string ⟨#[]⟩, v2, .int .i64 0, .int .i64 0]] w (RelRow (upToL (fun y => decide (y ∈ l2)) (prevL ts x)) w) := by
  have hb0 : Below w.heap.size w (w.alloc (.cells #[.int .i64 30, .string ⟨#[]⟩, v2, .int .i64 0, .int .i64 0] 27)) := (Below.refl _ _).alloc (Nat.le_refl _) _
  have k0 : (w.alloc (.cells #[.int .i64 30, .string ⟨#[]⟩, v2, .int .i64 0, .int .i64 0] 27)).cell? ⟨w.heap.size, 0, none⟩ = some (.int .i64 30) := cell_alloc_new' _ _ _ rfl rfl
  have k2 : (w.alloc (.cells #[.int .i64 30, .string ⟨#[]⟩, v2, .int .i64 0, .int .i64 0] 27)).cell? ⟨w.heap.size, 2, none⟩ = some (v2) := cell_alloc_new' _ _ _ rfl rfl
  obtain ⟨va, vc, rfl, _⟩ := h2.nil
  obtain ⟨w0, hw0⟩ : ∃ w0, w.alloc (.cells #[.int .i64 30, .string ⟨#[]⟩, (.slice va (l2.map intV).length vc), .int .i64 0, .int .i64 0] 27) = w0 := ⟨_, rfl⟩
  rw [hw0] at hb0 k0 k2
  have hml : w.heap.size < w0.heap.size := World.block_lt_of_cell? _ _ k0
  have hN0 := hN.below hb0
  have HB := Lib.hid hb0
  have hbe := fun (w' : World) (h : Below w0.heap.size w0 w') => beside_false a len cap ts x w' (hN0.below h) hR hx
  have h20 := h2.below hb0
  obtain ⟨L, hL⟩ : ∃ L, prevL ts x = L := ⟨_, rfl⟩
  rw [hL]
  simp only [hL] at hbe
  have HBE := Lib.hid hbe
  have H2 := Lib.hid h20
  clear hbe hN hR hb0 hN0 hL h2 h20
  rw [List.length_map] at k2 H2 hw0 ⊢
  go_enter Tryz.func22, Tryz.ntmps22
  go_wp2_with fail
  go_region_with (first
    | (go_at_call 39; refine Calls.mono (HBE.out _ ?_) ?_; (first | exact Below.refl _ _ | exact (Below.refl _ _).drew); rintro e w1 ⟨v, rfl, ho, hb⟩; have hb01 : Below w0.heap.size w0 w1 := (by first | exact hb.out | exact (Below.refl _ _).drew.trans hb.out); have k21 := cell_below hb01 k2; have HV := Lib.hid (And.intro ho.out.reads (And.intro (H2.out.below hb01) hb01)); clear ho hb hb01)
    | (go_at_call 38; refine Calls.mono (upTo_any _ _ L l2 _ HV.out.1 HV.out.2.1) ?_; rintro e w2 ⟨vr, rfl, hr, rfl⟩))
  all_goals
    have H := Lib.hid (HB.out.trans (HV.out.2.2.mono HB.out.size))
    go_wp2
    go_ret2
    exact ⟨vr, rfl, hr, H⟩

set_option maxRecDepth 100000 in
set_option maxHeartbeats 4000000 in
theorem relOf_31 (a : Option Addr) (len cap : Nat) (ts : List NodeD) (x : Nat) (w : World) (hR : RightT ts len) (hN : Nodes w a len ts) (hx : x < len) :
    Calls Tryz.prog 22 #[.slice a len cap, .int .i64 (x : Int), .agg #[.int .i64 31, .string ⟨#[]⟩, .slice none 0 0, .int .i64 0, .int .i64 0]] w (RelRow (prevL ts x ++ nextL ts len x) w) := by
  have hb0 : Below w.heap.size w (w.alloc (.cells #[.int .i64 31, .string ⟨#[]⟩, .slice none 0 0, .int .i64 0, .int .i64 0] 27)) := (Below.refl _ _).alloc (Nat.le_refl _) _
  have k0 : (w.alloc (.cells #[.int .i64 31, .string ⟨#[]⟩, .slice none 0 0, .int .i64 0, .int .i64 0] 27)).cell? ⟨w.heap.size, 0, none⟩ = some (.int .i64 31) := cell_alloc_new' _ _ _ rfl rfl
  have k2 : (w.alloc (.cells #[.int .i64 31, .string ⟨#[]⟩, .slice none 0 0, .int .i64 0, .int .i64 0] 27)).cell? ⟨w.heap.size, 2, none⟩ = some (.slice none 0 0) := cell_alloc_new' _ _ _ rfl rfl
  obtain ⟨w0, hw0⟩ : ∃ w0, w.alloc (.cells #[.int .i64 31, .string ⟨#[]⟩, .slice none 0 0, .int .i64 0, .int .i64 0] 27) = w0 := ⟨_, rfl⟩
  rw [hw0] at hb0 k0 k2
  have hml : w.heap.size < w0.heap.size := World.block_lt_of_cell? _ _ k0
  have hN0 := hN.below hb0
  have HB := Lib.hid hb0
  have hbf := fun (w' : World) (h : Below w0.heap.size w0 w') => beside_false a len cap ts x w' (hN0.below h) hR hx
  have hbt := fun (w' : World) (h : Below w0.heap.size w0 w') => beside_true a len cap ts x w' (hN0.below h) hR hx
  have hlp := (prevL_good ts len x hx).le
  have hln := (nextL_good ts len x hx).le
  have hlen := hR.le
  obtain ⟨LP, hLP⟩ : ∃ L, prevL ts x = L := ⟨_, rfl⟩
  obtain ⟨LN, hLN⟩ : ∃ L, nextL ts len x = L := ⟨_, rfl⟩
  rw [hLP, hLN]
  simp only [hLP] at hbf hlp
  simp only [hLN] at hbt hln
  have HBF := Lib.hid hbf
  have HBT := Lib.hid hbt
  obtain ⟨i0, hi, hz0, hz1, hz2⟩ := info_parts Tryz.infoInt
  clear hbf hbt hN hR hb0 hN0 hLP hLN
  go_enter Tryz.func22, Tryz.ntmps22
  go_wp2_with fail
  refine (HBF.out _ ((Below.refl _ _).alloc (Nat.le_refl _) _)).mono ?_
  rintro e w1 ⟨vp, rfl, hop, hbp⟩
  have hb01 : Below w0.heap.size w0 w1 := ((Below.refl _ _).alloc (Nat.le_refl _) (.cells #[] 3)).trans (hbp.out.mono (by simp))
  have hoE : w1.ownsRow w0.heap.size 3 1 (.slice (some ⟨w0.heap.size, 0, none⟩) 0 0) 0 [] := ownsRow_kept (owns_empty w0 w0.heap.size (Nat.le_refl _) 3) (fun q hq => hbp.out.block q (by simp [Value.ownBlock] at hq; subst hq; simp))
  obtain ⟨ap, cp, hvp, _⟩ := hop.out.reads.nil
  rw [List.length_map] at hvp
  subst hvp
  have hrP : Row w1 ap LP.length (LP.map intV) := by have h := reads_row hop.out.reads; exact h
  have HO1 := Lib.hid (And.intro hoE (And.intro hrP hb01))
  have hs01 := hb01.size
  clear hop hbp hb01 hoE hrP
  go_wp2_with (at_builtin; refine wpList_append_reads rfl _ _ 23 rfl w0.heap.size 3 i0 (.int .i64 0) 8 Tryz.underlying23 hi hz0 hz1 hz2 rfl _ _ _ [] rfl HO1.out.1 ap LP.length cp (LP.map intV) rfl HO1.out.2.1 intV_one (by unfold maxLen; omega) (by omega) (by omega) ?_)
  intro b2 c2 w2 hown2 hgrow2
  have hb02 : Below w0.heap.size w0 w2 := HO1.out.2.2.grown hgrow2 HO1.out.2.2.size (fun q hq => by simp [Value.ownBlock] at hq; omega)
  have HO2 := Lib.hid (And.intro hown2 hb02)
  clear hown2 hgrow2 hb02 HO1
  go_wp2_with fail
  refine (HBT.out w2 HO2.out.2).mono ?_
  rintro e w3 ⟨vn, rfl, hon, hbn⟩
  have hb03 : Below w0.heap.size w0 w3 := HO2.out.2.trans (hbn.out.mono HO2.out.2.size)
  have hown3 := ownsRow_kept HO2.out.1 (fun q hq => hbn.out.block q (World.ownsRow.lt HO2.out.1 q hq).2)
  obtain ⟨an, cn, hvn, _⟩ := hon.out.reads.nil
  rw [List.length_map] at hvn
  subst hvn
  have hrN : Row w3 an LN.length (LN.map intV) := by have h := reads_row hon.out.reads; exact h
  have HO3 := Lib.hid (And.intro hown3 (And.intro hrN hb03))
  have hs03 := hb03.size
  clear hon hbn hb03 hown3 hrN HO2
  go_wp2_with (at_builtin; refine wpList_append_reads rfl _ _ 23 rfl w0.heap.size 3 i0 (.int .i64 0) 8 Tryz.underlying23 hi hz0 hz1 hz2 rfl _ _ _ (LP.map intV) rfl HO3.out.1 an LN.length cn (LN.map intV) rfl HO3.out.2.1 intV_one (by unfold maxLen; omega) (by omega) (by omega) ?_)
  intro b4 c4 w4 hown4 hgrow4
  have hb04 : Below w0.heap.size w0 w4 := HO3.out.2.2.grown hgrow4 HO3.out.2.2.size (fun q hq => (World.ownsRow.lt HO3.out.1 q hq).1)
  have hr4 : ReadsAs w4 (.slice b4 (LP.length + LN.length) c4) ((LP ++ LN).map intV) := by
    have h := owns_reads (l := (LP ++ LN).map intV) (v := .slice b4 (LP.length + LN.length) c4) (by simpa using hown4)
    exact h
  have H4 := Lib.hid (And.intro hr4 (HB.out.trans (hb04.mono HB.out.size)))
  clear hown4 hgrow4 hb04 hr4 HO3
  go_wp2
  go_ret2
  exact ⟨_, rfl, Lib.hid H4.out.1, Lib.hid H4.out.2⟩

end Go.Proofs.YtphppdbhofeagaaGreat
