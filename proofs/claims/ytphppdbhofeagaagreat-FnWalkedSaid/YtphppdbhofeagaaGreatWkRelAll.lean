/- spec.RelativesOf at every step to relatives, any pick. (Printed by gen_wkrel.py.) spec.Related at a step to relatives, any pick. (Printed by gen_wkrel.py.) -/
import Derived.Test.YtphppdbhofeagaaGreatRelAll
import Derived.Test.YtphppdbhofeagaaGreatWkPure
import Derived.Test.YtphppdbhofeagaaGreatRelatedAll
namespace Go.Proofs.YtphppdbhofeagaaGreat
open Go.RowKit
set_option linter.unusedVariables false
set_option linter.unusedSimpArgs false

set_option maxRecDepth 100000 in
set_option maxHeartbeats 4000000 in
theorem relW_26 (tx : ByteArray) (wa : Option Addr) (wc : Nat) (l2 : List Nat) (pa pb : Int) (a : Option Addr) (len cap : Nat) (ts : List NodeD) (x : Nat) (w : World) (hR : RightT ts len) (hN : Nodes w a len ts) (hx : x < len) :
    Calls Tryz.prog 22 #[.slice a len cap, .int .i64 (x : Int), .agg #[.int .i64 26, .string tx, .slice wa l2.length wc, .int .i64 pa, .int .i64 pb]] w (RelRow (nextL ts len x) w) := by
  have hb0 : Below w.heap.size w (w.alloc (.cells #[.int .i64 26, .string tx, .slice wa l2.length wc, .int .i64 pa, .int .i64 pb] 27)) := (Below.refl _ _).alloc (Nat.le_refl _) _
  have k0 : (w.alloc (.cells #[.int .i64 26, .string tx, .slice wa l2.length wc, .int .i64 pa, .int .i64 pb] 27)).cell? ⟨w.heap.size, 0, none⟩ = some (.int .i64 26) := cell_alloc_new' _ _ _ rfl rfl
  have k2 : (w.alloc (.cells #[.int .i64 26, .string tx, .slice wa l2.length wc, .int .i64 pa, .int .i64 pb] 27)).cell? ⟨w.heap.size, 2, none⟩ = some (.slice wa l2.length wc) := cell_alloc_new' _ _ _ rfl rfl
  obtain ⟨w0, hw0⟩ : ∃ w0, w.alloc (.cells #[.int .i64 26, .string tx, .slice wa l2.length wc, .int .i64 pa, .int .i64 pb] 27) = w0 := ⟨_, rfl⟩
  rw [hw0] at hb0 k0 k2
  have hml : w.heap.size < w0.heap.size := World.block_lt_of_cell? _ _ k0
  have hN0 := hN.below hb0
  have HB := Lib.hid hb0
  have hbe := beside_true a len cap ts x w0 hN0 hR hx
  obtain ⟨L, hL⟩ : ∃ L, nextL ts len x = L := ⟨_, rfl⟩
  rw [hL] at hbe ⊢
  have HBE := Lib.hid hbe
  clear hbe hN hR hb0 hN0 hL
  go_enter Tryz.func22, Tryz.ntmps22
  go_wp2_with fail
  refine HBE.out.mono ?_
  rintro e w1 ⟨v, rfl, ho, hb⟩
  have H := Lib.hid (HB.out.trans (hb.out.mono HB.out.size))
  have HR := Lib.hid ho.out.reads
  clear ho hb HBE
  go_wp2
  go_ret2
  exact ⟨v, rfl, HR, H⟩

set_option maxRecDepth 100000 in
set_option maxHeartbeats 4000000 in
theorem relW_30 (tx : ByteArray) (wa : Option Addr) (wc : Nat) (l2 : List Nat) (pa pb : Int) (a : Option Addr) (len cap : Nat) (ts : List NodeD) (x : Nat) (w : World) (hR : RightT ts len) (hN : Nodes w a len ts) (hx : x < len) (h2 : ReadsAs w (.slice wa l2.length wc) (l2.map intV)) :
    Calls Tryz.prog 22 #[.slice a len cap, .int .i64 (x : Int), .agg #[.int .i64 30, .string tx, .slice wa l2.length wc, .int .i64 pa, .int .i64 pb]] w (RelRow (upToL (fun y => decide (y ∈ l2)) (prevL ts x)) w) := by
  have hb0 : Below w.heap.size w (w.alloc (.cells #[.int .i64 30, .string tx, .slice wa l2.length wc, .int .i64 pa, .int .i64 pb] 27)) := (Below.refl _ _).alloc (Nat.le_refl _) _
  have k0 : (w.alloc (.cells #[.int .i64 30, .string tx, .slice wa l2.length wc, .int .i64 pa, .int .i64 pb] 27)).cell? ⟨w.heap.size, 0, none⟩ = some (.int .i64 30) := cell_alloc_new' _ _ _ rfl rfl
  have k2 : (w.alloc (.cells #[.int .i64 30, .string tx, .slice wa l2.length wc, .int .i64 pa, .int .i64 pb] 27)).cell? ⟨w.heap.size, 2, none⟩ = some (.slice wa l2.length wc) := cell_alloc_new' _ _ _ rfl rfl
  obtain ⟨w0, hw0⟩ : ∃ w0, w.alloc (.cells #[.int .i64 30, .string tx, .slice wa l2.length wc, .int .i64 pa, .int .i64 pb] 27) = w0 := ⟨_, rfl⟩
  rw [hw0] at hb0 k0 k2
  have hml : w.heap.size < w0.heap.size := World.block_lt_of_cell? _ _ k0
  have hN0 := hN.below hb0
  have HB := Lib.hid hb0
  have hbe := fun (w' : World) (h : Below w0.heap.size w0 w') => beside_false a len cap ts x w' (hN0.below h) hR hx
  have h20 := h2.below hb0
  obtain ⟨L, hL⟩ : ∃ L, prevL ts x = L := ⟨_, rfl⟩
  rw [hL]
  simp only [hL] at hbe
  have HBE := Lib.hid hbe
  have H2 := Lib.hid h20
  clear hbe hN hR hb0 hN0 hL h2 h20
  go_enter Tryz.func22, Tryz.ntmps22
  go_wp2_with fail
  go_region_with (first
    | (go_at_call 39; refine Calls.mono (HBE.out _ ?_) ?_; (first | exact Below.refl _ _ | exact (Below.refl _ _).drew); rintro e w1 ⟨v, rfl, ho, hb⟩; have hb01 : Below w0.heap.size w0 w1 := (by first | exact hb.out | exact (Below.refl _ _).drew.trans hb.out); have k21 := cell_below hb01 k2; have HV := Lib.hid (And.intro ho.out.reads (And.intro (H2.out.below hb01) hb01)); clear ho hb hb01)
    | (go_at_call 38; refine Calls.mono (upTo_any _ _ L l2 _ HV.out.1 HV.out.2.1) ?_; rintro e w2 ⟨vr, rfl, hr, rfl⟩))
  all_goals
    have H := Lib.hid (HB.out.trans (HV.out.2.2.mono HB.out.size))
    go_wp2
    go_ret2
    exact ⟨vr, rfl, hr, H⟩

set_option maxRecDepth 100000 in
set_option maxHeartbeats 4000000 in
theorem relW_27 (tx : ByteArray) (wa : Option Addr) (wc : Nat) (l2 : List Nat) (pa pb : Int) (a : Option Addr) (len cap : Nat) (ts : List NodeD) (x : Nat) (w : World) (hR : RightT ts len) (hN : Nodes w a len ts) (hx : x < len) (h2 : ReadsAs w (.slice wa l2.length wc) (l2.map intV)) :
    Calls Tryz.prog 22 #[.slice a len cap, .int .i64 (x : Int), .agg #[.int .i64 27, .string tx, .slice wa l2.length wc, .int .i64 pa, .int .i64 pb]] w (RelRow (upToL (fun y => decide (y ∈ l2)) (nextL ts len x)) w) := by
  have hb0 : Below w.heap.size w (w.alloc (.cells #[.int .i64 27, .string tx, .slice wa l2.length wc, .int .i64 pa, .int .i64 pb] 27)) := (Below.refl _ _).alloc (Nat.le_refl _) _
  have k0 : (w.alloc (.cells #[.int .i64 27, .string tx, .slice wa l2.length wc, .int .i64 pa, .int .i64 pb] 27)).cell? ⟨w.heap.size, 0, none⟩ = some (.int .i64 27) := cell_alloc_new' _ _ _ rfl rfl
  have k2 : (w.alloc (.cells #[.int .i64 27, .string tx, .slice wa l2.length wc, .int .i64 pa, .int .i64 pb] 27)).cell? ⟨w.heap.size, 2, none⟩ = some (.slice wa l2.length wc) := cell_alloc_new' _ _ _ rfl rfl
  obtain ⟨w0, hw0⟩ : ∃ w0, w.alloc (.cells #[.int .i64 27, .string tx, .slice wa l2.length wc, .int .i64 pa, .int .i64 pb] 27) = w0 := ⟨_, rfl⟩
  rw [hw0] at hb0 k0 k2
  have hml : w.heap.size < w0.heap.size := World.block_lt_of_cell? _ _ k0
  have hN0 := hN.below hb0
  have HB := Lib.hid hb0
  have hbe := fun (w' : World) (h : Below w0.heap.size w0 w') => beside_true a len cap ts x w' (hN0.below h) hR hx
  have h20 := h2.below hb0
  obtain ⟨L, hL⟩ : ∃ L, nextL ts len x = L := ⟨_, rfl⟩
  rw [hL]
  simp only [hL] at hbe
  have HBE := Lib.hid hbe
  have H2 := Lib.hid h20
  clear hbe hN hR hb0 hN0 hL h2 h20
  go_enter Tryz.func22, Tryz.ntmps22
  go_wp2_with fail
  go_region_with (first
    | (go_at_call 39; refine Calls.mono (HBE.out _ ?_) ?_; (first | exact Below.refl _ _ | exact (Below.refl _ _).drew); rintro e w1 ⟨v, rfl, ho, hb⟩; have hb01 : Below w0.heap.size w0 w1 := (by first | exact hb.out | exact (Below.refl _ _).drew.trans hb.out); have k21 := cell_below hb01 k2; have HV := Lib.hid (And.intro ho.out.reads (And.intro (H2.out.below hb01) hb01)); clear ho hb hb01)
    | (go_at_call 38; refine Calls.mono (upTo_any _ _ L l2 _ HV.out.1 HV.out.2.1) ?_; rintro e w2 ⟨vr, rfl, hr, rfl⟩))
  all_goals
    have H := Lib.hid (HB.out.trans (HV.out.2.2.mono HB.out.size))
    go_wp2
    go_ret2
    exact ⟨vr, rfl, hr, H⟩

set_option maxRecDepth 100000 in
set_option maxHeartbeats 4000000 in
theorem relW_24 (tx : ByteArray) (wa : Option Addr) (wc : Nat) (l2 : List Nat) (pa pb : Int) (a : Option Addr) (len cap : Nat) (ts : List NodeD) (x : Nat) (w : World) (hR : RightT ts len) (hN : Nodes w a len ts) (hx : x < len) (h2 : ReadsAs w (.slice wa l2.length wc) (l2.map intV)) :
    Calls Tryz.prog 22 #[.slice a len cap, .int .i64 (x : Int), .agg #[.int .i64 24, .string tx, .slice wa l2.length wc, .int .i64 pa, .int .i64 pb]] w (RelRow (upToL (fun y => decide (y ∈ l2)) (ancL ts x)) w) := by
  have hb0 : Below w.heap.size w (w.alloc (.cells #[.int .i64 24, .string tx, .slice wa l2.length wc, .int .i64 pa, .int .i64 pb] 27)) := (Below.refl _ _).alloc (Nat.le_refl _) _
  have k0 : (w.alloc (.cells #[.int .i64 24, .string tx, .slice wa l2.length wc, .int .i64 pa, .int .i64 pb] 27)).cell? ⟨w.heap.size, 0, none⟩ = some (.int .i64 24) := cell_alloc_new' _ _ _ rfl rfl
  have k2 : (w.alloc (.cells #[.int .i64 24, .string tx, .slice wa l2.length wc, .int .i64 pa, .int .i64 pb] 27)).cell? ⟨w.heap.size, 2, none⟩ = some (.slice wa l2.length wc) := cell_alloc_new' _ _ _ rfl rfl
  obtain ⟨w0, hw0⟩ : ∃ w0, w.alloc (.cells #[.int .i64 24, .string tx, .slice wa l2.length wc, .int .i64 pa, .int .i64 pb] 27) = w0 := ⟨_, rfl⟩
  rw [hw0] at hb0 k0 k2
  have hml : w.heap.size < w0.heap.size := World.block_lt_of_cell? _ _ k0
  have hN0 := hN.below hb0
  have HB := Lib.hid hb0
  have hbe := fun (w' : World) (h : Below w0.heap.size w0 w') => aboveOf_any a len cap ts x w' (hN0.below h) hR hx
  have h20 := h2.below hb0
  obtain ⟨L, hL⟩ : ∃ L, ancL ts x = L := ⟨_, rfl⟩
  rw [hL]
  simp only [hL] at hbe
  have HBE := Lib.hid hbe
  have H2 := Lib.hid h20
  clear hbe hN hR hb0 hN0 hL h2 h20
  go_enter Tryz.func22, Tryz.ntmps22
  go_wp2_with fail
  go_region_with (first
    | (go_at_call 37; refine Calls.mono (HBE.out _ ?_) ?_; (first | exact Below.refl _ _ | exact (Below.refl _ _).drew); rintro e w1 ⟨v, rfl, ho, hb⟩; have hb01 : Below w0.heap.size w0 w1 := (by first | exact hb.out | exact (Below.refl _ _).drew.trans hb.out); have k21 := cell_below hb01 k2; have HV := Lib.hid (And.intro ho.out.reads (And.intro (H2.out.below hb01) hb01)); clear ho hb hb01)
    | (go_at_call 38; refine Calls.mono (upTo_any _ _ L l2 _ HV.out.1 HV.out.2.1) ?_; rintro e w2 ⟨vr, rfl, hr, rfl⟩))
  all_goals
    have H := Lib.hid (HB.out.trans (HV.out.2.2.mono HB.out.size))
    go_wp2
    go_ret2
    exact ⟨vr, rfl, hr, H⟩

set_option maxRecDepth 100000 in
set_option maxHeartbeats 4000000 in
theorem relW_31 (tx : ByteArray) (wa : Option Addr) (wc : Nat) (l2 : List Nat) (pa pb : Int) (a : Option Addr) (len cap : Nat) (ts : List NodeD) (x : Nat) (w : World) (hR : RightT ts len) (hN : Nodes w a len ts) (hx : x < len) :
    Calls Tryz.prog 22 #[.slice a len cap, .int .i64 (x : Int), .agg #[.int .i64 31, .string tx, .slice wa l2.length wc, .int .i64 pa, .int .i64 pb]] w (RelRow (prevL ts x ++ nextL ts len x) w) := by
  have hb0 : Below w.heap.size w (w.alloc (.cells #[.int .i64 31, .string tx, .slice wa l2.length wc, .int .i64 pa, .int .i64 pb] 27)) := (Below.refl _ _).alloc (Nat.le_refl _) _
  have k0 : (w.alloc (.cells #[.int .i64 31, .string tx, .slice wa l2.length wc, .int .i64 pa, .int .i64 pb] 27)).cell? ⟨w.heap.size, 0, none⟩ = some (.int .i64 31) := cell_alloc_new' _ _ _ rfl rfl
  have k2 : (w.alloc (.cells #[.int .i64 31, .string tx, .slice wa l2.length wc, .int .i64 pa, .int .i64 pb] 27)).cell? ⟨w.heap.size, 2, none⟩ = some (.slice wa l2.length wc) := cell_alloc_new' _ _ _ rfl rfl
  obtain ⟨w0, hw0⟩ : ∃ w0, w.alloc (.cells #[.int .i64 31, .string tx, .slice wa l2.length wc, .int .i64 pa, .int .i64 pb] 27) = w0 := ⟨_, rfl⟩
  rw [hw0] at hb0 k0 k2
  have hml : w.heap.size < w0.heap.size := World.block_lt_of_cell? _ _ k0
  have hN0 := hN.below hb0
  have HB := Lib.hid hb0
  have hbf := fun (w' : World) (h : Below w0.heap.size w0 w') => beside_false a len cap ts x w' (hN0.below h) hR hx
  have hbt := fun (w' : World) (h : Below w0.heap.size w0 w') => beside_true a len cap ts x w' (hN0.below h) hR hx
  have hlp := (prevL_good ts len x hx).le
  have hln := (nextL_good ts len x hx).le
  have hlen := hR.le
  obtain ⟨LP, hLP⟩ : ∃ L, prevL ts x = L := ⟨_, rfl⟩
  obtain ⟨LN, hLN⟩ : ∃ L, nextL ts len x = L := ⟨_, rfl⟩
  rw [hLP, hLN]
  simp only [hLP] at hbf hlp
  simp only [hLN] at hbt hln
  have HBF := Lib.hid hbf
  have HBT := Lib.hid hbt
  obtain ⟨i0, hi, hz0, hz1, hz2⟩ := info_parts Tryz.infoInt
  clear hbf hbt hN hR hb0 hN0 hLP hLN
  go_enter Tryz.func22, Tryz.ntmps22
  go_wp2_with fail
  refine (HBF.out _ ((Below.refl _ _).alloc (Nat.le_refl _) _)).mono ?_
  rintro e w1 ⟨vp, rfl, hop, hbp⟩
  have hb01 : Below w0.heap.size w0 w1 := ((Below.refl _ _).alloc (Nat.le_refl _) (.cells #[] 3)).trans (hbp.out.mono (by simp))
  have hoE : w1.ownsRow w0.heap.size 3 1 (.slice (some ⟨w0.heap.size, 0, none⟩) 0 0) 0 [] := ownsRow_kept (owns_empty w0 w0.heap.size (Nat.le_refl _) 3) (fun q hq => hbp.out.block q (by simp [Value.ownBlock] at hq; subst hq; simp))
  obtain ⟨ap, cp, hvp, _⟩ := hop.out.reads.nil
  rw [List.length_map] at hvp
  subst hvp
  have hrP : Row w1 ap LP.length (LP.map intV) := by have h := reads_row hop.out.reads; exact h
  have HO1 := Lib.hid (And.intro hoE (And.intro hrP hb01))
  have hs01 := hb01.size
  clear hop hbp hb01 hoE hrP
  go_wp2_with (at_builtin; refine wpList_append_reads rfl _ _ 23 rfl w0.heap.size 3 i0 (.int .i64 0) 8 Tryz.underlying23 hi hz0 hz1 hz2 rfl _ _ _ [] rfl HO1.out.1 ap LP.length cp (LP.map intV) rfl HO1.out.2.1 intV_one (by unfold maxLen; omega) (by omega) (by omega) ?_)
  intro b2 c2 w2 hown2 hgrow2
  have hb02 : Below w0.heap.size w0 w2 := HO1.out.2.2.grown hgrow2 HO1.out.2.2.size (fun q hq => by simp [Value.ownBlock] at hq; omega)
  have HO2 := Lib.hid (And.intro hown2 hb02)
  clear hown2 hgrow2 hb02 HO1
  go_wp2_with fail
  refine (HBT.out w2 HO2.out.2).mono ?_
  rintro e w3 ⟨vn, rfl, hon, hbn⟩
  have hb03 : Below w0.heap.size w0 w3 := HO2.out.2.trans (hbn.out.mono HO2.out.2.size)
  have hown3 := ownsRow_kept HO2.out.1 (fun q hq => hbn.out.block q (World.ownsRow.lt HO2.out.1 q hq).2)
  obtain ⟨an, cn, hvn, _⟩ := hon.out.reads.nil
  rw [List.length_map] at hvn
  subst hvn
  have hrN : Row w3 an LN.length (LN.map intV) := by have h := reads_row hon.out.reads; exact h
  have HO3 := Lib.hid (And.intro hown3 (And.intro hrN hb03))
  have hs03 := hb03.size
  clear hon hbn hb03 hown3 hrN HO2
  go_wp2_with (at_builtin; refine wpList_append_reads rfl _ _ 23 rfl w0.heap.size 3 i0 (.int .i64 0) 8 Tryz.underlying23 hi hz0 hz1 hz2 rfl _ _ _ (LP.map intV) rfl HO3.out.1 an LN.length cn (LN.map intV) rfl HO3.out.2.1 intV_one (by unfold maxLen; omega) (by omega) (by omega) ?_)
  intro b4 c4 w4 hown4 hgrow4
  have hb04 : Below w0.heap.size w0 w4 := HO3.out.2.2.grown hgrow4 HO3.out.2.2.size (fun q hq => (World.ownsRow.lt HO3.out.1 q hq).1)
  have hr4 : ReadsAs w4 (.slice b4 (LP.length + LN.length) c4) ((LP ++ LN).map intV) := by
    have h := owns_reads (l := (LP ++ LN).map intV) (v := .slice b4 (LP.length + LN.length) c4) (by simpa using hown4)
    exact h
  have H4 := Lib.hid (And.intro hr4 (HB.out.trans (hb04.mono HB.out.size)))
  clear hown4 hgrow4 hb04 hr4 HO3
  go_wp2
  go_ret2
  exact ⟨_, rfl, Lib.hid H4.out.1, Lib.hid H4.out.2⟩

set_option maxRecDepth 100000 in
set_option maxHeartbeats 4000000 in
theorem relW_20 (tx : ByteArray) (wa : Option Addr) (wc : Nat) (l2 : List Nat) (pa pb : Int) (a : Option Addr) (len cap : Nat) (ts : List NodeD) (x : Nat) (w : World) (hR : RightT ts len) (hN : Nodes w a len ts) (hx : x < len) :
    Calls Tryz.prog 22 #[.slice a len cap, .int .i64 (x : Int), .agg #[.int .i64 20, .string tx, .slice wa l2.length wc, .int .i64 pa, .int .i64 pb]] w (RelRow (kidL ts len x) w) := by
  have hb0 : Below w.heap.size w (w.alloc (.cells #[.int .i64 20, .string tx, .slice wa l2.length wc, .int .i64 pa, .int .i64 pb] 27)) := (Below.refl _ _).alloc (Nat.le_refl _) _
  have k0 : (w.alloc (.cells #[.int .i64 20, .string tx, .slice wa l2.length wc, .int .i64 pa, .int .i64 pb] 27)).cell? ⟨w.heap.size, 0, none⟩ = some (.int .i64 20) := cell_alloc_new' _ _ _ rfl rfl
  have k2 : (w.alloc (.cells #[.int .i64 20, .string tx, .slice wa l2.length wc, .int .i64 pa, .int .i64 pb] 27)).cell? ⟨w.heap.size, 2, none⟩ = some (.slice wa l2.length wc) := cell_alloc_new' _ _ _ rfl rfl
  obtain ⟨w0, hw0⟩ : ∃ w0, w.alloc (.cells #[.int .i64 20, .string tx, .slice wa l2.length wc, .int .i64 pa, .int .i64 pb] 27) = w0 := ⟨_, rfl⟩
  rw [hw0] at hb0 k0 k2
  have hml : w.heap.size < w0.heap.size := World.block_lt_of_cell? _ _ k0
  have hN0 := hN.below hb0
  have HB := Lib.hid hb0
  have hbe := elements_any a len cap ts x w0 hN0 hR hx
  rw [kidL_lb hR hx] at hbe
  obtain ⟨L, hL⟩ : ∃ L, kidL ts len x = L := ⟨_, rfl⟩
  rw [hL] at hbe ⊢
  have HBE := Lib.hid hbe
  clear hbe hN hR hb0 hN0 hL
  go_enter Tryz.func22, Tryz.ntmps22
  go_wp2_with fail
  refine HBE.out.mono ?_
  rintro e w1 ⟨v, rfl, ho, hb⟩
  have H := Lib.hid (HB.out.trans (hb.out.mono HB.out.size))
  have HR := Lib.hid ho.out.reads
  clear ho hb HBE
  go_wp2
  go_ret2
  exact ⟨v, rfl, HR, H⟩

set_option maxRecDepth 100000 in
set_option maxHeartbeats 4000000 in
theorem relW_29 (tx : ByteArray) (wa : Option Addr) (wc : Nat) (l2 : List Nat) (pa pb : Int) (a : Option Addr) (len cap : Nat) (ts : List NodeD) (x : Nat) (w : World) (hR : RightT ts len) (hN : Nodes w a len ts) (hx : x < len) :
    Calls Tryz.prog 22 #[.slice a len cap, .int .i64 (x : Int), .agg #[.int .i64 29, .string tx, .slice wa l2.length wc, .int .i64 pa, .int .i64 pb]] w (RelRow (prevL ts x) w) := by
  have hb0 : Below w.heap.size w (w.alloc (.cells #[.int .i64 29, .string tx, .slice wa l2.length wc, .int .i64 pa, .int .i64 pb] 27)) := (Below.refl _ _).alloc (Nat.le_refl _) _
  have k0 : (w.alloc (.cells #[.int .i64 29, .string tx, .slice wa l2.length wc, .int .i64 pa, .int .i64 pb] 27)).cell? ⟨w.heap.size, 0, none⟩ = some (.int .i64 29) := cell_alloc_new' _ _ _ rfl rfl
  have k2 : (w.alloc (.cells #[.int .i64 29, .string tx, .slice wa l2.length wc, .int .i64 pa, .int .i64 pb] 27)).cell? ⟨w.heap.size, 2, none⟩ = some (.slice wa l2.length wc) := cell_alloc_new' _ _ _ rfl rfl
  obtain ⟨w0, hw0⟩ : ∃ w0, w.alloc (.cells #[.int .i64 29, .string tx, .slice wa l2.length wc, .int .i64 pa, .int .i64 pb] 27) = w0 := ⟨_, rfl⟩
  rw [hw0] at hb0 k0 k2
  have hml : w.heap.size < w0.heap.size := World.block_lt_of_cell? _ _ k0
  have hN0 := hN.below hb0
  have HB := Lib.hid hb0
  have hbe := beside_false a len cap ts x w0 hN0 hR hx
  obtain ⟨L, hL⟩ : ∃ L, prevL ts x = L := ⟨_, rfl⟩
  rw [hL] at hbe ⊢
  have HBE := Lib.hid hbe
  clear hbe hN hR hb0 hN0 hL
  go_enter Tryz.func22, Tryz.ntmps22
  go_wp2_with fail
  refine HBE.out.mono ?_
  rintro e w1 ⟨v, rfl, ho, hb⟩
  have H := Lib.hid (HB.out.trans (hb.out.mono HB.out.size))
  have HR := Lib.hid ho.out.reads
  clear ho hb HBE
  go_wp2
  go_ret2
  exact ⟨v, rfl, HR, H⟩

set_option maxRecDepth 100000 in
set_option maxHeartbeats 4000000 in
theorem relW_23 (tx : ByteArray) (wa : Option Addr) (wc : Nat) (l2 : List Nat) (pa pb : Int) (a : Option Addr) (len cap : Nat) (ts : List NodeD) (x : Nat) (w : World) (hR : RightT ts len) (hN : Nodes w a len ts) (hx : x < len) :
    Calls Tryz.prog 22 #[.slice a len cap, .int .i64 (x : Int), .agg #[.int .i64 23, .string tx, .slice wa l2.length wc, .int .i64 pa, .int .i64 pb]] w (RelRow (ancL ts x) w) := by
  have hb0 : Below w.heap.size w (w.alloc (.cells #[.int .i64 23, .string tx, .slice wa l2.length wc, .int .i64 pa, .int .i64 pb] 27)) := (Below.refl _ _).alloc (Nat.le_refl _) _
  have k0 : (w.alloc (.cells #[.int .i64 23, .string tx, .slice wa l2.length wc, .int .i64 pa, .int .i64 pb] 27)).cell? ⟨w.heap.size, 0, none⟩ = some (.int .i64 23) := cell_alloc_new' _ _ _ rfl rfl
  have k2 : (w.alloc (.cells #[.int .i64 23, .string tx, .slice wa l2.length wc, .int .i64 pa, .int .i64 pb] 27)).cell? ⟨w.heap.size, 2, none⟩ = some (.slice wa l2.length wc) := cell_alloc_new' _ _ _ rfl rfl
  obtain ⟨w0, hw0⟩ : ∃ w0, w.alloc (.cells #[.int .i64 23, .string tx, .slice wa l2.length wc, .int .i64 pa, .int .i64 pb] 27) = w0 := ⟨_, rfl⟩
  rw [hw0] at hb0 k0 k2
  have hml : w.heap.size < w0.heap.size := World.block_lt_of_cell? _ _ k0
  have hN0 := hN.below hb0
  have HB := Lib.hid hb0
  have hbe := aboveOf_any a len cap ts x w0 hN0 hR hx
  obtain ⟨L, hL⟩ : ∃ L, ancL ts x = L := ⟨_, rfl⟩
  rw [hL] at hbe ⊢
  have HBE := Lib.hid hbe
  clear hbe hN hR hb0 hN0 hL
  go_enter Tryz.func22, Tryz.ntmps22
  go_wp2_with fail
  refine HBE.out.mono ?_
  rintro e w1 ⟨v, rfl, ho, hb⟩
  have H := Lib.hid (HB.out.trans (hb.out.mono HB.out.size))
  have HR := Lib.hid ho.out.reads
  clear ho hb HBE
  go_wp2
  go_ret2
  exact ⟨v, rfl, HR, H⟩

set_option maxRecDepth 100000 in
set_option maxHeartbeats 4000000 in
theorem relW_25 (tx : ByteArray) (wa : Option Addr) (wc : Nat) (l2 : List Nat) (pa pb : Int) (a : Option Addr) (len cap : Nat) (ts : List NodeD) (x : Nat) (w : World) (hR : RightT ts len) (hN : Nodes w a len ts) (hx : x < len) :
    Calls Tryz.prog 22 #[.slice a len cap, .int .i64 (x : Int), .agg #[.int .i64 25, .string tx, .slice wa l2.length wc, .int .i64 pa, .int .i64 pb]] w (RelRow ((nextL ts len x).take 1) w) := by
  have hb0 : Below w.heap.size w (w.alloc (.cells #[.int .i64 25, .string tx, .slice wa l2.length wc, .int .i64 pa, .int .i64 pb] 27)) := (Below.refl _ _).alloc (Nat.le_refl _) _
  have k0 : (w.alloc (.cells #[.int .i64 25, .string tx, .slice wa l2.length wc, .int .i64 pa, .int .i64 pb] 27)).cell? ⟨w.heap.size, 0, none⟩ = some (.int .i64 25) := cell_alloc_new' _ _ _ rfl rfl
  have k2 : (w.alloc (.cells #[.int .i64 25, .string tx, .slice wa l2.length wc, .int .i64 pa, .int .i64 pb] 27)).cell? ⟨w.heap.size, 2, none⟩ = some (.slice wa l2.length wc) := cell_alloc_new' _ _ _ rfl rfl
  obtain ⟨w0, hw0⟩ : ∃ w0, w.alloc (.cells #[.int .i64 25, .string tx, .slice wa l2.length wc, .int .i64 pa, .int .i64 pb] 27) = w0 := ⟨_, rfl⟩
  rw [hw0] at hb0 k0 k2
  have hml : w.heap.size < w0.heap.size := World.block_lt_of_cell? _ _ k0
  have hN0 := hN.below hb0
  have HB := Lib.hid hb0
  have hbe := beside_true a len cap ts x w0 hN0 hR hx
  obtain ⟨L, hL⟩ : ∃ L, nextL ts len x = L := ⟨_, rfl⟩
  rw [hL] at hbe ⊢
  have HBE := Lib.hid hbe
  clear hbe hN hR hb0 hN0 hL
  go_enter Tryz.func22, Tryz.ntmps22
  go_wp2_with fail
  refine HBE.out.mono ?_
  rintro e w1 ⟨v, rfl, ho, hb⟩
  have H := Lib.hid (HB.out.trans (hb.out.mono HB.out.size))
  have HAM := Lib.hid (atMost_any v L w1 ho.out.reads)
  clear ho hb HBE
  go_wp2_with fail
  refine HAM.out.mono ?_
  rintro e w2 ⟨v2, rfl, hr, rfl⟩
  go_wp2
  go_ret2
  exact ⟨v2, rfl, hr, H⟩

set_option maxRecDepth 100000 in
set_option maxHeartbeats 4000000 in
theorem relW_28 (tx : ByteArray) (wa : Option Addr) (wc : Nat) (l2 : List Nat) (pa pb : Int) (a : Option Addr) (len cap : Nat) (ts : List NodeD) (x : Nat) (w : World) (hR : RightT ts len) (hN : Nodes w a len ts) (hx : x < len) :
    Calls Tryz.prog 22 #[.slice a len cap, .int .i64 (x : Int), .agg #[.int .i64 28, .string tx, .slice wa l2.length wc, .int .i64 pa, .int .i64 pb]] w (RelRow ((prevL ts x).take 1) w) := by
  have hb0 : Below w.heap.size w (w.alloc (.cells #[.int .i64 28, .string tx, .slice wa l2.length wc, .int .i64 pa, .int .i64 pb] 27)) := (Below.refl _ _).alloc (Nat.le_refl _) _
  have k0 : (w.alloc (.cells #[.int .i64 28, .string tx, .slice wa l2.length wc, .int .i64 pa, .int .i64 pb] 27)).cell? ⟨w.heap.size, 0, none⟩ = some (.int .i64 28) := cell_alloc_new' _ _ _ rfl rfl
  have k2 : (w.alloc (.cells #[.int .i64 28, .string tx, .slice wa l2.length wc, .int .i64 pa, .int .i64 pb] 27)).cell? ⟨w.heap.size, 2, none⟩ = some (.slice wa l2.length wc) := cell_alloc_new' _ _ _ rfl rfl
  obtain ⟨w0, hw0⟩ : ∃ w0, w.alloc (.cells #[.int .i64 28, .string tx, .slice wa l2.length wc, .int .i64 pa, .int .i64 pb] 27) = w0 := ⟨_, rfl⟩
  rw [hw0] at hb0 k0 k2
  have hml : w.heap.size < w0.heap.size := World.block_lt_of_cell? _ _ k0
  have hN0 := hN.below hb0
  have HB := Lib.hid hb0
  have hbe := beside_false a len cap ts x w0 hN0 hR hx
  obtain ⟨L, hL⟩ : ∃ L, prevL ts x = L := ⟨_, rfl⟩
  rw [hL] at hbe ⊢
  have HBE := Lib.hid hbe
  clear hbe hN hR hb0 hN0 hL
  go_enter Tryz.func22, Tryz.ntmps22
  go_wp2_with fail
  refine HBE.out.mono ?_
  rintro e w1 ⟨v, rfl, ho, hb⟩
  have H := Lib.hid (HB.out.trans (hb.out.mono HB.out.size))
  have HAM := Lib.hid (atMost_any v L w1 ho.out.reads)
  clear ho hb HBE
  go_wp2_with fail
  refine HAM.out.mono ?_
  rintro e w2 ⟨v2, rfl, hr, rfl⟩
  go_wp2
  go_ret2
  exact ⟨v2, rfl, hr, H⟩

theorem ownInts_reads {w : World} {B : Nat} {v : Value} {l : List Nat} (h : OwnInts w B v l) : ReadsAs w v (l.map intV) := by
  have h2 : OwnPl w B v l := h
  exact h2.reads

set_option maxRecDepth 100000 in
set_option maxHeartbeats 4000000 in
theorem relW_21 (tx : ByteArray) (wa : Option Addr) (wc : Nat) (l2 : List Nat) (pa pb : Int) (a : Option Addr) (len cap : Nat) (ts : List NodeD) (x : Nat) (w : World) (hR : RightT ts len) (hN : Nodes w a len ts) (hx : x < len) :
    Calls Tryz.prog 22 #[.slice a len cap, .int .i64 (x : Int), .agg #[.int .i64 21, .string tx, .slice wa l2.length wc, .int .i64 pa, .int .i64 pb]] w (RelRow (conL ts len x) w) := by
  have hb0 : Below w.heap.size w (w.alloc (.cells #[.int .i64 21, .string tx, .slice wa l2.length wc, .int .i64 pa, .int .i64 pb] 27)) := (Below.refl _ _).alloc (Nat.le_refl _) _
  have k0 : (w.alloc (.cells #[.int .i64 21, .string tx, .slice wa l2.length wc, .int .i64 pa, .int .i64 pb] 27)).cell? ⟨w.heap.size, 0, none⟩ = some (.int .i64 21) := cell_alloc_new' _ _ _ rfl rfl
  have k2 : (w.alloc (.cells #[.int .i64 21, .string tx, .slice wa l2.length wc, .int .i64 pa, .int .i64 pb] 27)).cell? ⟨w.heap.size, 2, none⟩ = some (.slice wa l2.length wc) := cell_alloc_new' _ _ _ rfl rfl
  obtain ⟨w0, hw0⟩ : ∃ w0, w.alloc (.cells #[.int .i64 21, .string tx, .slice wa l2.length wc, .int .i64 pa, .int .i64 pb] 27) = w0 := ⟨_, rfl⟩
  rw [hw0] at hb0 k0 k2
  have hml : w.heap.size < w0.heap.size := World.block_lt_of_cell? _ _ k0
  have hN0 := hN.below hb0
  have HB := Lib.hid hb0
  have hbe := kids_any a len cap ts x w0 hN0 hR.sizes (fun j hj => hR.nest.fit j hj) hx hR.le
  rw [conL_kids hR hx] at hbe
  obtain ⟨L, hL⟩ : ∃ L, conL ts len x = L := ⟨_, rfl⟩
  rw [hL] at hbe ⊢
  have HBE := Lib.hid hbe
  clear hbe hN hR hb0 hN0 hL
  go_enter Tryz.func22, Tryz.ntmps22
  go_wp2_with fail
  refine HBE.out.mono ?_
  rintro e w1 ⟨v, rfl, ho, hb⟩
  have H := Lib.hid (HB.out.trans (hb.mono HB.out.size))
  have HR := Lib.hid (ownInts_reads ho)
  clear ho hb HBE
  go_wp2
  go_ret2
  exact ⟨v, rfl, HR, H⟩

set_option maxRecDepth 100000 in
set_option maxHeartbeats 2000000 in
theorem relWParent (tx : ByteArray) (wa : Option Addr) (wc : Nat) (l2 : List Nat) (pa pb : Int) (a : Option Addr) (len cap : Nat) (ts : List NodeD) (x : Nat) (w : World) (hR : RightT ts len) (hN : Nodes w a len ts) (hx : x < len) :
    Calls Tryz.prog 22 #[.slice a len cap, .int .i64 (x : Int), .agg #[.int .i64 22, .string tx, .slice wa l2.length wc, .int .i64 pa, .int .i64 pb]] w (RelPost (parEl ts x) w) := by
  have hlen := hR.le
  have hpar := fun w' (h : Nodes w' a len ts) => parent_any a len cap ts x w' h hR.sizes (fun j hj => hR.nest.fit j hj) hx
  have hb0 : Below w.heap.size w (w.alloc (.cells #[.int .i64 22, .string tx, .slice wa l2.length wc, .int .i64 pa, .int .i64 pb] 27)) := (Below.refl _ _).alloc (Nat.le_refl _) _
  have k0 : (w.alloc (.cells #[.int .i64 22, .string tx, .slice wa l2.length wc, .int .i64 pa, .int .i64 pb] 27)).cell? ⟨w.heap.size, 0, none⟩ = some (.int .i64 22) := cell_alloc_new' _ _ _ rfl rfl
  obtain ⟨w0, hw0⟩ : ∃ w0, w.alloc (.cells #[.int .i64 22, .string tx, .slice wa l2.length wc, .int .i64 pa, .int .i64 pb] 27) = w0 := ⟨_, rfl⟩
  rw [hw0] at hb0 k0
  have hN0 := hN.below hb0
  have HPAR := Lib.hid (hpar w0 hN0)
  have HB := Lib.hid hb0
  have hpos := hR.pos
  obtain ⟨b, off, rfl, hc⟩ := hN0.at hpos
  have HC := Lib.hid hc
  cases hp : par (sz ts) x with
  | none =>
    rw [hp] at HPAR
    have he := parEl_none hp
    rw [he]
    show Calls _ _ _ _ (RelNo w)
    clear hp he hpar hN hN0 hc hR hb0
    have g1 : decide ((0 : Int) ≤ -1) = false := by decide
    go_enter Tryz.func22, Tryz.ntmps22
    go_wp2_with fail
    refine HPAR.out.mono ?_
    rintro e w1 ⟨rfl, rfl⟩
    simp only [parI]
    go_wp2
    go_ret2
    exact ⟨rfl, HB⟩
  | some p =>
    rw [hp] at HPAR
    have hpx := (par_some hp).1
    have hpl : p < len := by omega
    have hpe := parEl_some hp
    have cp := (HC.out p hpl).kind
    obtain ⟨q, hq⟩ : ∃ q, (ts.getD p default).kind = q := ⟨_, rfl⟩
    rw [hq] at cp
    have hkd : kd ts p = q := hq
    have hplI : (p : Int) < (len : Int) := by omega
    have g1 : decide ((0 : Int) ≤ (p : Int)) = true := by simp
    by_cases h3 : q = 3
    · subst h3
      rw [if_pos hkd] at hpe
      rw [hpe]
      show Calls _ _ _ _ (RelOne p w)
      clear hp hpe hpar hN hN0 hc hR hb0 hq hkd
      go_enter Tryz.func22, Tryz.ntmps22
      go_wp2_with fail
      refine HPAR.out.mono ?_
      rintro e w1 ⟨rfl, rfl⟩
      simp only [parI]
      go_wp2
      go_ret2
      exact ⟨w0.heap.size, rfl, cell_alloc_new' _ _ _ rfl rfl, Lib.hid (HB.out.alloc HB.out.size _)⟩
    · have g3 : (q == 3) = false := by simp [h3]
      rw [if_neg (by rw [hkd]; exact h3)] at hpe
      rw [hpe]
      show Calls _ _ _ _ (RelNo w)
      clear hp hpe hpar hN hN0 hc hR hb0 hq hkd h3
      go_enter Tryz.func22, Tryz.ntmps22
      go_wp2_with fail
      refine HPAR.out.mono ?_
      rintro e w1 ⟨rfl, rfl⟩
      simp only [parI]
      go_wp2
      go_ret2
      exact ⟨rfl, HB⟩

theorem relW_22 (tx : ByteArray) (wa : Option Addr) (wc : Nat) (l2 : List Nat) (pa pb : Int) (a : Option Addr) (len cap : Nat) (ts : List NodeD) (x : Nat) (w : World) (hR : RightT ts len) (hN : Nodes w a len ts) (hx : x < len) :
    Calls Tryz.prog 22 #[.slice a len cap, .int .i64 (x : Int), .agg #[.int .i64 22, .string tx, .slice wa l2.length wc, .int .i64 pa, .int .i64 pb]] w (RelRow ((parEl ts x).toList) w) := by
  refine (relWParent tx wa wc l2 pa pb a len cap ts x w hR hN hx).mono fun e w' h => ?_
  cases hp : parEl ts x with
  | none =>
    rw [hp] at h
    obtain ⟨he, hb⟩ := h
    exact ⟨_, he, Lib.hid ⟨none, 0, rfl, Nat.zero_le _, Nat.zero_le _, rfl, Nat.zero_le _, fun h => absurd h (Nat.lt_irrefl 0)⟩, hb⟩
  | some p =>
    rw [hp] at h
    obtain ⟨g, he, hc, hb⟩ := h
    exact ⟨_, he, Lib.hid (reads_single hc), hb⟩

set_option maxRecDepth 100000 in
set_option maxHeartbeats 4000000 in
theorem relW_no (tx : ByteArray) (wa : Option Addr) (wc : Nat) (l2 : List Nat) (pa pb : Int) (op : Int) (hop : op < 20 ∨ 31 < op) (a : Option Addr) (len cap : Nat) (x : Int) (w : World) :
    Calls Tryz.prog 22 #[.slice a len cap, .int .i64 x, .agg #[.int .i64 op, .string tx, .slice wa l2.length wc, .int .i64 pa, .int .i64 pb]] w (fun e w' => e = .returned (.tuple #[.slice none 0 0, .bool false]) ∧ Hid (Below w.heap.size w w')) := by
  have o20 : (op == 20) = false := by simp; omega
  have o21 : (op == 21) = false := by simp; omega
  have o22 : (op == 22) = false := by simp; omega
  have o23 : (op == 23) = false := by simp; omega
  have o24 : (op == 24) = false := by simp; omega
  have o25 : (op == 25) = false := by simp; omega
  have o26 : (op == 26) = false := by simp; omega
  have o27 : (op == 27) = false := by simp; omega
  have o28 : (op == 28) = false := by simp; omega
  have o29 : (op == 29) = false := by simp; omega
  have o30 : (op == 30) = false := by simp; omega
  have o31 : (op == 31) = false := by simp; omega
  have hb0 : Below w.heap.size w (w.alloc (.cells #[.int .i64 op, .string tx, .slice wa l2.length wc, .int .i64 pa, .int .i64 pb] 27)) := (Below.refl _ _).alloc (Nat.le_refl _) _
  have k0 : (w.alloc (.cells #[.int .i64 op, .string tx, .slice wa l2.length wc, .int .i64 pa, .int .i64 pb] 27)).cell? ⟨w.heap.size, 0, none⟩ = some (.int .i64 op) := cell_alloc_new' _ _ _ rfl rfl
  have HB := Lib.hid hb0
  clear hop hb0
  go_enter Tryz.func22, Tryz.ntmps22
  go_wp2
  go_ret2
  exact ⟨rfl, HB⟩

/-- At each step to relatives. -/
theorem relW_any (tx : ByteArray) (wa : Option Addr) (wc : Nat) (l2 : List Nat) (pa pb : Int) {ts : List NodeD} {len : Nat} (op : Int) {F : Nat → List Nat} (hF : relF ts len op l2 = some F) (a : Option Addr) (cap : Nat) (w : World) (hR : RightT ts len) (hN : Nodes w a len ts) (h2 : ReadsAs w (.slice wa l2.length wc) (l2.map intV)) (x : Nat) (hx : x < len) :
    Calls Tryz.prog 22 #[.slice a len cap, .int .i64 (x : Int), .agg #[.int .i64 op, .string tx, .slice wa l2.length wc, .int .i64 pa, .int .i64 pb]] w (RelRow (F x) w) := by
  unfold relF at hF
  by_cases h20 : op = 20
  · rw [if_pos h20] at hF
    subst h20
    cases hF
    exact relW_20 tx wa wc l2 pa pb a len cap ts x w hR hN hx
  rw [if_neg h20] at hF
  by_cases h21 : op = 21
  · rw [if_pos h21] at hF
    subst h21
    cases hF
    exact relW_21 tx wa wc l2 pa pb a len cap ts x w hR hN hx
  rw [if_neg h21] at hF
  by_cases h22 : op = 22
  · rw [if_pos h22] at hF
    subst h22
    cases hF
    exact relW_22 tx wa wc l2 pa pb a len cap ts x w hR hN hx
  rw [if_neg h22] at hF
  by_cases h23 : op = 23
  · rw [if_pos h23] at hF
    subst h23
    cases hF
    exact relW_23 tx wa wc l2 pa pb a len cap ts x w hR hN hx
  rw [if_neg h23] at hF
  by_cases h24 : op = 24
  · rw [if_pos h24] at hF
    subst h24
    cases hF
    exact relW_24 tx wa wc l2 pa pb a len cap ts x w hR hN hx h2
  rw [if_neg h24] at hF
  by_cases h25 : op = 25
  · rw [if_pos h25] at hF
    subst h25
    cases hF
    exact relW_25 tx wa wc l2 pa pb a len cap ts x w hR hN hx
  rw [if_neg h25] at hF
  by_cases h26 : op = 26
  · rw [if_pos h26] at hF
    subst h26
    cases hF
    exact relW_26 tx wa wc l2 pa pb a len cap ts x w hR hN hx
  rw [if_neg h26] at hF
  by_cases h27 : op = 27
  · rw [if_pos h27] at hF
    subst h27
    cases hF
    exact relW_27 tx wa wc l2 pa pb a len cap ts x w hR hN hx h2
  rw [if_neg h27] at hF
  by_cases h28 : op = 28
  · rw [if_pos h28] at hF
    subst h28
    cases hF
    exact relW_28 tx wa wc l2 pa pb a len cap ts x w hR hN hx
  rw [if_neg h28] at hF
  by_cases h29 : op = 29
  · rw [if_pos h29] at hF
    subst h29
    cases hF
    exact relW_29 tx wa wc l2 pa pb a len cap ts x w hR hN hx
  rw [if_neg h29] at hF
  by_cases h30 : op = 30
  · rw [if_pos h30] at hF
    subst h30
    cases hF
    exact relW_30 tx wa wc l2 pa pb a len cap ts x w hR hN hx h2
  rw [if_neg h30] at hF
  by_cases h31 : op = 31
  · rw [if_pos h31] at hF
    subst h31
    cases hF
    exact relW_31 tx wa wc l2 pa pb a len cap ts x w hR hN hx
  rw [if_neg h31] at hF
  cases hF

end Go.Proofs.YtphppdbhofeagaaGreat

namespace Go.Proofs.YtphppdbhofeagaaGreat
open Go.RowKit
set_option linter.unusedVariables false
set_option linter.unusedSimpArgs false

set_option maxRecDepth 100000 in
set_option maxHeartbeats 4000000 in
theorem relatedW (tx : ByteArray) (wa : Option Addr) (wc : Nat) (l2 : List Nat) (pa pb : Int) (op : Int) (hop : 20 ≤ op ∧ op ≤ 31) (F : Nat → List Nat) (a : Option Addr) (len cap : Nat) (ts : List NodeD) (v : Value) (l : List Nat) (w : World) (hR : RightT ts len) (hN : Nodes w a len ts) (hv : ReadsAs w v (l.map intV)) (hin : ∀ i ∈ l, i < len) (hn : l.length ≤ 200) (h2 : ReadsAs w (.slice wa l2.length wc) (l2.map intV)) (hgl : ∀ x ∈ l, (F x).length ≤ 400)
    (hrel : ∀ (x : Nat) (w' : World), Nodes w' a len ts → ReadsAs w' (.slice wa l2.length wc) (l2.map intV) → x < len → Calls Tryz.prog 22 #[.slice a len cap, .int .i64 (x : Int), .agg #[.int .i64 op, .string tx, .slice wa l2.length wc, .int .i64 pa, .int .i64 pb]] w' (RelRow (F x) w')) :
    Calls Tryz.prog 8 #[.slice a len cap, v, .agg #[.int .i64 op, .string tx, .slice wa l2.length wc, .int .i64 pa, .int .i64 pb]] w (RelatedRowG (onceF (l.flatMap F)) w) := by
  have hpos := hR.pos
  obtain ⟨va, vcap, b, off, rfl, hm, ha, hc⟩ := ints_open hv
  have o32 : (op == 32) = false := by simp; omega
  have o33 : (op == 33) = false := by simp; omega
  have o34 : (op == 34) = false := by simp; omega
  have o35 : (op == 35) = false := by simp; omega
  have o36 : (op == 36) = false := by simp; omega
  have o37 : (op == 37) = false := by simp; omega
  have o38 : (op == 38) = false := by simp; omega
  have o39 : (op == 39) = false := by simp; omega
  have hb0 : Below w.heap.size w (w.alloc (.cells #[.int .i64 op, .string tx, .slice wa l2.length wc, .int .i64 pa, .int .i64 pb] 27)) := (Below.refl _ _).alloc (Nat.le_refl _) _
  have hp : ∀ i u, (#[.int .i64 op, .string tx, .slice wa l2.length wc, .int .i64 pa, .int .i64 pb] : Array Value)[i]? = some u → (w.alloc (.cells #[.int .i64 op, .string tx, .slice wa l2.length wc, .int .i64 pa, .int .i64 pb] 27)).cell? ⟨w.heap.size, i, none⟩ = some u := fun i u h => cell_alloc_new' _ _ _ rfl h
  obtain ⟨w0, hw0⟩ : ∃ w0, w.alloc (.cells #[.int .i64 op, .string tx, .slice wa l2.length wc, .int .i64 pa, .int .i64 pb] 27) = w0 := ⟨_, rfl⟩
  rw [hw0] at hb0 hp
  have q0 : w0.cell? ⟨w.heap.size, 0, none⟩ = some (.int .i64 op) := hp 0 _ rfl
  have q1 : w0.cell? ⟨w.heap.size, 1, none⟩ = some (.string tx) := hp 1 _ rfl
  have q2 : w0.cell? ⟨w.heap.size, 2, none⟩ = some (.slice wa l2.length wc) := hp 2 _ rfl
  have q3 : w0.cell? ⟨w.heap.size, 3, none⟩ = some (.int .i64 pa) := hp 3 _ rfl
  have q4 : w0.cell? ⟨w.heap.size, 4, none⟩ = some (.int .i64 pb) := hp 4 _ rfl
  have hml : w.heap.size < w0.heap.size := World.block_lt_of_cell? _ _ q0
  have HN0 := Lib.hid (hN.below hb0)
  have H20 := Lib.hid (h2.below hb0)
  have HA := Lib.hid ha
  have HC : Hid (∀ i, i < l.length → w0.cell? ⟨b, off + i, none⟩ = some (.int .i64 ((l.getD i 0 : Nat) : Int))) := Lib.hid (fun i hi => cell_below hb0 (hc i hi))
  have HREL := Lib.hid hrel
  have HIN := Lib.hid (And.intro hin hgl)
  have HB := Lib.hid hb0
  obtain ⟨i0, hi, hz0, hz1, hz2⟩ := info_parts Tryz.infoInt
  clear hv ha hc hrel hin hN hR hb0 hp hgl hop h2
  go_enter Tryz.func8, Tryz.ntmps8
  go_wp2
  clear hw0
  go_loopw [10, 11] (fun x i wr => ∃ (k : Nat) (done : List Nat), i = .int .i64 k ∧ k ≤ l.length ∧ done.length ≤ 400 * k ∧ (l.take k).flatMap F = done ∧ OwnPl wr w0.heap.size x done ∧ Below w0.heap.size w0 wr)
    (fun _ i _ => l.length - (intOf i).toNat)
  case atStart => exact ⟨0, [], by go_num, by omega, by simp, rfl, World.ownsRow_nil _ _ _ _, Below.refl _ _⟩
  case round =>
    obtain ⟨k, done, rfl, hk, hdl, hdone, hown, hbel⟩ := hrel
    have r0 := cell_below hbel q0
    have r1 := cell_below hbel q1
    have r2 := cell_below hbel q2
    have r3 := cell_below hbel q3
    have r4 := cell_below hbel q4
    have hmr : w.heap.size < wr.heap.size := Nat.lt_of_lt_of_le hml hbel.size
    by_cases hlt : k < l.length
    · obtain rfl := HA.out (by omega)
      have hmem := getD_mem' (d := 0) hlt
      have hxl := HIN.out.1 _ hmem
      have hgx := HIN.out.2 _ hmem
      have ck := cell_below hbel (HC.out k hlt)
      have htk : (l.take (k + 1)).flatMap F = (l.take k).flatMap F ++ F (l.getD k 0) := by rw [take_snoc hlt, List.flatMap_append]; simp
      obtain ⟨x, hxx⟩ : ∃ x, l.getD k 0 = x := ⟨_, rfl⟩
      rw [hxx] at ck hxl htk hgx
      rw [hdone] at htk
      have hkI : (k : Int) < (l.length : Int) := by omega
      have hRL := fun w' (h : Nodes w' a len ts) (h9 : ReadsAs w' (.slice wa l2.length wc) (l2.map intV)) => HREL.out x w' h h9 hxl
      obtain ⟨G, hG⟩ : ∃ G, F x = G := ⟨_, rfl⟩
      simp only [hG] at hRL htk hgx
      obtain ⟨oa, oc, hu10, hnc⟩ := hown.reads.nil
      rw [List.length_map] at hu10 hnc
      subst hu10
      have hbd : Below w0.heap.size w0 wr.drew := Below.drew hbel
      have hownd : OwnPl wr.drew w0.heap.size (.slice oa done.length oc) done := ownsRow_kept hown (fun q _ => rfl)
      have HBD := Lib.hid (And.intro hbd hownd)
      have HRL := Lib.hid hRL
      have HT := Lib.hid htk
      clear hRL htk hxx hown hbel hbd hownd hdone hG hmem
      go_wp2_with fail
      go_region_with (go_at_call 22; refine Calls.mono (HRL.out _ (HN0.out.below HBD.out.1) (H20.out.below HBD.out.1)) ?_; rintro e w2 ⟨vg, rfl, hrg, hb2⟩)
      all_goals
        have hb3 := HBD.out.1.trans (hb2.out.mono HBD.out.1.size)
        have hown2 : w2.ownsRow w0.heap.size 3 1 (.slice oa done.length oc) done.length (done.map intV) := ownsRow_kept HBD.out.2 (fun q hq => hb2.out.block q (World.ownsRow.lt HBD.out.2 q hq).2)
        obtain ⟨ga, gc, hvg, _⟩ := hrg.out.nil
        rw [List.length_map] at hvg
        subst hvg
        have hrow : Row w2 ga G.length (G.map intV) := by have h := reads_row hrg.out; exact h
        have H3 := Lib.hid (And.intro hown2 (And.intro hrow hb3))
        have hsz2 : w0.heap.size ≤ w2.heap.size := hb3.size
        clear hb2 hb3 hown2 hrow hrg r0 r1 r2 r3 r4 ck
        go_wp2_with (at_builtin; refine wpList_append_reads rfl _ _ 23 rfl w0.heap.size 3 i0 (.int .i64 0) 8 Tryz.underlying23 hi hz0 hz1 hz2 rfl _ _ _ (done.map intV) rfl H3.out.1 ga G.length gc (G.map intV) rfl H3.out.2.1 intV_one (by unfold maxLen; omega) (by omega) (by omega) ?_)
        intro b4 c4 w4 hown4 hgrow4
        have hb4 : Below w0.heap.size w0 w4 := H3.out.2.2.grown hgrow4 H3.out.2.2.size (fun q hq => (World.ownsRow.lt H3.out.1 q hq).1)
        have hsn : OwnPl w4 w0.heap.size (.slice b4 (done.length + G.length) c4) (done ++ G) := by
          unfold OwnPl
          simpa using hown4
        have H4 := Lib.hid (And.intro hsn hb4)
        clear hown4 hgrow4 hb4 hsn H3
        go_wp2
        go_roundw
        case rel => exact ⟨k + 1, done ++ G, by go_num, by omega, by rw [List.length_append]; omega, HT.out, H4.out.1, H4.out.2⟩
        case measure => simp [intOf]; omega
    · obtain rfl : k = l.length := by omega
      have hd := hdone
      rw [List.take_length] at hd
      have hRL := HREL.out 0 wr (HN0.out.below hbel) (H20.out.below hbel) hpos
      have HRL := Lib.hid hRL
      have HO := Lib.hid (And.intro hown (And.intro hbel hd))
      clear hRL hown hbel hd hdone hlt
      go_wp2_with fail
      refine HRL.out.mono ?_
      rintro e w2 ⟨v0, rfl, _, hb2⟩
      have hon := once2_any u10 done w2 ((HO.out.1.reads).below hb2.out) (by omega)
      have HON := Lib.hid hon
      have HB2 := Lib.hid (HB.out.trans ((HO.out.2.1.trans (hb2.out.mono HO.out.2.1.size)).mono HB.out.size))
      clear hon hb2 HRL r0 r1 r2 r3 r4
      go_wp2_with fail
      refine HON.out.mono ?_
      rintro e w3 ⟨v3, rfl, ho3, hb3⟩
      have hfin := Lib.hid (HB2.out.trans (hb3.out.mono HB2.out.size))
      have hown3 : Hid (OwnPl w3 w.heap.size v3 (onceF (l.flatMap F))) := Lib.hid (by rw [HO.out.2.2]; exact ownsRow_base ho3.out HB2.out.size)
      clear ho3 hb3 HON
      go_wp2
      go_ret2
      exact ⟨v3, rfl, hown3, hfin⟩

end Go.Proofs.YtphppdbhofeagaaGreat

