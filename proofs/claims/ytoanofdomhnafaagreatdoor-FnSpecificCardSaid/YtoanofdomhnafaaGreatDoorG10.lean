/- Parts of a proof: SelFields1. -/
import Derived.Test.YtoanofdomhnafaaGreatDoorG09
import Derived.Test.YtoanofdomhnafaaGreatDoorG08
import Derived.Test.YtoanofdomhnafaaGreatDoorG00
import Derived.Deep.RegionHeld3
set_option linter.unusedVariables false
set_option linter.unusedSimpArgs false
namespace Go.Proofs.YtoanofdomhnafaaGreatDoor
open Go.RowKit
set_option maxRecDepth 100000 in
set_option maxHeartbeats 8000000 in
theorem selFields_k2 (kd_ op_ : Int) (key val : ByteArray) (a_ b_ fl_ sz_ : Int) (w : World) (hk : key.size ≤ 4000) (hv : val.size ≤ 4000) (hrk : readF key = true) (hrv : readF val = true) (hcl : kd_ = 2) :
    Calls Tryz.prog 19 #[.agg #[.int .i64 kd_, .int .i64 op_, .string key, .string val, .int .i64 a_, .int .i64 b_, .int .i64 fl_, .int .i64 sz_]] w (FieldsPost ⟨kd_, op_, key, val, a_, b_, fl_, sz_⟩ w) := by
  have HCLS := Lib.hid hcl
  clear hcl
  have h0 := objAt_alloc_new w #[.int .i64 kd_, .int .i64 op_, .string key, .string val, .int .i64 a_, .int .i64 b_, .int .i64 fl_, .int .i64 sz_] 25
  have hb0 : Below w.heap.size w (w.alloc (.cells #[.int .i64 kd_, .int .i64 op_, .string key, .string val, .int .i64 a_, .int .i64 b_, .int .i64 fl_, .int .i64 sz_] 25)) := (Below.refl _ _).alloc (Nat.le_refl _) _
  obtain ⟨w0, hw0⟩ : ∃ w0, w.alloc (.cells #[.int .i64 kd_, .int .i64 op_, .string key, .string val, .int .i64 a_, .int .i64 b_, .int .i64 fl_, .int .i64 sz_] 25) = w0 := ⟨_, rfl⟩
  obtain ⟨S0, hS⟩ : ∃ S0, w.heap.size = S0 := ⟨_, rfl⟩
  rw [hw0] at h0 hb0
  rw [hS] at h0
  have c2 : w0.cell? ⟨S0, 2, none⟩ = some (.string key) := World.objAt.cell h0 (i := 2) rfl
  have c3 : w0.cell? ⟨S0, 3, none⟩ = some (.string val) := World.objAt.cell h0 (i := 3) rfl
  have HB0 := Lib.hid hb0
  have HO0 := Lib.hid h0
  have hK := fun w' => readF_any key w' hk
  have hV := fun w' => readF_any val w' hv
  rw [hrk] at hK
  rw [hrv] at hV
  have HK := Lib.hid hK
  have HV := Lib.hid hV
  have HL := Lib.hid (fun w' => specLower_any key w' (by omega))
  have HZ := Lib.hid (And.intro (readF_zero hrk) (readF_zero hrv))
  clear h0 hb0 hK hV hrk hrv
  go_enter Tryz.func19, Tryz.ntmps19
  go_wp2
  go_region_held3 (fun w' => Below w0.heap.size w0 w' ∧ w'.cell? ⟨S0, 2, none⟩ = some (.string key) ∧ w'.cell? ⟨S0, 3, none⟩ = some (.string val))
    (first
      | exact ⟨(Below.refl _ _).drew, c2, c3⟩
      | exact ⟨hb6, s2, s3⟩)
    (first
      | (go_at_call 28
         refine (HL.out _).mono ?_
         rintro e w6 ⟨r, rfl, _, hb5⟩
         have hb6 : Below w0.heap.size w0 w6 := ((Below.refl _ _).drew).trans hb5
         have s2 := (hb6.cell (p := ⟨S0, 2, none⟩) (World.objAt.lt HO0.out)).trans c2
         have s3 := (hb6.cell (p := ⟨S0, 3, none⟩) (World.objAt.lt HO0.out)).trans c3)
      | ((with_reducible refine (HK.out _).mono ?_)
         rintro e w5 ⟨rfl, rfl⟩)
      | ((with_reducible refine (HV.out _).mono ?_)
         rintro e w5 ⟨rfl, rfl⟩))
  have HO6 := Lib.hid (World.objAt.below HO0.out hb6 (World.objAt.lt HO0.out))
  have HB6 := Lib.hid (HB0.out.trans (hb6.mono HB0.out.size))
  clear hb6 s2 s3 hb5 HO0 HB0 HK HV HL c2 c3 hw0
  have c0 : w6.cell? ⟨S0, 0, none⟩ = some (.int .i64 kd_) := World.objAt.cell HO6.out (i := 0) rfl
  have c1 : w6.cell? ⟨S0, 1, none⟩ = some (.int .i64 op_) := World.objAt.cell HO6.out (i := 1) rfl
  have c2 : w6.cell? ⟨S0, 2, none⟩ = some (.string key) := World.objAt.cell HO6.out (i := 2) rfl
  have c3 : w6.cell? ⟨S0, 3, none⟩ = some (.string val) := World.objAt.cell HO6.out (i := 3) rfl
  have c4 : w6.cell? ⟨S0, 4, none⟩ = some (.int .i64 a_) := World.objAt.cell HO6.out (i := 4) rfl
  have c5 : w6.cell? ⟨S0, 5, none⟩ = some (.int .i64 b_) := World.objAt.cell HO6.out (i := 5) rfl
  have c6 : w6.cell? ⟨S0, 6, none⟩ = some (.int .i64 fl_) := World.objAt.cell HO6.out (i := 6) rfl
  cases heq : (r.toList == key.toList)
  case false =>
    have hne : (r.toList != key.toList) = true := by simp [bne, heq]
    go_wp2
    go_ret
    exact ⟨false, (fun h => by cases h), rfl, HB6⟩
  case true =>
    have hne : (r.toList != key.toList) = false := by simp [bne, heq]
    have hcl := HCLS.out
    have x2 : (kd_ == 2) = true := by simp; omega
    have x5 : (kd_ == 5) = false := by simp; omega
    have x3 : (kd_ == 3) = false := by simp; omega
    have x4 : (kd_ == 4) = false := by simp; omega
    have x15 : (kd_ == 15) = false := by simp; omega
    have x16 : (kd_ == 16) = false := by simp; omega
    have x17 : (kd_ == 17) = false := by simp; omega
    have x21 : (kd_ == 21) = false := by simp; omega
    have x6 : (kd_ == 6) = false := by simp; omega
    have x22 : (kd_ == 22) = false := by simp; omega
    have x7 : (kd_ == 7) = false := by simp; omega
    have y21 : (kd_ != 21) = true := by simp; omega
    have HCL := Lib.hid hcl
    clear hcl
    cases ke : key.toList.isEmpty
    · cases ve : val.toList.isEmpty
      · go_wp2
        all_goals first
          | (go_ret; exact ⟨false, (fun h => by cases h), rfl, HB6⟩)
          | (go_ret; refine ⟨_, fun hb => ?_, rfl, HB6⟩; exact ⟨HZ.out.1, HZ.out.2, fun _ => size_of_some ke, fun h => by have := HCL.out; simp only at h; omega, fun h => by have := HCL.out; simp only at h; omega, fun h => by have := HCL.out; simp only at h; omega, fun h => by have := HCL.out; simp only at h; omega, fun h => by have := HCL.out; simp only at h; omega, by simp only; omega⟩)
      · by_cases a0 : a_ = 0
        · have za : (a_ != 0) = false := by simp [a0]
          by_cases b0 : b_ = 0
          · have zb : (b_ != 0) = false := by simp [b0]
            by_cases o0 : op_ = 0
            · have o0e : (op_ == 0) = true := by simp [o0]
              have o0n : (op_ != 0) = false := by simp [o0]
              by_cases f0 : fl_ = 0
              · have f0e : (fl_ == 0) = true := by simp [f0]
                have f0n : (fl_ != 0) = false := by simp [f0]
                go_wp2
                all_goals first
                  | (go_ret; exact ⟨false, (fun h => by cases h), rfl, HB6⟩)
                  | (go_ret; refine ⟨_, fun hb => ?_, rfl, HB6⟩; exact ⟨HZ.out.1, HZ.out.2, fun _ => size_of_some ke, fun h => by have := HCL.out; simp only at h; omega, fun h => by have := HCL.out; simp only at h; omega, fun h => by have := HCL.out; simp only at h; omega, fun h => by have := HCL.out; simp only at h; omega, fun h => by have := HCL.out; simp only at h; omega, by simp only; omega⟩)
              · have f0e : (fl_ == 0) = false := by simp [f0]
                have f0n : (fl_ != 0) = true := by simp [f0]
                go_wp2
                all_goals first
                  | (go_ret; exact ⟨false, (fun h => by cases h), rfl, HB6⟩)
                  | (go_ret; refine ⟨_, fun hb => ?_, rfl, HB6⟩; exact ⟨HZ.out.1, HZ.out.2, fun _ => size_of_some ke, fun h => by have := HCL.out; simp only at h; omega, fun h => by have := HCL.out; simp only at h; omega, fun h => by have := HCL.out; simp only at h; omega, fun h => by have := HCL.out; simp only at h; omega, fun h => by have := HCL.out; simp only at h; omega, by simp only; omega⟩)
            · have o0e : (op_ == 0) = false := by simp [o0]
              have o0n : (op_ != 0) = true := by simp [o0]
              go_wp2
              all_goals first
                | (go_ret; exact ⟨false, (fun h => by cases h), rfl, HB6⟩)
                | (go_ret; refine ⟨_, fun hb => ?_, rfl, HB6⟩; exact ⟨HZ.out.1, HZ.out.2, fun _ => size_of_some ke, fun h => by have := HCL.out; simp only at h; omega, fun h => by have := HCL.out; simp only at h; omega, fun h => by have := HCL.out; simp only at h; omega, fun h => by have := HCL.out; simp only at h; omega, fun h => by have := HCL.out; simp only at h; omega, by simp only; omega⟩)
          · have zb : (b_ != 0) = true := by simp [b0]
            go_wp2
            all_goals first
              | (go_ret; exact ⟨false, (fun h => by cases h), rfl, HB6⟩)
              | (go_ret; refine ⟨_, fun hb => ?_, rfl, HB6⟩; exact ⟨HZ.out.1, HZ.out.2, fun _ => size_of_some ke, fun h => by have := HCL.out; simp only at h; omega, fun h => by have := HCL.out; simp only at h; omega, fun h => by have := HCL.out; simp only at h; omega, fun h => by have := HCL.out; simp only at h; omega, fun h => by have := HCL.out; simp only at h; omega, by simp only; omega⟩)
        · have za : (a_ != 0) = true := by simp [a0]
          go_wp2
          all_goals first
            | (go_ret; exact ⟨false, (fun h => by cases h), rfl, HB6⟩)
            | (go_ret; refine ⟨_, fun hb => ?_, rfl, HB6⟩; exact ⟨HZ.out.1, HZ.out.2, fun _ => size_of_some ke, fun h => by have := HCL.out; simp only at h; omega, fun h => by have := HCL.out; simp only at h; omega, fun h => by have := HCL.out; simp only at h; omega, fun h => by have := HCL.out; simp only at h; omega, fun h => by have := HCL.out; simp only at h; omega, by simp only; omega⟩)
    · go_wp2
      all_goals first
        | (go_ret; exact ⟨false, (fun h => by cases h), rfl, HB6⟩)
        | (go_ret; refine ⟨_, fun hb => ?_, rfl, HB6⟩; exact ⟨HZ.out.1, HZ.out.2, fun _ => size_of_some ke, fun h => by have := HCL.out; simp only at h; omega, fun h => by have := HCL.out; simp only at h; omega, fun h => by have := HCL.out; simp only at h; omega, fun h => by have := HCL.out; simp only at h; omega, fun h => by have := HCL.out; simp only at h; omega, by simp only; omega⟩)
set_option maxRecDepth 100000 in
set_option maxHeartbeats 8000000 in
theorem selFields_k3 (kd_ op_ : Int) (key val : ByteArray) (a_ b_ fl_ sz_ : Int) (w : World) (hk : key.size ≤ 4000) (hv : val.size ≤ 4000) (hrk : readF key = true) (hrv : readF val = true) (hcl : kd_ = 3) :
    Calls Tryz.prog 19 #[.agg #[.int .i64 kd_, .int .i64 op_, .string key, .string val, .int .i64 a_, .int .i64 b_, .int .i64 fl_, .int .i64 sz_]] w (FieldsPost ⟨kd_, op_, key, val, a_, b_, fl_, sz_⟩ w) := by
  have HCLS := Lib.hid hcl
  clear hcl
  have h0 := objAt_alloc_new w #[.int .i64 kd_, .int .i64 op_, .string key, .string val, .int .i64 a_, .int .i64 b_, .int .i64 fl_, .int .i64 sz_] 25
  have hb0 : Below w.heap.size w (w.alloc (.cells #[.int .i64 kd_, .int .i64 op_, .string key, .string val, .int .i64 a_, .int .i64 b_, .int .i64 fl_, .int .i64 sz_] 25)) := (Below.refl _ _).alloc (Nat.le_refl _) _
  obtain ⟨w0, hw0⟩ : ∃ w0, w.alloc (.cells #[.int .i64 kd_, .int .i64 op_, .string key, .string val, .int .i64 a_, .int .i64 b_, .int .i64 fl_, .int .i64 sz_] 25) = w0 := ⟨_, rfl⟩
  obtain ⟨S0, hS⟩ : ∃ S0, w.heap.size = S0 := ⟨_, rfl⟩
  rw [hw0] at h0 hb0
  rw [hS] at h0
  have c2 : w0.cell? ⟨S0, 2, none⟩ = some (.string key) := World.objAt.cell h0 (i := 2) rfl
  have c3 : w0.cell? ⟨S0, 3, none⟩ = some (.string val) := World.objAt.cell h0 (i := 3) rfl
  have HB0 := Lib.hid hb0
  have HO0 := Lib.hid h0
  have hK := fun w' => readF_any key w' hk
  have hV := fun w' => readF_any val w' hv
  rw [hrk] at hK
  rw [hrv] at hV
  have HK := Lib.hid hK
  have HV := Lib.hid hV
  have HL := Lib.hid (fun w' => specLower_any key w' (by omega))
  have HZ := Lib.hid (And.intro (readF_zero hrk) (readF_zero hrv))
  clear h0 hb0 hK hV hrk hrv
  go_enter Tryz.func19, Tryz.ntmps19
  go_wp2
  go_region_held3 (fun w' => Below w0.heap.size w0 w' ∧ w'.cell? ⟨S0, 2, none⟩ = some (.string key) ∧ w'.cell? ⟨S0, 3, none⟩ = some (.string val))
    (first
      | exact ⟨(Below.refl _ _).drew, c2, c3⟩
      | exact ⟨hb6, s2, s3⟩)
    (first
      | (go_at_call 28
         refine (HL.out _).mono ?_
         rintro e w6 ⟨r, rfl, _, hb5⟩
         have hb6 : Below w0.heap.size w0 w6 := ((Below.refl _ _).drew).trans hb5
         have s2 := (hb6.cell (p := ⟨S0, 2, none⟩) (World.objAt.lt HO0.out)).trans c2
         have s3 := (hb6.cell (p := ⟨S0, 3, none⟩) (World.objAt.lt HO0.out)).trans c3)
      | ((with_reducible refine (HK.out _).mono ?_)
         rintro e w5 ⟨rfl, rfl⟩)
      | ((with_reducible refine (HV.out _).mono ?_)
         rintro e w5 ⟨rfl, rfl⟩))
  have HO6 := Lib.hid (World.objAt.below HO0.out hb6 (World.objAt.lt HO0.out))
  have HB6 := Lib.hid (HB0.out.trans (hb6.mono HB0.out.size))
  clear hb6 s2 s3 hb5 HO0 HB0 HK HV HL c2 c3 hw0
  have c0 : w6.cell? ⟨S0, 0, none⟩ = some (.int .i64 kd_) := World.objAt.cell HO6.out (i := 0) rfl
  have c1 : w6.cell? ⟨S0, 1, none⟩ = some (.int .i64 op_) := World.objAt.cell HO6.out (i := 1) rfl
  have c2 : w6.cell? ⟨S0, 2, none⟩ = some (.string key) := World.objAt.cell HO6.out (i := 2) rfl
  have c3 : w6.cell? ⟨S0, 3, none⟩ = some (.string val) := World.objAt.cell HO6.out (i := 3) rfl
  have c4 : w6.cell? ⟨S0, 4, none⟩ = some (.int .i64 a_) := World.objAt.cell HO6.out (i := 4) rfl
  have c5 : w6.cell? ⟨S0, 5, none⟩ = some (.int .i64 b_) := World.objAt.cell HO6.out (i := 5) rfl
  have c6 : w6.cell? ⟨S0, 6, none⟩ = some (.int .i64 fl_) := World.objAt.cell HO6.out (i := 6) rfl
  cases heq : (r.toList == key.toList)
  case false =>
    have hne : (r.toList != key.toList) = true := by simp [bne, heq]
    go_wp2
    go_ret
    exact ⟨false, (fun h => by cases h), rfl, HB6⟩
  case true =>
    have hne : (r.toList != key.toList) = false := by simp [bne, heq]
    have hcl := HCLS.out
    have x2 : (kd_ == 2) = false := by simp; omega
    have x5 : (kd_ == 5) = false := by simp; omega
    have x3 : (kd_ == 3) = true := by simp; omega
    have x4 : (kd_ == 4) = false := by simp; omega
    have x15 : (kd_ == 15) = false := by simp; omega
    have x16 : (kd_ == 16) = false := by simp; omega
    have x17 : (kd_ == 17) = false := by simp; omega
    have x21 : (kd_ == 21) = false := by simp; omega
    have x6 : (kd_ == 6) = false := by simp; omega
    have x22 : (kd_ == 22) = false := by simp; omega
    have x7 : (kd_ == 7) = false := by simp; omega
    have y21 : (kd_ != 21) = true := by simp; omega
    have HCL := Lib.hid hcl
    clear hcl
    cases ke : key.toList.isEmpty
    · go_wp2
      all_goals first
        | (go_ret; exact ⟨false, (fun h => by cases h), rfl, HB6⟩)
        | (go_ret; refine ⟨_, fun hb => ?_, rfl, HB6⟩; exact ⟨HZ.out.1, HZ.out.2, fun h => by have := HCL.out; simp only at h; omega, fun _ => size_of_some ve, fun h => by have := HCL.out; simp only at h; omega, fun h => by have := HCL.out; simp only at h; omega, fun h => by have := HCL.out; simp only at h; omega, fun h => by have := HCL.out; simp only at h; omega, by simp only; omega⟩)
    · cases ve : val.toList.isEmpty
      · by_cases a0 : a_ = 0
        · have za : (a_ != 0) = false := by simp [a0]
          by_cases b0 : b_ = 0
          · have zb : (b_ != 0) = false := by simp [b0]
            by_cases o0 : op_ = 0
            · have o0e : (op_ == 0) = true := by simp [o0]
              have o0n : (op_ != 0) = false := by simp [o0]
              by_cases f0 : fl_ = 0
              · have f0e : (fl_ == 0) = true := by simp [f0]
                have f0n : (fl_ != 0) = false := by simp [f0]
                go_wp2
                all_goals first
                  | (go_ret; exact ⟨false, (fun h => by cases h), rfl, HB6⟩)
                  | (go_ret; refine ⟨_, fun hb => ?_, rfl, HB6⟩; exact ⟨HZ.out.1, HZ.out.2, fun h => by have := HCL.out; simp only at h; omega, fun _ => size_of_some ve, fun h => by have := HCL.out; simp only at h; omega, fun h => by have := HCL.out; simp only at h; omega, fun h => by have := HCL.out; simp only at h; omega, fun h => by have := HCL.out; simp only at h; omega, by simp only; omega⟩)
              · have f0e : (fl_ == 0) = false := by simp [f0]
                have f0n : (fl_ != 0) = true := by simp [f0]
                go_wp2
                all_goals first
                  | (go_ret; exact ⟨false, (fun h => by cases h), rfl, HB6⟩)
                  | (go_ret; refine ⟨_, fun hb => ?_, rfl, HB6⟩; exact ⟨HZ.out.1, HZ.out.2, fun h => by have := HCL.out; simp only at h; omega, fun _ => size_of_some ve, fun h => by have := HCL.out; simp only at h; omega, fun h => by have := HCL.out; simp only at h; omega, fun h => by have := HCL.out; simp only at h; omega, fun h => by have := HCL.out; simp only at h; omega, by simp only; omega⟩)
            · have o0e : (op_ == 0) = false := by simp [o0]
              have o0n : (op_ != 0) = true := by simp [o0]
              go_wp2
              all_goals first
                | (go_ret; exact ⟨false, (fun h => by cases h), rfl, HB6⟩)
                | (go_ret; refine ⟨_, fun hb => ?_, rfl, HB6⟩; exact ⟨HZ.out.1, HZ.out.2, fun h => by have := HCL.out; simp only at h; omega, fun _ => size_of_some ve, fun h => by have := HCL.out; simp only at h; omega, fun h => by have := HCL.out; simp only at h; omega, fun h => by have := HCL.out; simp only at h; omega, fun h => by have := HCL.out; simp only at h; omega, by simp only; omega⟩)
          · have zb : (b_ != 0) = true := by simp [b0]
            go_wp2
            all_goals first
              | (go_ret; exact ⟨false, (fun h => by cases h), rfl, HB6⟩)
              | (go_ret; refine ⟨_, fun hb => ?_, rfl, HB6⟩; exact ⟨HZ.out.1, HZ.out.2, fun h => by have := HCL.out; simp only at h; omega, fun _ => size_of_some ve, fun h => by have := HCL.out; simp only at h; omega, fun h => by have := HCL.out; simp only at h; omega, fun h => by have := HCL.out; simp only at h; omega, fun h => by have := HCL.out; simp only at h; omega, by simp only; omega⟩)
        · have za : (a_ != 0) = true := by simp [a0]
          go_wp2
          all_goals first
            | (go_ret; exact ⟨false, (fun h => by cases h), rfl, HB6⟩)
            | (go_ret; refine ⟨_, fun hb => ?_, rfl, HB6⟩; exact ⟨HZ.out.1, HZ.out.2, fun h => by have := HCL.out; simp only at h; omega, fun _ => size_of_some ve, fun h => by have := HCL.out; simp only at h; omega, fun h => by have := HCL.out; simp only at h; omega, fun h => by have := HCL.out; simp only at h; omega, fun h => by have := HCL.out; simp only at h; omega, by simp only; omega⟩)
      · go_wp2
        all_goals first
          | (go_ret; exact ⟨false, (fun h => by cases h), rfl, HB6⟩)
          | (go_ret; refine ⟨_, fun hb => ?_, rfl, HB6⟩; exact ⟨HZ.out.1, HZ.out.2, fun h => by have := HCL.out; simp only at h; omega, fun _ => size_of_some ve, fun h => by have := HCL.out; simp only at h; omega, fun h => by have := HCL.out; simp only at h; omega, fun h => by have := HCL.out; simp only at h; omega, fun h => by have := HCL.out; simp only at h; omega, by simp only; omega⟩)
end Go.Proofs.YtoanofdomhnafaaGreatDoor
