/- Parts of a proof: WriteSim0. -/
import Derived.Test.YtoanofdomhnafaaGreatDoorG04
import Derived.Test.YtoanofdomhnafaaGreatDoorG18
import Derived.Test.YtoanofdomhnafaaGreatDoorG00
set_option linter.unusedVariables false
set_option linter.unusedSimpArgs false
namespace Go.Proofs.YtoanofdomhnafaaGreatDoor
open Go.RowKit
set_option maxRecDepth 100000 in
set_option maxHeartbeats 8000000 in
theorem ws_any (op : Int) (key val : ByteArray) (a b fl sz : Int) (w : World) :
    Calls Tryz.prog 25 #[.agg #[.int .i64 1, .int .i64 op, .string key, .string val, .int .i64 a, .int .i64 b, .int .i64 fl, .int .i64 sz]] w (StrPost (bs ([42])) w) := by
  have h0 := objAt_alloc_new w #[.int .i64 1, .int .i64 op, .string key, .string val, .int .i64 a, .int .i64 b, .int .i64 fl, .int .i64 sz] 25
  have hb0 : Below w.heap.size w (w.alloc (.cells #[.int .i64 1, .int .i64 op, .string key, .string val, .int .i64 a, .int .i64 b, .int .i64 fl, .int .i64 sz] 25)) := (Below.refl _ _).alloc (Nat.le_refl _) _
  obtain ⟨w0, hw0⟩ : ∃ w0, w.alloc (.cells #[.int .i64 1, .int .i64 op, .string key, .string val, .int .i64 a, .int .i64 b, .int .i64 fl, .int .i64 sz] 25) = w0 := ⟨_, rfl⟩
  obtain ⟨S, hS⟩ : ∃ S, w.heap.size = S := ⟨_, rfl⟩
  rw [hw0] at h0 hb0
  rw [hS] at h0
  have H0 := Lib.hid h0
  have HB0 := Lib.hid hb0
  clear h0 hb0
  have c0 : w0.cell? ⟨S, 0, none⟩ = some (.int .i64 1) := World.objAt.cell H0.out (i := 0) rfl
  have d0 : ∀ o, (w0.alloc o).cell? ⟨S, 0, none⟩ = some (.int .i64 1) := fun o => World.objAt.cell (World.objAt.below H0.out ((Below.refl _ _).alloc (Nat.le_refl _) o) (World.objAt.lt H0.out)) (i := 0) rfl
  go_enter Tryz.func25, Tryz.ntmps25
  go_wp2
  go_ret
  exact ⟨rfl, HB0.out⟩
set_option maxRecDepth 100000 in
set_option maxHeartbeats 8000000 in
theorem ws_tag (op : Int) (key val : ByteArray) (a b fl sz : Int) (w : World) (hs : key.size ≤ 1000) (hz : ∀ i, i < key.size → nx key i ≠ 0) :
    Calls Tryz.prog 25 #[.agg #[.int .i64 2, .int .i64 op, .string key, .string val, .int .i64 a, .int .i64 b, .int .i64 fl, .int .i64 sz]] w (StrPost (bs (namedF key)) w) := by
  have h0 := objAt_alloc_new w #[.int .i64 2, .int .i64 op, .string key, .string val, .int .i64 a, .int .i64 b, .int .i64 fl, .int .i64 sz] 25
  have hb0 : Below w.heap.size w (w.alloc (.cells #[.int .i64 2, .int .i64 op, .string key, .string val, .int .i64 a, .int .i64 b, .int .i64 fl, .int .i64 sz] 25)) := (Below.refl _ _).alloc (Nat.le_refl _) _
  obtain ⟨w0, hw0⟩ : ∃ w0, w.alloc (.cells #[.int .i64 2, .int .i64 op, .string key, .string val, .int .i64 a, .int .i64 b, .int .i64 fl, .int .i64 sz] 25) = w0 := ⟨_, rfl⟩
  obtain ⟨S, hS⟩ : ∃ S, w.heap.size = S := ⟨_, rfl⟩
  rw [hw0] at h0 hb0
  rw [hS] at h0
  have H0 := Lib.hid h0
  have HB0 := Lib.hid hb0
  clear h0 hb0
  have HN := Lib.hid (fun w' => named_any key w' hs hz)
  obtain ⟨N, hN⟩ : ∃ N, bs (namedF key) = N := ⟨_, rfl⟩
  have hNs : N.size ≤ 5000 := by rw [← hN, bs_size]; have := namedF_len key; omega
  have HE := Lib.hid (show bs (namedF key) = N from hN)
  simp only [hN] at HN
  have k1 : 0 + N.size ≤ 9223372036854775807 := by omega
  have k2 : 0 + N.size + 0 ≤ 9223372036854775807 := by omega
  clear hN hs hz
  have c0 : w0.cell? ⟨S, 0, none⟩ = some (.int .i64 2) := World.objAt.cell H0.out (i := 0) rfl
  have c2 : w0.cell? ⟨S, 2, none⟩ = some (.string key) := World.objAt.cell H0.out (i := 2) rfl
  go_enter Tryz.func25, Tryz.ntmps25
  go_wp2_with fail
  refine (HN.out w0).mono ?_
  rintro e w1 ⟨rfl, hb1⟩
  have HB1 := Lib.hid (HB0.out.trans (hb1.mono HB0.out.size))
  clear hb1 HN
  go_wp2
  go_ret
  refine ⟨?_, HB1.out⟩
  show Ending.returned (.string (N)) = _
  rw [← HE.out]
  try rfl
set_option maxRecDepth 100000 in
set_option maxHeartbeats 8000000 in
theorem ws_class (op : Int) (key val : ByteArray) (a b fl sz : Int) (w : World) (hs : val.size ≤ 1000) (hz : ∀ i, i < val.size → nx val i ≠ 0) :
    Calls Tryz.prog 25 #[.agg #[.int .i64 3, .int .i64 op, .string key, .string val, .int .i64 a, .int .i64 b, .int .i64 fl, .int .i64 sz]] w (StrPost (bs (46 :: namedF val)) w) := by
  have h0 := objAt_alloc_new w #[.int .i64 3, .int .i64 op, .string key, .string val, .int .i64 a, .int .i64 b, .int .i64 fl, .int .i64 sz] 25
  have hb0 : Below w.heap.size w (w.alloc (.cells #[.int .i64 3, .int .i64 op, .string key, .string val, .int .i64 a, .int .i64 b, .int .i64 fl, .int .i64 sz] 25)) := (Below.refl _ _).alloc (Nat.le_refl _) _
  obtain ⟨w0, hw0⟩ : ∃ w0, w.alloc (.cells #[.int .i64 3, .int .i64 op, .string key, .string val, .int .i64 a, .int .i64 b, .int .i64 fl, .int .i64 sz] 25) = w0 := ⟨_, rfl⟩
  obtain ⟨S, hS⟩ : ∃ S, w.heap.size = S := ⟨_, rfl⟩
  rw [hw0] at h0 hb0
  rw [hS] at h0
  have H0 := Lib.hid h0
  have HB0 := Lib.hid hb0
  clear h0 hb0
  have HN := Lib.hid (fun w' => named_any val w' hs hz)
  obtain ⟨N, hN⟩ : ∃ N, bs (namedF val) = N := ⟨_, rfl⟩
  have hNs : N.size ≤ 5000 := by rw [← hN, bs_size]; have := namedF_len val; omega
  have HE := Lib.hid (show bs (46 :: namedF val) = ⟨#[46]⟩ ++ N by
    rw [← hN]
    show _ = bs [46] ++ bs (namedF val)
    simp only [bs_append]
    simp)
  simp only [hN] at HN
  have k1 : 1 + N.size ≤ 9223372036854775807 := by omega
  have k2 : 1 + N.size + 0 ≤ 9223372036854775807 := by omega
  clear hN hs hz
  have c0 : w0.cell? ⟨S, 0, none⟩ = some (.int .i64 3) := World.objAt.cell H0.out (i := 0) rfl
  have c3 : w0.cell? ⟨S, 3, none⟩ = some (.string val) := World.objAt.cell H0.out (i := 3) rfl
  go_enter Tryz.func25, Tryz.ntmps25
  go_wp2_with fail
  refine (HN.out w0).mono ?_
  rintro e w1 ⟨rfl, hb1⟩
  have HB1 := Lib.hid (HB0.out.trans (hb1.mono HB0.out.size))
  clear hb1 HN
  go_wp2
  go_ret
  refine ⟨?_, HB1.out⟩
  show Ending.returned (.string (⟨#[46]⟩ ++ N)) = _
  rw [← HE.out]
  try rfl
set_option maxRecDepth 100000 in
set_option maxHeartbeats 8000000 in
theorem ws_id (op : Int) (key val : ByteArray) (a b fl sz : Int) (w : World) (hs : val.size ≤ 1000) (hz : ∀ i, i < val.size → nx val i ≠ 0) :
    Calls Tryz.prog 25 #[.agg #[.int .i64 4, .int .i64 op, .string key, .string val, .int .i64 a, .int .i64 b, .int .i64 fl, .int .i64 sz]] w (StrPost (bs (35 :: namedF val)) w) := by
  have h0 := objAt_alloc_new w #[.int .i64 4, .int .i64 op, .string key, .string val, .int .i64 a, .int .i64 b, .int .i64 fl, .int .i64 sz] 25
  have hb0 : Below w.heap.size w (w.alloc (.cells #[.int .i64 4, .int .i64 op, .string key, .string val, .int .i64 a, .int .i64 b, .int .i64 fl, .int .i64 sz] 25)) := (Below.refl _ _).alloc (Nat.le_refl _) _
  obtain ⟨w0, hw0⟩ : ∃ w0, w.alloc (.cells #[.int .i64 4, .int .i64 op, .string key, .string val, .int .i64 a, .int .i64 b, .int .i64 fl, .int .i64 sz] 25) = w0 := ⟨_, rfl⟩
  obtain ⟨S, hS⟩ : ∃ S, w.heap.size = S := ⟨_, rfl⟩
  rw [hw0] at h0 hb0
  rw [hS] at h0
  have H0 := Lib.hid h0
  have HB0 := Lib.hid hb0
  clear h0 hb0
  have HN := Lib.hid (fun w' => named_any val w' hs hz)
  obtain ⟨N, hN⟩ : ∃ N, bs (namedF val) = N := ⟨_, rfl⟩
  have hNs : N.size ≤ 5000 := by rw [← hN, bs_size]; have := namedF_len val; omega
  have HE := Lib.hid (show bs (35 :: namedF val) = ⟨#[35]⟩ ++ N by
    rw [← hN]
    show _ = bs [35] ++ bs (namedF val)
    simp only [bs_append]
    simp)
  simp only [hN] at HN
  have k1 : 1 + N.size ≤ 9223372036854775807 := by omega
  have k2 : 1 + N.size + 0 ≤ 9223372036854775807 := by omega
  clear hN hs hz
  have c0 : w0.cell? ⟨S, 0, none⟩ = some (.int .i64 4) := World.objAt.cell H0.out (i := 0) rfl
  have c3 : w0.cell? ⟨S, 3, none⟩ = some (.string val) := World.objAt.cell H0.out (i := 3) rfl
  go_enter Tryz.func25, Tryz.ntmps25
  go_wp2_with fail
  refine (HN.out w0).mono ?_
  rintro e w1 ⟨rfl, hb1⟩
  have HB1 := Lib.hid (HB0.out.trans (hb1.mono HB0.out.size))
  clear hb1 HN
  go_wp2
  go_ret
  refine ⟨?_, HB1.out⟩
  show Ending.returned (.string (⟨#[35]⟩ ++ N)) = _
  rw [← HE.out]
  try rfl
set_option maxRecDepth 100000 in
set_option maxHeartbeats 8000000 in
theorem ws_has (op : Int) (key val : ByteArray) (a b fl sz : Int) (w : World) (hs : key.size ≤ 1000) (hz : ∀ i, i < key.size → nx key i ≠ 0) :
    Calls Tryz.prog 25 #[.agg #[.int .i64 5, .int .i64 1, .string key, .string val, .int .i64 a, .int .i64 b, .int .i64 fl, .int .i64 sz]] w (StrPost (bs (91 :: (namedF key ++ [93]))) w) := by
  have h0 := objAt_alloc_new w #[.int .i64 5, .int .i64 1, .string key, .string val, .int .i64 a, .int .i64 b, .int .i64 fl, .int .i64 sz] 25
  have hb0 : Below w.heap.size w (w.alloc (.cells #[.int .i64 5, .int .i64 1, .string key, .string val, .int .i64 a, .int .i64 b, .int .i64 fl, .int .i64 sz] 25)) := (Below.refl _ _).alloc (Nat.le_refl _) _
  obtain ⟨w0, hw0⟩ : ∃ w0, w.alloc (.cells #[.int .i64 5, .int .i64 1, .string key, .string val, .int .i64 a, .int .i64 b, .int .i64 fl, .int .i64 sz] 25) = w0 := ⟨_, rfl⟩
  obtain ⟨S, hS⟩ : ∃ S, w.heap.size = S := ⟨_, rfl⟩
  rw [hw0] at h0 hb0
  rw [hS] at h0
  have H0 := Lib.hid h0
  have HB0 := Lib.hid hb0
  clear h0 hb0
  have HN := Lib.hid (fun w' => named_any key w' hs hz)
  obtain ⟨N, hN⟩ : ∃ N, bs (namedF key) = N := ⟨_, rfl⟩
  have hNs : N.size ≤ 5000 := by rw [← hN, bs_size]; have := namedF_len key; omega
  have HE := Lib.hid (show bs (91 :: (namedF key ++ [93])) = ⟨#[91]⟩ ++ N ++ ⟨#[93]⟩ by
    rw [← hN]
    show _ = bs [91] ++ bs (namedF key) ++ bs [93]
    simp only [bs_append]
    simp)
  simp only [hN] at HN
  have k1 : 1 + N.size ≤ 9223372036854775807 := by omega
  have k2 : 1 + N.size + 1 ≤ 9223372036854775807 := by omega
  clear hN hs hz
  have c0 : w0.cell? ⟨S, 0, none⟩ = some (.int .i64 5) := World.objAt.cell H0.out (i := 0) rfl
  have c1 : w0.cell? ⟨S, 1, none⟩ = some (.int .i64 1) := World.objAt.cell H0.out (i := 1) rfl
  have c2 : w0.cell? ⟨S, 2, none⟩ = some (.string key) := World.objAt.cell H0.out (i := 2) rfl
  go_enter Tryz.func25, Tryz.ntmps25
  go_wp2_with fail
  refine (HN.out w0).mono ?_
  rintro e w1 ⟨rfl, hb1⟩
  have HB1 := Lib.hid (HB0.out.trans (hb1.mono HB0.out.size))
  clear hb1 HN
  go_wp2
  go_ret
  refine ⟨?_, HB1.out⟩
  show Ending.returned (.string (⟨#[91]⟩ ++ N ++ ⟨#[93]⟩)) = _
  rw [← HE.out]
  try rfl
set_option maxRecDepth 100000 in
set_option maxHeartbeats 8000000 in
theorem ws_lang (op : Int) (key val : ByteArray) (a b fl sz : Int) (w : World) (hs : val.size ≤ 1000) (hz : ∀ i, i < val.size → nx val i ≠ 0) :
    Calls Tryz.prog 25 #[.agg #[.int .i64 15, .int .i64 op, .string key, .string val, .int .i64 a, .int .i64 b, .int .i64 fl, .int .i64 sz]] w (StrPost (bs (58 :: ([108, 97, 110, 103] ++ 40 :: (namedF val ++ [41])))) w) := by
  have h0 := objAt_alloc_new w #[.int .i64 15, .int .i64 op, .string key, .string val, .int .i64 a, .int .i64 b, .int .i64 fl, .int .i64 sz] 25
  have hb0 : Below w.heap.size w (w.alloc (.cells #[.int .i64 15, .int .i64 op, .string key, .string val, .int .i64 a, .int .i64 b, .int .i64 fl, .int .i64 sz] 25)) := (Below.refl _ _).alloc (Nat.le_refl _) _
  obtain ⟨w0, hw0⟩ : ∃ w0, w.alloc (.cells #[.int .i64 15, .int .i64 op, .string key, .string val, .int .i64 a, .int .i64 b, .int .i64 fl, .int .i64 sz] 25) = w0 := ⟨_, rfl⟩
  obtain ⟨S, hS⟩ : ∃ S, w.heap.size = S := ⟨_, rfl⟩
  rw [hw0] at h0 hb0
  rw [hS] at h0
  have H0 := Lib.hid h0
  have HB0 := Lib.hid hb0
  clear h0 hb0
  have HN := Lib.hid (fun w' => named_any val w' hs hz)
  obtain ⟨N, hN⟩ : ∃ N, bs (namedF val) = N := ⟨_, rfl⟩
  have hNs : N.size ≤ 5000 := by rw [← hN, bs_size]; have := namedF_len val; omega
  have HE := Lib.hid (show bs (58 :: ([108, 97, 110, 103] ++ 40 :: (namedF val ++ [41]))) = ⟨#[58, 108, 97, 110, 103, 40]⟩ ++ N ++ ⟨#[41]⟩ by
    rw [← hN]
    show _ = bs [58, 108, 97, 110, 103, 40] ++ bs (namedF val) ++ bs [41]
    simp only [bs_append]
    simp)
  simp only [hN] at HN
  have k1 : 6 + N.size ≤ 9223372036854775807 := by omega
  have k2 : 6 + N.size + 1 ≤ 9223372036854775807 := by omega
  clear hN hs hz
  have c0 : w0.cell? ⟨S, 0, none⟩ = some (.int .i64 15) := World.objAt.cell H0.out (i := 0) rfl
  have c3 : w0.cell? ⟨S, 3, none⟩ = some (.string val) := World.objAt.cell H0.out (i := 3) rfl
  go_enter Tryz.func25, Tryz.ntmps25
  go_wp2_with fail
  refine (HN.out w0).mono ?_
  rintro e w1 ⟨rfl, hb1⟩
  have HB1 := Lib.hid (HB0.out.trans (hb1.mono HB0.out.size))
  clear hb1 HN
  go_wp2
  go_ret
  refine ⟨?_, HB1.out⟩
  show Ending.returned (.string (⟨#[58, 108, 97, 110, 103, 40]⟩ ++ N ++ ⟨#[41]⟩)) = _
  rw [← HE.out]
  try rfl
set_option maxRecDepth 100000 in
set_option maxHeartbeats 8000000 in
theorem ws_con (op : Int) (key val : ByteArray) (a b fl sz : Int) (w : World) (hs : val.size ≤ 1000) (hz : ∀ i, i < val.size → nx val i ≠ 0) :
    Calls Tryz.prog 25 #[.agg #[.int .i64 16, .int .i64 op, .string key, .string val, .int .i64 a, .int .i64 b, .int .i64 fl, .int .i64 sz]] w (StrPost (bs (58 :: ([99, 111, 110, 116, 97, 105, 110, 115] ++ 40 :: (quoL val ++ [41])))) w) := by
  have h0 := objAt_alloc_new w #[.int .i64 16, .int .i64 op, .string key, .string val, .int .i64 a, .int .i64 b, .int .i64 fl, .int .i64 sz] 25
  have hb0 : Below w.heap.size w (w.alloc (.cells #[.int .i64 16, .int .i64 op, .string key, .string val, .int .i64 a, .int .i64 b, .int .i64 fl, .int .i64 sz] 25)) := (Below.refl _ _).alloc (Nat.le_refl _) _
  obtain ⟨w0, hw0⟩ : ∃ w0, w.alloc (.cells #[.int .i64 16, .int .i64 op, .string key, .string val, .int .i64 a, .int .i64 b, .int .i64 fl, .int .i64 sz] 25) = w0 := ⟨_, rfl⟩
  obtain ⟨S, hS⟩ : ∃ S, w.heap.size = S := ⟨_, rfl⟩
  rw [hw0] at h0 hb0
  rw [hS] at h0
  have H0 := Lib.hid h0
  have HB0 := Lib.hid hb0
  clear h0 hb0
  have HN := Lib.hid (fun w' => quoted_any val w' hs hz)
  obtain ⟨N, hN⟩ : ∃ N, bs (quoL val) = N := ⟨_, rfl⟩
  have hNs : N.size ≤ 5000 := by rw [← hN, bs_size]; have := (show (quoL val).length ≤ 2 + 4 * val.size by have := qg_len val val.size; simp [quoL]; omega); omega
  have HE := Lib.hid (show bs (58 :: ([99, 111, 110, 116, 97, 105, 110, 115] ++ 40 :: (quoL val ++ [41]))) = ⟨#[58, 99, 111, 110, 116, 97, 105, 110, 115, 40]⟩ ++ N ++ ⟨#[41]⟩ by
    rw [← hN]
    show _ = bs [58, 99, 111, 110, 116, 97, 105, 110, 115, 40] ++ bs (quoL val) ++ bs [41]
    simp only [bs_append]
    simp)
  simp only [hN] at HN
  have k1 : 10 + N.size ≤ 9223372036854775807 := by omega
  have k2 : 10 + N.size + 1 ≤ 9223372036854775807 := by omega
  clear hN hs hz
  have c0 : w0.cell? ⟨S, 0, none⟩ = some (.int .i64 16) := World.objAt.cell H0.out (i := 0) rfl
  have c3 : w0.cell? ⟨S, 3, none⟩ = some (.string val) := World.objAt.cell H0.out (i := 3) rfl
  go_enter Tryz.func25, Tryz.ntmps25
  go_wp2_with fail
  refine (HN.out w0).mono ?_
  rintro e w1 ⟨rfl, hb1⟩
  have HB1 := Lib.hid (HB0.out.trans (hb1.mono HB0.out.size))
  clear hb1 HN
  go_wp2
  go_ret
  refine ⟨?_, HB1.out⟩
  show Ending.returned (.string (⟨#[58, 99, 111, 110, 116, 97, 105, 110, 115, 40]⟩ ++ N ++ ⟨#[41]⟩)) = _
  rw [← HE.out]
  try rfl
set_option maxRecDepth 100000 in
set_option maxHeartbeats 8000000 in
theorem ws_own (op : Int) (key val : ByteArray) (a b fl sz : Int) (w : World) (hs : val.size ≤ 1000) (hz : ∀ i, i < val.size → nx val i ≠ 0) :
    Calls Tryz.prog 25 #[.agg #[.int .i64 17, .int .i64 op, .string key, .string val, .int .i64 a, .int .i64 b, .int .i64 fl, .int .i64 sz]] w (StrPost (bs (58 :: ([99, 111, 110, 116, 97, 105, 110, 115, 79, 119, 110] ++ 40 :: (quoL val ++ [41])))) w) := by
  have h0 := objAt_alloc_new w #[.int .i64 17, .int .i64 op, .string key, .string val, .int .i64 a, .int .i64 b, .int .i64 fl, .int .i64 sz] 25
  have hb0 : Below w.heap.size w (w.alloc (.cells #[.int .i64 17, .int .i64 op, .string key, .string val, .int .i64 a, .int .i64 b, .int .i64 fl, .int .i64 sz] 25)) := (Below.refl _ _).alloc (Nat.le_refl _) _
  obtain ⟨w0, hw0⟩ : ∃ w0, w.alloc (.cells #[.int .i64 17, .int .i64 op, .string key, .string val, .int .i64 a, .int .i64 b, .int .i64 fl, .int .i64 sz] 25) = w0 := ⟨_, rfl⟩
  obtain ⟨S, hS⟩ : ∃ S, w.heap.size = S := ⟨_, rfl⟩
  rw [hw0] at h0 hb0
  rw [hS] at h0
  have H0 := Lib.hid h0
  have HB0 := Lib.hid hb0
  clear h0 hb0
  have HN := Lib.hid (fun w' => quoted_any val w' hs hz)
  obtain ⟨N, hN⟩ : ∃ N, bs (quoL val) = N := ⟨_, rfl⟩
  have hNs : N.size ≤ 5000 := by rw [← hN, bs_size]; have := (show (quoL val).length ≤ 2 + 4 * val.size by have := qg_len val val.size; simp [quoL]; omega); omega
  have HE := Lib.hid (show bs (58 :: ([99, 111, 110, 116, 97, 105, 110, 115, 79, 119, 110] ++ 40 :: (quoL val ++ [41]))) = ⟨#[58, 99, 111, 110, 116, 97, 105, 110, 115, 79, 119, 110, 40]⟩ ++ N ++ ⟨#[41]⟩ by
    rw [← hN]
    show _ = bs [58, 99, 111, 110, 116, 97, 105, 110, 115, 79, 119, 110, 40] ++ bs (quoL val) ++ bs [41]
    simp only [bs_append]
    simp)
  simp only [hN] at HN
  have k1 : 13 + N.size ≤ 9223372036854775807 := by omega
  have k2 : 13 + N.size + 1 ≤ 9223372036854775807 := by omega
  clear hN hs hz
  have c0 : w0.cell? ⟨S, 0, none⟩ = some (.int .i64 17) := World.objAt.cell H0.out (i := 0) rfl
  have c3 : w0.cell? ⟨S, 3, none⟩ = some (.string val) := World.objAt.cell H0.out (i := 3) rfl
  go_enter Tryz.func25, Tryz.ntmps25
  go_wp2_with fail
  refine (HN.out w0).mono ?_
  rintro e w1 ⟨rfl, hb1⟩
  have HB1 := Lib.hid (HB0.out.trans (hb1.mono HB0.out.size))
  clear hb1 HN
  go_wp2
  go_ret
  refine ⟨?_, HB1.out⟩
  show Ending.returned (.string (⟨#[58, 99, 111, 110, 116, 97, 105, 110, 115, 79, 119, 110, 40]⟩ ++ N ++ ⟨#[41]⟩)) = _
  rw [← HE.out]
  try rfl
set_option maxRecDepth 100000 in
set_option maxHeartbeats 8000000 in
theorem ws_only0 (op : Int) (key val : ByteArray) (a b fl sz : Int) (w : World) :
    Calls Tryz.prog 25 #[.agg #[.int .i64 7, .int .i64 op, .string key, .string val, .int .i64 a, .int .i64 b, .int .i64 0, .int .i64 sz]] w (StrPost (bs (58 :: [111, 110, 108, 121, 45, 99, 104, 105, 108, 100])) w) := by
  have h0 := objAt_alloc_new w #[.int .i64 7, .int .i64 op, .string key, .string val, .int .i64 a, .int .i64 b, .int .i64 0, .int .i64 sz] 25
  have hb0 : Below w.heap.size w (w.alloc (.cells #[.int .i64 7, .int .i64 op, .string key, .string val, .int .i64 a, .int .i64 b, .int .i64 0, .int .i64 sz] 25)) := (Below.refl _ _).alloc (Nat.le_refl _) _
  obtain ⟨w0, hw0⟩ : ∃ w0, w.alloc (.cells #[.int .i64 7, .int .i64 op, .string key, .string val, .int .i64 a, .int .i64 b, .int .i64 0, .int .i64 sz] 25) = w0 := ⟨_, rfl⟩
  obtain ⟨S, hS⟩ : ∃ S, w.heap.size = S := ⟨_, rfl⟩
  rw [hw0] at h0 hb0
  rw [hS] at h0
  have H0 := Lib.hid h0
  have HB0 := Lib.hid hb0
  clear h0 hb0
  have c0 : w0.cell? ⟨S, 0, none⟩ = some (.int .i64 7) := World.objAt.cell H0.out (i := 0) rfl
  have c6 : w0.cell? ⟨S, 6, none⟩ = some (.int .i64 0) := World.objAt.cell H0.out (i := 6) rfl
  have d0 : ∀ o, (w0.alloc o).cell? ⟨S, 0, none⟩ = some (.int .i64 7) := fun o => World.objAt.cell (World.objAt.below H0.out ((Below.refl _ _).alloc (Nat.le_refl _) o) (World.objAt.lt H0.out)) (i := 0) rfl
  have d6 : ∀ o, (w0.alloc o).cell? ⟨S, 6, none⟩ = some (.int .i64 0) := fun o => World.objAt.cell (World.objAt.below H0.out ((Below.refl _ _).alloc (Nat.le_refl _) o) (World.objAt.lt H0.out)) (i := 6) rfl
  go_enter Tryz.func25, Tryz.ntmps25
  go_wp2
  go_ret
  exact ⟨rfl, HB0.out.alloc HB0.out.size _⟩
set_option maxRecDepth 100000 in
set_option maxHeartbeats 8000000 in
theorem ws_only2 (op : Int) (key val : ByteArray) (a b fl sz : Int) (w : World) :
    Calls Tryz.prog 25 #[.agg #[.int .i64 7, .int .i64 op, .string key, .string val, .int .i64 a, .int .i64 b, .int .i64 2, .int .i64 sz]] w (StrPost (bs (58 :: [111, 110, 108, 121, 45, 111, 102, 45, 116, 121, 112, 101])) w) := by
  have h0 := objAt_alloc_new w #[.int .i64 7, .int .i64 op, .string key, .string val, .int .i64 a, .int .i64 b, .int .i64 2, .int .i64 sz] 25
  have hb0 : Below w.heap.size w (w.alloc (.cells #[.int .i64 7, .int .i64 op, .string key, .string val, .int .i64 a, .int .i64 b, .int .i64 2, .int .i64 sz] 25)) := (Below.refl _ _).alloc (Nat.le_refl _) _
  obtain ⟨w0, hw0⟩ : ∃ w0, w.alloc (.cells #[.int .i64 7, .int .i64 op, .string key, .string val, .int .i64 a, .int .i64 b, .int .i64 2, .int .i64 sz] 25) = w0 := ⟨_, rfl⟩
  obtain ⟨S, hS⟩ : ∃ S, w.heap.size = S := ⟨_, rfl⟩
  rw [hw0] at h0 hb0
  rw [hS] at h0
  have H0 := Lib.hid h0
  have HB0 := Lib.hid hb0
  clear h0 hb0
  have c0 : w0.cell? ⟨S, 0, none⟩ = some (.int .i64 7) := World.objAt.cell H0.out (i := 0) rfl
  have c6 : w0.cell? ⟨S, 6, none⟩ = some (.int .i64 2) := World.objAt.cell H0.out (i := 6) rfl
  have d0 : ∀ o, (w0.alloc o).cell? ⟨S, 0, none⟩ = some (.int .i64 7) := fun o => World.objAt.cell (World.objAt.below H0.out ((Below.refl _ _).alloc (Nat.le_refl _) o) (World.objAt.lt H0.out)) (i := 0) rfl
  have d6 : ∀ o, (w0.alloc o).cell? ⟨S, 6, none⟩ = some (.int .i64 2) := fun o => World.objAt.cell (World.objAt.below H0.out ((Below.refl _ _).alloc (Nat.le_refl _) o) (World.objAt.lt H0.out)) (i := 6) rfl
  go_enter Tryz.func25, Tryz.ntmps25
  go_wp2
  go_ret
  exact ⟨rfl, HB0.out.alloc HB0.out.size _⟩
set_option maxRecDepth 100000 in
set_option maxHeartbeats 8000000 in
theorem ws_p8 (op : Int) (key val : ByteArray) (a b fl sz : Int) (w : World) :
    Calls Tryz.prog 25 #[.agg #[.int .i64 8, .int .i64 op, .string key, .string val, .int .i64 a, .int .i64 b, .int .i64 fl, .int .i64 sz]] w (StrPost (bs (58 :: [101, 109, 112, 116, 121])) w) := by
  have h0 := objAt_alloc_new w #[.int .i64 8, .int .i64 op, .string key, .string val, .int .i64 a, .int .i64 b, .int .i64 fl, .int .i64 sz] 25
  have hb0 : Below w.heap.size w (w.alloc (.cells #[.int .i64 8, .int .i64 op, .string key, .string val, .int .i64 a, .int .i64 b, .int .i64 fl, .int .i64 sz] 25)) := (Below.refl _ _).alloc (Nat.le_refl _) _
  obtain ⟨w0, hw0⟩ : ∃ w0, w.alloc (.cells #[.int .i64 8, .int .i64 op, .string key, .string val, .int .i64 a, .int .i64 b, .int .i64 fl, .int .i64 sz] 25) = w0 := ⟨_, rfl⟩
  obtain ⟨S, hS⟩ : ∃ S, w.heap.size = S := ⟨_, rfl⟩
  rw [hw0] at h0 hb0
  rw [hS] at h0
  have H0 := Lib.hid h0
  have HB0 := Lib.hid hb0
  clear h0 hb0
  have c0 : w0.cell? ⟨S, 0, none⟩ = some (.int .i64 8) := World.objAt.cell H0.out (i := 0) rfl
  have d0 : ∀ o, (w0.alloc o).cell? ⟨S, 0, none⟩ = some (.int .i64 8) := fun o => World.objAt.cell (World.objAt.below H0.out ((Below.refl _ _).alloc (Nat.le_refl _) o) (World.objAt.lt H0.out)) (i := 0) rfl
  go_enter Tryz.func25, Tryz.ntmps25
  go_wp2
  go_ret
  exact ⟨rfl, HB0.out.alloc HB0.out.size _⟩
set_option maxRecDepth 100000 in
set_option maxHeartbeats 8000000 in
theorem ws_p9 (op : Int) (key val : ByteArray) (a b fl sz : Int) (w : World) :
    Calls Tryz.prog 25 #[.agg #[.int .i64 9, .int .i64 op, .string key, .string val, .int .i64 a, .int .i64 b, .int .i64 fl, .int .i64 sz]] w (StrPost (bs (58 :: [114, 111, 111, 116])) w) := by
  have h0 := objAt_alloc_new w #[.int .i64 9, .int .i64 op, .string key, .string val, .int .i64 a, .int .i64 b, .int .i64 fl, .int .i64 sz] 25
  have hb0 : Below w.heap.size w (w.alloc (.cells #[.int .i64 9, .int .i64 op, .string key, .string val, .int .i64 a, .int .i64 b, .int .i64 fl, .int .i64 sz] 25)) := (Below.refl _ _).alloc (Nat.le_refl _) _
  obtain ⟨w0, hw0⟩ : ∃ w0, w.alloc (.cells #[.int .i64 9, .int .i64 op, .string key, .string val, .int .i64 a, .int .i64 b, .int .i64 fl, .int .i64 sz] 25) = w0 := ⟨_, rfl⟩
  obtain ⟨S, hS⟩ : ∃ S, w.heap.size = S := ⟨_, rfl⟩
  rw [hw0] at h0 hb0
  rw [hS] at h0
  have H0 := Lib.hid h0
  have HB0 := Lib.hid hb0
  clear h0 hb0
  have c0 : w0.cell? ⟨S, 0, none⟩ = some (.int .i64 9) := World.objAt.cell H0.out (i := 0) rfl
  have d0 : ∀ o, (w0.alloc o).cell? ⟨S, 0, none⟩ = some (.int .i64 9) := fun o => World.objAt.cell (World.objAt.below H0.out ((Below.refl _ _).alloc (Nat.le_refl _) o) (World.objAt.lt H0.out)) (i := 0) rfl
  go_enter Tryz.func25, Tryz.ntmps25
  go_wp2
  go_ret
  exact ⟨rfl, HB0.out.alloc HB0.out.size _⟩
set_option maxRecDepth 100000 in
set_option maxHeartbeats 8000000 in
theorem ws_p10 (op : Int) (key val : ByteArray) (a b fl sz : Int) (w : World) :
    Calls Tryz.prog 25 #[.agg #[.int .i64 10, .int .i64 op, .string key, .string val, .int .i64 a, .int .i64 b, .int .i64 fl, .int .i64 sz]] w (StrPost (bs (58 :: [105, 110, 112, 117, 116])) w) := by
  have h0 := objAt_alloc_new w #[.int .i64 10, .int .i64 op, .string key, .string val, .int .i64 a, .int .i64 b, .int .i64 fl, .int .i64 sz] 25
  have hb0 : Below w.heap.size w (w.alloc (.cells #[.int .i64 10, .int .i64 op, .string key, .string val, .int .i64 a, .int .i64 b, .int .i64 fl, .int .i64 sz] 25)) := (Below.refl _ _).alloc (Nat.le_refl _) _
  obtain ⟨w0, hw0⟩ : ∃ w0, w.alloc (.cells #[.int .i64 10, .int .i64 op, .string key, .string val, .int .i64 a, .int .i64 b, .int .i64 fl, .int .i64 sz] 25) = w0 := ⟨_, rfl⟩
  obtain ⟨S, hS⟩ : ∃ S, w.heap.size = S := ⟨_, rfl⟩
  rw [hw0] at h0 hb0
  rw [hS] at h0
  have H0 := Lib.hid h0
  have HB0 := Lib.hid hb0
  clear h0 hb0
  have c0 : w0.cell? ⟨S, 0, none⟩ = some (.int .i64 10) := World.objAt.cell H0.out (i := 0) rfl
  have d0 : ∀ o, (w0.alloc o).cell? ⟨S, 0, none⟩ = some (.int .i64 10) := fun o => World.objAt.cell (World.objAt.below H0.out ((Below.refl _ _).alloc (Nat.le_refl _) o) (World.objAt.lt H0.out)) (i := 0) rfl
  go_enter Tryz.func25, Tryz.ntmps25
  go_wp2
  go_ret
  exact ⟨rfl, HB0.out.alloc HB0.out.size _⟩
set_option maxRecDepth 100000 in
set_option maxHeartbeats 8000000 in
theorem ws_p11 (op : Int) (key val : ByteArray) (a b fl sz : Int) (w : World) :
    Calls Tryz.prog 25 #[.agg #[.int .i64 11, .int .i64 op, .string key, .string val, .int .i64 a, .int .i64 b, .int .i64 fl, .int .i64 sz]] w (StrPost (bs (58 :: [108, 105, 110, 107])) w) := by
  have h0 := objAt_alloc_new w #[.int .i64 11, .int .i64 op, .string key, .string val, .int .i64 a, .int .i64 b, .int .i64 fl, .int .i64 sz] 25
  have hb0 : Below w.heap.size w (w.alloc (.cells #[.int .i64 11, .int .i64 op, .string key, .string val, .int .i64 a, .int .i64 b, .int .i64 fl, .int .i64 sz] 25)) := (Below.refl _ _).alloc (Nat.le_refl _) _
  obtain ⟨w0, hw0⟩ : ∃ w0, w.alloc (.cells #[.int .i64 11, .int .i64 op, .string key, .string val, .int .i64 a, .int .i64 b, .int .i64 fl, .int .i64 sz] 25) = w0 := ⟨_, rfl⟩
  obtain ⟨S, hS⟩ : ∃ S, w.heap.size = S := ⟨_, rfl⟩
  rw [hw0] at h0 hb0
  rw [hS] at h0
  have H0 := Lib.hid h0
  have HB0 := Lib.hid hb0
  clear h0 hb0
  have c0 : w0.cell? ⟨S, 0, none⟩ = some (.int .i64 11) := World.objAt.cell H0.out (i := 0) rfl
  have d0 : ∀ o, (w0.alloc o).cell? ⟨S, 0, none⟩ = some (.int .i64 11) := fun o => World.objAt.cell (World.objAt.below H0.out ((Below.refl _ _).alloc (Nat.le_refl _) o) (World.objAt.lt H0.out)) (i := 0) rfl
  go_enter Tryz.func25, Tryz.ntmps25
  go_wp2
  go_ret
  exact ⟨rfl, HB0.out.alloc HB0.out.size _⟩
set_option maxRecDepth 100000 in
set_option maxHeartbeats 8000000 in
theorem ws_p12 (op : Int) (key val : ByteArray) (a b fl sz : Int) (w : World) :
    Calls Tryz.prog 25 #[.agg #[.int .i64 12, .int .i64 op, .string key, .string val, .int .i64 a, .int .i64 b, .int .i64 fl, .int .i64 sz]] w (StrPost (bs (58 :: [101, 110, 97, 98, 108, 101, 100])) w) := by
  have h0 := objAt_alloc_new w #[.int .i64 12, .int .i64 op, .string key, .string val, .int .i64 a, .int .i64 b, .int .i64 fl, .int .i64 sz] 25
  have hb0 : Below w.heap.size w (w.alloc (.cells #[.int .i64 12, .int .i64 op, .string key, .string val, .int .i64 a, .int .i64 b, .int .i64 fl, .int .i64 sz] 25)) := (Below.refl _ _).alloc (Nat.le_refl _) _
  obtain ⟨w0, hw0⟩ : ∃ w0, w.alloc (.cells #[.int .i64 12, .int .i64 op, .string key, .string val, .int .i64 a, .int .i64 b, .int .i64 fl, .int .i64 sz] 25) = w0 := ⟨_, rfl⟩
  obtain ⟨S, hS⟩ : ∃ S, w.heap.size = S := ⟨_, rfl⟩
  rw [hw0] at h0 hb0
  rw [hS] at h0
  have H0 := Lib.hid h0
  have HB0 := Lib.hid hb0
  clear h0 hb0
  have c0 : w0.cell? ⟨S, 0, none⟩ = some (.int .i64 12) := World.objAt.cell H0.out (i := 0) rfl
  have d0 : ∀ o, (w0.alloc o).cell? ⟨S, 0, none⟩ = some (.int .i64 12) := fun o => World.objAt.cell (World.objAt.below H0.out ((Below.refl _ _).alloc (Nat.le_refl _) o) (World.objAt.lt H0.out)) (i := 0) rfl
  go_enter Tryz.func25, Tryz.ntmps25
  go_wp2
  go_ret
  exact ⟨rfl, HB0.out.alloc HB0.out.size _⟩
set_option maxRecDepth 100000 in
set_option maxHeartbeats 8000000 in
theorem ws_p13 (op : Int) (key val : ByteArray) (a b fl sz : Int) (w : World) :
    Calls Tryz.prog 25 #[.agg #[.int .i64 13, .int .i64 op, .string key, .string val, .int .i64 a, .int .i64 b, .int .i64 fl, .int .i64 sz]] w (StrPost (bs (58 :: [100, 105, 115, 97, 98, 108, 101, 100])) w) := by
  have h0 := objAt_alloc_new w #[.int .i64 13, .int .i64 op, .string key, .string val, .int .i64 a, .int .i64 b, .int .i64 fl, .int .i64 sz] 25
  have hb0 : Below w.heap.size w (w.alloc (.cells #[.int .i64 13, .int .i64 op, .string key, .string val, .int .i64 a, .int .i64 b, .int .i64 fl, .int .i64 sz] 25)) := (Below.refl _ _).alloc (Nat.le_refl _) _
  obtain ⟨w0, hw0⟩ : ∃ w0, w.alloc (.cells #[.int .i64 13, .int .i64 op, .string key, .string val, .int .i64 a, .int .i64 b, .int .i64 fl, .int .i64 sz] 25) = w0 := ⟨_, rfl⟩
  obtain ⟨S, hS⟩ : ∃ S, w.heap.size = S := ⟨_, rfl⟩
  rw [hw0] at h0 hb0
  rw [hS] at h0
  have H0 := Lib.hid h0
  have HB0 := Lib.hid hb0
  clear h0 hb0
  have c0 : w0.cell? ⟨S, 0, none⟩ = some (.int .i64 13) := World.objAt.cell H0.out (i := 0) rfl
  have d0 : ∀ o, (w0.alloc o).cell? ⟨S, 0, none⟩ = some (.int .i64 13) := fun o => World.objAt.cell (World.objAt.below H0.out ((Below.refl _ _).alloc (Nat.le_refl _) o) (World.objAt.lt H0.out)) (i := 0) rfl
  go_enter Tryz.func25, Tryz.ntmps25
  go_wp2
  go_ret
  exact ⟨rfl, HB0.out.alloc HB0.out.size _⟩
set_option maxRecDepth 100000 in
set_option maxHeartbeats 8000000 in
theorem ws_p14 (op : Int) (key val : ByteArray) (a b fl sz : Int) (w : World) :
    Calls Tryz.prog 25 #[.agg #[.int .i64 14, .int .i64 op, .string key, .string val, .int .i64 a, .int .i64 b, .int .i64 fl, .int .i64 sz]] w (StrPost (bs (58 :: [99, 104, 101, 99, 107, 101, 100])) w) := by
  have h0 := objAt_alloc_new w #[.int .i64 14, .int .i64 op, .string key, .string val, .int .i64 a, .int .i64 b, .int .i64 fl, .int .i64 sz] 25
  have hb0 : Below w.heap.size w (w.alloc (.cells #[.int .i64 14, .int .i64 op, .string key, .string val, .int .i64 a, .int .i64 b, .int .i64 fl, .int .i64 sz] 25)) := (Below.refl _ _).alloc (Nat.le_refl _) _
  obtain ⟨w0, hw0⟩ : ∃ w0, w.alloc (.cells #[.int .i64 14, .int .i64 op, .string key, .string val, .int .i64 a, .int .i64 b, .int .i64 fl, .int .i64 sz] 25) = w0 := ⟨_, rfl⟩
  obtain ⟨S, hS⟩ : ∃ S, w.heap.size = S := ⟨_, rfl⟩
  rw [hw0] at h0 hb0
  rw [hS] at h0
  have H0 := Lib.hid h0
  have HB0 := Lib.hid hb0
  clear h0 hb0
  have c0 : w0.cell? ⟨S, 0, none⟩ = some (.int .i64 14) := World.objAt.cell H0.out (i := 0) rfl
  have d0 : ∀ o, (w0.alloc o).cell? ⟨S, 0, none⟩ = some (.int .i64 14) := fun o => World.objAt.cell (World.objAt.below H0.out ((Below.refl _ _).alloc (Nat.le_refl _) o) (World.objAt.lt H0.out)) (i := 0) rfl
  go_enter Tryz.func25, Tryz.ntmps25
  go_wp2
  go_ret
  exact ⟨rfl, HB0.out.alloc HB0.out.size _⟩
end Go.Proofs.YtoanofdomhnafaaGreatDoor
