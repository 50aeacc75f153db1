/- Parts of a proof: SelFields0. -/
import Derived.Test.YtoanofdomhnafaaGreatDoorG06
import Derived.Test.YtoanofdomhnafaaGreatDoorG08
import Derived.Test.YtoanofdomhnafaaGreatDoorG00
import Derived.Deep.RegionHeld3
set_option linter.unusedVariables false
set_option linter.unusedSimpArgs false
namespace Go.Proofs.YtoanofdomhnafaaGreatDoor
open Go.RowKit
theorem size_of_some {t : ByteArray} (ht : t.toList.isEmpty = false) : 0 < t.size := by
  rw [ByteArray.toList_eq] at ht
  rcases Nat.eq_zero_or_pos t.size with h | h
  · have : t.data.toList = [] := List.eq_nil_of_length_eq_zero (by rw [Array.length_toList]; exact h)
    rw [this] at ht
    cases ht
  · exact h
def FieldsPost (x : SelD) (w : World) (e : Ending) (w' : World) : Prop := ∃ b, (b = true → FieldsOk x) ∧ e = .returned (.bool b) ∧ Hid (Below w.heap.size w w')
set_option maxRecDepth 100000 in
set_option maxHeartbeats 8000000 in
theorem selFields_no (kd_ op_ : Int) (key val : ByteArray) (a_ b_ fl_ sz_ : Int) (w : World) (hk : key.size ≤ 4000) (hv : val.size ≤ 4000) (hr : readF key = false ∨ readF val = false) :
    Calls Tryz.prog 19 #[.agg #[.int .i64 kd_, .int .i64 op_, .string key, .string val, .int .i64 a_, .int .i64 b_, .int .i64 fl_, .int .i64 sz_]] w (FieldsPost ⟨kd_, op_, key, val, a_, b_, fl_, sz_⟩ w) := by
  have h0 := objAt_alloc_new w #[.int .i64 kd_, .int .i64 op_, .string key, .string val, .int .i64 a_, .int .i64 b_, .int .i64 fl_, .int .i64 sz_] 25
  have hb0 : Below w.heap.size w (w.alloc (.cells #[.int .i64 kd_, .int .i64 op_, .string key, .string val, .int .i64 a_, .int .i64 b_, .int .i64 fl_, .int .i64 sz_] 25)) := (Below.refl _ _).alloc (Nat.le_refl _) _
  obtain ⟨w0, hw0⟩ : ∃ w0, w.alloc (.cells #[.int .i64 kd_, .int .i64 op_, .string key, .string val, .int .i64 a_, .int .i64 b_, .int .i64 fl_, .int .i64 sz_] 25) = w0 := ⟨_, rfl⟩
  obtain ⟨S0, hS⟩ : ∃ S0, w.heap.size = S0 := ⟨_, rfl⟩
  rw [hw0] at h0 hb0
  rw [hS] at h0
  have c2 : w0.cell? ⟨S0, 2, none⟩ = some (.string key) := World.objAt.cell h0 (i := 2) rfl
  have c3 : w0.cell? ⟨S0, 3, none⟩ = some (.string val) := World.objAt.cell h0 (i := 3) rfl
  have HB0 := Lib.hid hb0
  have HK := Lib.hid (fun w' => readF_any key w' hk)
  have HV := Lib.hid (fun w' => readF_any val w' hv)
  clear h0 hb0
  obtain ⟨rk, hrk⟩ : ∃ rk, readF key = rk := ⟨_, rfl⟩
  obtain ⟨rv, hrv⟩ : ∃ rv, readF val = rv := ⟨_, rfl⟩
  rw [hrk] at HK hr
  rw [hrv] at HV hr
  clear hrk hrv
  have HKQ := Lib.hid (fun w' => (HK.out w').mono (fun e w'' (h : BoolPost rk w' e w'') => (show e = .returned (.bool rk) ∧ w'' = w' from ⟨h.1, h.2.symm⟩)))
  have HVQ := Lib.hid (fun w' => (HV.out w').mono (fun e w'' (h : BoolPost rv w' e w'') => (show e = .returned (.bool rv) ∧ w'' = w' from ⟨h.1, h.2.symm⟩)))
  cases rk
  · go_enter Tryz.func19, Tryz.ntmps19
    go_wp2
    go_quiet (exact Calls.quiet_of_same (HKQ.out _))
    go_wp2
    go_ret
    exact ⟨false, (fun h => by cases h), rfl, Lib.hid (below_drewN HB0.out nq)⟩
  · obtain rfl : rv = false := by simpa using hr
    clear hr
    go_enter Tryz.func19, Tryz.ntmps19
    go_wp2
    go_quiet (first | with_reducible exact Calls.quiet_of_same (HKQ.out _) | with_reducible exact Calls.quiet_of_same (HVQ.out _))
    go_wp2
    go_ret
    exact ⟨false, (fun h => by cases h), rfl, Lib.hid (below_drewN HB0.out nq)⟩
end Go.Proofs.YtoanofdomhnafaaGreatDoor
