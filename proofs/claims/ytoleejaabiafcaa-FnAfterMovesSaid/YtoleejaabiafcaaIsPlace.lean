/- The law's isPlace: whether a place is in a list. -/
import Derived.Test.YtoleejaabiafcaaInts
namespace Go.Proofs.Ytoleejaabiafcaa
open Go.RowKit
set_option linter.unusedVariables false
set_option linter.unusedSimpArgs false

def IsPlacePost (zs : List Int) (x : Int) (w : World) (e : Ending) (w' : World) : Prop := ∃ b, e = .returned (.bool b) ∧ (b = true ↔ x ∈ zs) ∧ w = w'

set_option maxRecDepth 100000 in
set_option maxHeartbeats 1000000 in
theorem isPlace_any (a : Option Addr) (n cap : Nat) (zs : List Int) (x : Int) (w : World) (h : Ints w a n zs) :
    Calls Try.prog 18 #[.slice a n cap, .int .i64 x] w (IsPlacePost zs x w) := by
  obtain ⟨hl, hm, b, off, ha, hc⟩ := h.open
  have HA := Lib.hid ha
  have HC := Lib.hid hc
  have HL := Lib.hid hl
  clear h ha hc hl
  go_enter Try.func18, Try.ntmps18
  go_wp2
  go_loop [5] (fun i => ∃ k : Nat, k ≤ n ∧ i = .int .i64 (k : Int) ∧ Hid (∀ j, j < k → zs.getD j 0 ≠ x)) (fun i => n - (intOf i).toNat)
  case atStart => exact ⟨0, by omega, by go_num, Lib.hid (fun j hj => by omega)⟩
  case round =>
    obtain ⟨k, hk, rfl, HNO⟩ := hrel
    by_cases hlt : k < n
    · obtain rfl := HA.out (by omega)
      have ck := HC.out k hlt
      have hkI : (k : Int) < (n : Int) := by omega
      obtain ⟨y, hy⟩ : ∃ y, zs.getD k 0 = y := ⟨_, rfl⟩
      rw [hy] at ck
      have HY := Lib.hid hy
      clear hy
      by_cases he : y = x
      · subst he
        have gy : (y == y) = true := by simp
        go_wp2
        go_ret
        refine ⟨true, rfl, ⟨fun _ => ?_, fun _ => rfl⟩, rfl⟩
        rw [← HY.out, List.getD_eq_getElem?_getD, List.getElem?_eq_getElem (by rw [HL.out]; exact hlt)]
        exact List.getElem_mem _
      · have gy : (y == x) = false := by simp [he]
        have HE := Lib.hid he
        clear he
        go_wp2
        go_round
        case rel =>
          refine ⟨k + 1, by omega, by go_num, Lib.hid (fun j hj => ?_)⟩
          by_cases e : j = k
          · subst e; rw [HY.out]; exact HE.out
          · exact HNO.out j (by omega)
        case measure => simp [intOf]; omega
    · obtain rfl : k = n := by omega
      go_wp2
      go_ret
      refine ⟨false, rfl, ⟨fun h => by simp at h, fun hm => ?_⟩, rfl⟩
      obtain ⟨j, hj, rfl⟩ := List.getElem_of_mem hm
      have := HNO.out j (by rw [← HL.out]; exact hj)
      rw [List.getD_eq_getElem?_getD, List.getElem?_eq_getElem hj] at this
      exact absurd rfl this

end Go.Proofs.Ytoleejaabiafcaa
