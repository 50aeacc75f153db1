/- Two slices of the same integers. -/
import Derived.Test.YtoleejaabiafcaaEnds
namespace Go.Proofs.Ytoleejaabiafcaa
open Go.RowKit
set_option linter.unusedVariables false
set_option linter.unusedSimpArgs false

theorem OwnZ.ints {w : World} {B : Nat} {v : Value} {l : List Int} (h : OwnZ w B v l) : ∃ a cap, v = .slice a l.length cap ∧ Ints w a l.length l := by
  obtain ⟨a, cap, rfl⟩ := ownsRow_slice h
  refine ⟨a, cap, rfl, ?_⟩
  obtain ⟨a', c', he, _, _, hr⟩ := owns_reads (l := l.map intZ) (by simpa [OwnZ] using h)
  simp at he
  obtain ⟨rfl, rfl⟩ := he
  unfold Ints
  simpa using hr

set_option maxRecDepth 100000 in
set_option maxHeartbeats 1000000 in
theorem sameZ_any (a1 : Option Addr) (c1 : Nat) (a2 : Option Addr) (c2 n : Nat) (l : List Int) (w : World) (h1 : Ints w a1 n l) (h2 : Ints w a2 n l) :
    Calls Try.prog 52 #[.slice a1 n c1, .slice a2 n c2] w (YesB w) := by
  obtain ⟨hl, hm, b1, off1, ha1, hc1⟩ := h1.open
  obtain ⟨_, _, b2, off2, ha2, hc2⟩ := h2.open
  have HA1 := Lib.hid ha1
  have HC1 := Lib.hid hc1
  have HA2 := Lib.hid ha2
  have HC2 := Lib.hid hc2
  clear h1 h2 ha1 ha2 hc1 hc2
  have gl : ((n : Int) != (n : Int)) = false := by simp
  go_enter Try.func52, Try.ntmps52
  go_wp2
  go_loopw [5] (fun i wr => ∃ k : Nat, k ≤ n ∧ i = .int .i64 (k : Int) ∧ Below w.heap.size w wr) (fun i _ => n - (intOf i).toNat)
  case atStart => exact ⟨0, by omega, by go_num, Below.refl _ _⟩
  case round =>
    obtain ⟨k, hk, rfl, hbel⟩ := hrel
    have HBEL := Lib.hid hbel
    clear hbel
    by_cases hlt : k < n
    · obtain rfl := HA1.out (by omega)
      obtain rfl := HA2.out (by omega)
      have ck1 := cell_below HBEL.out (HC1.out k hlt)
      have ck2 := cell_below HBEL.out (HC2.out k hlt)
      obtain ⟨x, hx⟩ : ∃ x, l.getD k 0 = x := ⟨_, rfl⟩
      rw [hx] at ck1 ck2
      have hkI : (k : Int) < (n : Int) := by omega
      have gx : (x != x) = false := by simp
      clear hx
      go_wp2
      go_quiet (fail)
      go_wp2
      go_roundw
      case rel => exact ⟨k + 1, by omega, by go_num, below_drewN HBEL.out _⟩
      case measure => simp [intOf]; omega
    · obtain rfl : k = n := by omega
      go_wp2
      go_ret
      exact ⟨rfl, HBEL.out⟩

end Go.Proofs.Ytoleejaabiafcaa
