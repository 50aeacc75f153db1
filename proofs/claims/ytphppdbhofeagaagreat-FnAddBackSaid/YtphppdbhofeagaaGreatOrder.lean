/- spec.Order. -/
import Derived.Test.YtphppdbhofeagaaGreatInts
namespace Go.Proofs.YtphppdbhofeagaaGreat
open Go.RowKit
set_option linter.unusedVariables false
set_option linter.unusedSimpArgs false

/-- Ascending places below len, up to n. -/
def OrderTo (len : Nat) (zs : List Int) (n : Nat) : Prop := ∀ i, i < n → 0 ≤ zs.getD i 0 ∧ zs.getD i 0 < len ∧ (0 < i → zs.getD (i - 1) 0 < zs.getD i 0)

theorem OrderTo.succ {len : Nat} {zs : List Int} {n : Nat} (h : OrderTo len zs n) (h1 : 0 ≤ zs.getD n 0) (h2 : zs.getD n 0 < len) (h3 : 0 < n → zs.getD (n - 1) 0 < zs.getD n 0) : OrderTo len zs (n + 1) := fun i hi => by
  by_cases e : i = n
  · subst e; exact ⟨h1, h2, h3⟩
  · exact h i (by omega)

set_option maxRecDepth 100000 in
set_option maxHeartbeats 2000000 in
theorem order_any (t : Option Addr) (len cap : Nat) (a : Option Addr) (n ncap : Nat) (zs : List Int) (w : World) (h : Ints w a n zs) :
    Calls Tryz.prog 12 #[.slice t len cap, .slice a n ncap] w (SomeBoolB (fun b => b = true → OrderTo len zs n) w) := by
  obtain ⟨hl, hm, b, off, ha, hc⟩ := h.open
  have HA := Lib.hid ha
  have HC := Lib.hid hc
  clear h ha hc
  go_enter Tryz.func12, Tryz.ntmps12
  go_wp2
  go_loopw [5] (fun i wr => ∃ k : Nat, k ≤ n ∧ i = .int .i64 (k : Int) ∧ OrderTo len zs k ∧ Below w.heap.size w wr) (fun i _ => n - (intOf i).toNat)
  case atStart => exact ⟨0, by omega, by go_num, fun i hi => by omega, Below.refl _ _⟩
  case round =>
    obtain ⟨k, hk, rfl, ho, hbel⟩ := hrel
    have HBEL := Lib.hid hbel
    clear hbel
    have HO := Lib.hid ho
    clear ho
    by_cases hlt : k < n
    · obtain rfl := HA.out (by omega)
      have ck := cell_below HBEL.out (HC.out k hlt)
      have hkI : (k : Int) < (n : Int) := by omega
      obtain ⟨z, hz⟩ : ∃ z, zs.getD k 0 = z := ⟨_, rfl⟩
      rw [hz] at ck
      have HZ := Lib.hid hz
      clear hz
      by_cases b1 : z < 0
      · have g1 : decide (z < 0) = true := by simp [b1]
        clear b1
        go_wp2
        go_quiet (fail)
        go_wp2
        go_ret
        exact ⟨false, by simp, rfl, below_drewN HBEL.out _⟩
      have g1 : decide (z < 0) = false := by simp [b1]
      by_cases b2 : (len : Int) ≤ z
      · have g2 : decide ((len : Int) ≤ z) = true := by simp [b2]
        clear b1 b2
        go_wp2
        go_quiet (fail)
        go_wp2
        go_ret
        exact ⟨false, by simp, rfl, below_drewN HBEL.out _⟩
      have g2 : decide ((len : Int) ≤ z) = false := by simp [b2]
      have H12 := Lib.hid (And.intro b1 b2)
      clear b1 b2
      cases k with
      | zero =>
        have g3 : decide ((0 : Int) < (0 : Int)) = false := by simp
        rw [Nat.add_zero] at ck
        have hkI0 : (0 : Int) < (n : Int) := hkI
        go_wp2
        go_quiet (fail)
        go_wp2
        go_roundw
        case rel => exact ⟨0 + 1, by omega, by go_num, HO.out.succ (by rw [HZ.out]; have := H12.out; omega) (by rw [HZ.out]; have := H12.out; omega) (fun h => absurd h (Nat.lt_irrefl 0)), below_drewN HBEL.out _⟩
        case measure => simp [intOf]; omega
      | succ k =>
        have cp := cell_below HBEL.out (HC.out k (by omega))
        obtain ⟨y, hy⟩ : ∃ y, zs.getD k 0 = y := ⟨_, rfl⟩
        rw [hy] at cp
        have HY := Lib.hid hy
        clear hy
        have hkI' : ((k + 1 : Nat) : Int) = (k : Int) + 1 := by omega
        rw [hkI'] at *
        have g3 : decide ((0 : Int) < (k : Int) + 1) = true := decide_eq_true (by omega)
        have hpI : (k : Int) < (n : Int) := by omega
        by_cases b4 : z ≤ y
        · have g4 : decide (z ≤ y) = true := by simp [b4]
          clear b4
          go_wp2
          go_quiet (fail)
          go_wp2
          go_ret
          exact ⟨false, by simp, rfl, below_drewN HBEL.out _⟩
        · have g4 : decide (z ≤ y) = false := by simp [b4]
          have H4 := Lib.hid b4
          clear b4
          go_wp2
          go_quiet (fail)
          go_wp2
          go_roundw
          case rel => exact ⟨k + 1 + 1, by omega, by go_num, HO.out.succ (by rw [HZ.out]; have := H12.out; omega) (by rw [HZ.out]; have := H12.out; omega) (fun _ => by
            have := H4.out
            rw [HZ.out]
            simp only [Nat.add_sub_cancel]
            rw [HY.out]; omega), below_drewN HBEL.out _⟩
          case measure => simp [intOf]; omega
    · obtain rfl : k = n := by omega
      go_wp2
      go_ret
      exact ⟨true, fun _ => HO.out, rfl, HBEL.out⟩

end Go.Proofs.YtphppdbhofeagaaGreat
