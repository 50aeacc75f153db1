/- isInSlice, spec.in: whether a number stands among some. -/
import Derived.Test.YtphppdbhofeagaaGreatPlacesOf
namespace Go.Proofs.YtphppdbhofeagaaGreat
open Go.RowKit
set_option linter.unusedVariables false
set_option linter.unusedSimpArgs false

theorem findI_mem (l : List Nat) (p : Nat) : decide ((-1 : Int) < findI l p) = decide (p ∈ l) := by
  by_cases h : p ∈ l
  · obtain ⟨k, hk, rfl⟩ := List.getElem_of_mem h
    rcases findAt_is (l := l) (b := l[k]) l.length (Nat.le_refl _) with ⟨h1, h2⟩ | ⟨j, h1, _⟩
    · exact absurd (by simp [List.getD, hk]) (h2 k (by omega) hk)
    · unfold findI; rw [h1]; simp; omega
  · rw [findI_none h]; simp [h]

set_option maxRecDepth 100000 in
theorem isIn_any (v : Value) (l : List Nat) (p : Nat) (w : World) (h : PtrsOf w v l) (hal : ∀ i, i < l.length → Alive w (l.getD i 0)) (hp : Alive w p) :
    Calls Tryz.prog 101 #[v, .pointer (some ⟨p, 0, none⟩)] w (BoolPost (decide (p ∈ l)) w) := by
  have hi := index_any v l p w h hal hp
  have hd := findI_mem l p
  obtain ⟨z, hz⟩ : ∃ z, findI l p = z := ⟨_, rfl⟩
  obtain ⟨q, hq⟩ : ∃ q, decide (p ∈ l) = q := ⟨_, rfl⟩
  rw [hz] at hi hd
  rw [hq] at hd ⊢
  have HI := Lib.hid hi
  clear h hal hp hi hz hq
  go_enter Tryz.func101, Tryz.ntmps101
  go_wp2_with fail
  refine HI.out.mono ?_
  rintro e w1 ⟨rfl, rfl⟩
  go_wp2
  go_ret
  exact ⟨by rw [← hd]; rfl, rfl⟩

set_option maxRecDepth 100000 in
set_option maxHeartbeats 1000000 in
theorem specIn_any (v : Value) (l : List Nat) (p : Nat) (w : World) (h : ReadsAs w v (l.map intV)) :
    Calls Tryz.prog 21 #[v, .int .i64 (p : Int)] w (BoolPost (decide (p ∈ l)) w) := by
  obtain ⟨a, cap, b, off, rfl, hm, ha, hc⟩ := ints_open h
  have HA := Lib.hid ha
  have HC := Lib.hid hc
  clear h ha hc
  go_enter Tryz.func21, Tryz.ntmps21
  go_wp2
  go_loop [5] (fun i => ∃ k : Nat, k ≤ l.length ∧ i = .int .i64 (k : Int) ∧ ∀ j, j < k → l.getD j 0 ≠ p) (fun i => l.length - (intOf i).toNat)
  case atStart => exact ⟨0, by omega, by go_num, fun j hj => by omega⟩
  case round =>
    obtain ⟨k, hk, rfl, hd⟩ := hrel
    have HD := Lib.hid hd
    clear hd
    by_cases hlt : k < l.length
    · obtain rfl := HA.out (by omega)
      have ck := HC.out k hlt
      have hmem := getD_mem' (d := 0) hlt
      obtain ⟨x, hx⟩ : ∃ x, l.getD k 0 = x := ⟨_, rfl⟩
      rw [hx] at ck hmem
      have hkI : (k : Int) < (l.length : Int) := by omega
      by_cases he : x = p
      · subst he
        have hq : decide (x ∈ l) = true := by simp [hmem]
        have HQ := Lib.hid hq
        clear hmem hx hq
        go_wp2
        go_ret
        rw [HQ.out]
        exact ⟨rfl, rfl⟩
      · have g : ((x : Int) == (p : Int)) = false := by simp; omega
        have HX := Lib.hid (And.intro hx he)
        clear hx he hmem
        go_wp2
        go_round
        case rel => exact ⟨k + 1, by omega, by go_num, fun j hj => by
            by_cases e : j = k
            · subst e; rw [HX.out.1]; exact HX.out.2
            · exact HD.out j (by omega)⟩
        case measure => simp [intOf]; omega
    · obtain rfl : k = l.length := by omega
      have hq : decide (p ∈ l) = false := by
        simp only [decide_eq_false_iff_not]
        intro hm
        obtain ⟨k, hk, rfl⟩ := List.getElem_of_mem hm
        exact HD.out k hk (by simp [List.getD, hk])
      have HQ := Lib.hid hq
      clear hq
      go_wp2
      go_ret
      rw [HQ.out]
      exact ⟨rfl, rfl⟩

end Go.Proofs.YtphppdbhofeagaaGreat
