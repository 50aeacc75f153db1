/- spec.sized: where it says yes, every node beneath ends within those that it is beneath. -/
import Derived.Test.YtphppdbhofeagaaDoorNodes
import Derived.BigGuardPart
namespace Go.Proofs.YtphppdbhofeagaaDoor
open Go.RowKit
set_option linter.unusedVariables false
set_option linter.unusedSimpArgs false

/-- A place whose size is right, with all beneath it. -/
def Sz (ts : List NodeD) (j : Nat) : Prop :=
  1 ≤ sz ts j ∧ (ts.getD j default).size = (sz ts j : Int) ∧ ∀ k, j ≤ k → k < j + sz ts j → k + sz ts k ≤ j + sz ts j

def SizedSays (ts : List NodeD) (at_ end_ : Nat) (b : Bool) : Prop :=
  b = true → 1 ≤ sz ts at_ ∧ at_ + sz ts at_ ≤ end_ ∧ ∀ j, at_ ≤ j → j < at_ + sz ts at_ → Sz ts j

theorem sizedSays_false (ts : List NodeD) (at_ end_ : Nat) : SizedSays ts at_ end_ false := by simp [SizedSays]

theorem sized_step {ts : List NodeD} {at_ s k : Nat} (hk : at_ + 1 ≤ k) (hall : ∀ j, at_ + 1 ≤ j → j < k → Sz ts j ∧ j + sz ts j ≤ k)
    (hsub : 1 ≤ sz ts k ∧ k + sz ts k ≤ at_ + s ∧ ∀ j, k ≤ j → j < k + sz ts k → Sz ts j) : ∀ j, at_ + 1 ≤ j → j < k + sz ts k → Sz ts j ∧ j + sz ts j ≤ k + sz ts k := by
  intro j h1 h2
  by_cases h : j < k
  · have := hall j h1 h
    exact ⟨this.1, by omega⟩
  · have hk1 := hsub.1
    have hK := hsub.2.2 k (Nat.le_refl _) (by omega)
    exact ⟨hsub.2.2 j (by omega) h2, hK.2.2 j (by omega) h2⟩

theorem sized_done {ts : List NodeD} {at_ s : Nat} (hs : (ts.getD at_ default).size = (s : Int)) (h1 : 1 ≤ s) (hall : ∀ j, at_ + 1 ≤ j → j < at_ + s → Sz ts j ∧ j + sz ts j ≤ at_ + s) :
    ∀ j, at_ ≤ j → j < at_ + sz ts at_ → Sz ts j := by
  have e : sz ts at_ = s := by unfold sz; rw [hs]; simp
  intro j h2 h3
  by_cases h : j = at_
  · subst h
    refine ⟨by omega, by rw [hs, e], fun k hk1 hk2 => ?_⟩
    by_cases hkj : k = j
    · subst hkj; exact Nat.le_refl _
    · rw [e] at *
      exact (hall k (by omega) hk2).2
  · exact (hall j (by omega) (by omega)).1

set_option maxHeartbeats 1000000 in
theorem sized_any (a : Option Addr) (len cap : Nat) (ts : List NodeD) (d : Nat) : ∀ (at_ end_ : Nat) (w : World), Nodes w a len ts → at_ < len → end_ ≤ len → at_ ≤ end_ → d ≤ 40 →
    Calls Tryd.prog 19 #[.slice a len cap, .int .i64 at_, .int .i64 end_, .int .i64 d] w (SomeBool (SizedSays ts at_ end_) w) := by
  induction d with
  | zero =>
    intro at_ end_ w h hat hend hae _
    have hm := h.len.2
    obtain ⟨b, off, rfl, hc⟩ := h.at (by omega)
    have c4 := (hc at_ hat).size
    clear hc
    go_enter Tryd.func19, Tryd.ntmps19
    go_wp2
    go_ret
    exact ⟨_, sizedSays_false _ _ _, rfl, rfl⟩
  | succ d ih =>
    intro at_ end_ w h hat hend hae hd
    have hm := h.len.2
    have HN := Lib.hid h
    obtain ⟨b, off, rfl, hc⟩ := h.at (by omega)
    have c4 := (hc at_ hat).size
    have g0 : (((d : Int) + 1) == 0) = false := by simp; omega
    rw [show (((d + 1 : Nat) : Int)) = (d : Int) + 1 from by omega]
    have HC := Lib.hid hc
    have IH := Lib.hid ih
    clear h hc ih
    obtain ⟨z, hz⟩ : ∃ z, (ts.getD at_ default).size = z := ⟨_, rfl⟩
    rw [hz] at c4
    have HZ := Lib.hid hz
    clear hz
    by_cases h1 : z < 1
    · go_enter Tryd.func19, Tryd.ntmps19
      go_wp2
      go_ret
      exact ⟨_, sizedSays_false _ _ _, rfl, rfl⟩
    by_cases h2 : (end_ : Int) - at_ < z
    · have h1' : 1 ≤ z := by omega
      have g1 : decide (z < (1 : Int)) = false := by simp; omega
      go_enter Tryd.func19, Tryd.ntmps19
      go_wp2
      all_goals (go_ret; exact ⟨_, sizedSays_false _ _ _, rfl, rfl⟩)
    obtain ⟨s, rfl⟩ := Int.eq_ofNat_of_zero_le (show 0 ≤ z by omega)
    have h1' : 1 ≤ s := by omega
    have h2' : at_ + s ≤ end_ := by omega
    have g1 : decide ((s : Int) < (1 : Int)) = false := by simp; omega
    have g2 : decide ((end_ : Int) - (at_ : Int) < (s : Int)) = false := by simp; omega
    clear h1 h2
    go_enter Tryd.func19, Tryd.ntmps19
    go_wp2
    go_loop [10] (fun i => ∃ k : Nat, at_ + 1 ≤ k ∧ k ≤ at_ + s ∧ i = .int .i64 k ∧ ∀ j, at_ + 1 ≤ j → j < k → Sz ts j ∧ j + sz ts j ≤ k) (fun i => at_ + s - (intOf i).toNat)
    case atStart => exact ⟨at_ + 1, by omega, by omega, by go_num, fun j h1 h2 => by omega⟩
    case round =>
      obtain ⟨k, hk1, hk2, rfl, hall⟩ := hrel
      have HALL := Lib.hid hall
      clear hall
      by_cases hlt : k < at_ + s
      · have c4k := (HC.out k (by omega)).size
        obtain ⟨y, hy⟩ : ∃ y, (ts.getD k default).size = y := ⟨_, rfl⟩
        rw [hy] at c4k
        have HY := Lib.hid hy
        clear hy
        go_wp2_with fail
        have hcall := IH.out k (at_ + s) w HN.out (by omega) (by omega) (by omega) (by omega)
        have ecast : (((at_ + s : Nat) : Int)) = (at_ : Int) + (s : Int) := by omega
        rw [ecast] at hcall
        refine hcall.mono ?_
        clear hcall ecast
        rintro e w' ⟨r, hr, rfl, rfl⟩
        cases r
        · go_wp2
          go_ret
          exact ⟨_, sizedSays_false _ _ _, rfl, rfl⟩
        · have hsub := hr rfl
          have hyk : y = (sz ts k : Int) := by rw [← HY.out]; exact (hsub.2.2 k (Nat.le_refl _) (by omega)).2.1
          have hy1 := hsub.1
          have hy2 := hsub.2.1
          have hnext := sized_step hk1 HALL.out hsub
          have HS := Lib.hid hnext
          clear hnext hsub hr
          rw [hyk] at c4k
          clear hyk HY
          go_wp2
          go_round
          case rel => exact ⟨k + sz ts k, by omega, by omega, by go_num, HS.out⟩
          case measure => simp [intOf]; omega
      · obtain rfl : k = at_ + s := by omega
        have hdone := sized_done HZ.out h1' HALL.out
        have hs : sz ts at_ = s := by unfold sz; rw [HZ.out]; simp
        have HD := Lib.hid (And.intro hs hdone)
        clear hdone hs hlt
        go_wp2
        go_ret
        exact ⟨true, fun _ => ⟨by rw [HD.out.1]; exact h1', by rw [HD.out.1]; exact h2', HD.out.2⟩, rfl, rfl⟩

end Go.Proofs.YtphppdbhofeagaaDoor
