/- The test of :only-child and :only-of-type, of one of some elements with one parent. (Printed by gen_onlychild.py.) -/
import Derived.Test.YtcnfdakfbglahaaBrother
import Derived.Test.YtcnfdakfbglahaaCountedB
import Derived.Deep.LoopGhost
namespace Go.Proofs.Ytcnfdakfbglahaa
open Go.RowKit
set_option linter.unusedVariables false
set_option linter.unusedSimpArgs false

/-- Those that are counted beside an element. -/
def beside (kind : Bool) (ss : List ByteArray) (at_ j : Nat) : Bool := !kind || (ss.getD j ByteArray.empty).toList == (ss.getD at_ ByteArray.empty).toList

theorem cnt_mono (p : Nat → Bool) {j k : Nat} (h : j ≤ k) : cnt p j ≤ cnt p k := by
  induction k with
  | zero => obtain rfl : j = 0 := by omega
            exact Nat.le_refl _
  | succ k ih =>
    rcases Nat.lt_or_ge k j with h1 | h1
    · obtain rfl : j = k + 1 := by omega
      exact Nat.le_refl _
    · have := ih h1
      simp only [cnt]
      omega

def OnlyPost (v : Bool) (w : World) (e : Ending) (w' : World) : Prop := e = .returned (.bool v) ∧ Below w.heap.size w w'

theorem only_more {p : Nat → Bool} {j len : Nat} (h : cnt p j = 1) (hj : j < len) (hp : p j = true) : (decide (cnt p len = 1)) = false := by
  have h1 := cnt_yes hp
  have h2 := cnt_mono p (show j + 1 ≤ len from hj)
  simp; omega

set_option maxHeartbeats 1000000 in
theorem only_false (ss : List ByteArray) (B len at_ : Nat) (w : World) (hb : Bro ss B len w) (hat : at_ < len) (hlen : len ≤ 200) :
    Calls Try.prog 21 #[.agg #[.bool false], .pointer (some ⟨B + 1 + at_, 0, none⟩)] w (OnlyPost (decide (cnt (beside false ss at_) len = 1)) w) := by
  have np := (hb.par).alloc (.cells #[.bool false] 49)
  have nk : ∀ j, j < len → World.nodeAt (w.alloc (.cells #[.bool false] 49)) (B + 1 + j) (kidR ss B len j) := fun j hj => (hb.kid j hj).alloc _
  have p1 := np.fst
  rw [show lk (parR B len).fst = .pointer (some ⟨B + 1, 0, none⟩) by unfold parR; rw [if_neg (by omega)]; rfl] at p1
  have m5 := (nk at_ hat).ty
  have m0 := (nk at_ hat).par
  have m7 := (nk at_ hat).data
  simp only [kidR, lk_some] at m5 m0 m7
  have hbel : Below w.heap.size w (w.alloc (.cells #[.bool false] 49)) := (Below.refl _ _).alloc (Nat.le_refl _) _
  have HBEL := Lib.hid hbel
  have NK := Lib.hid nk
  have hq : ∀ j, beside false ss at_ j = (!false || (ss.getD j ByteArray.empty).toList == (ss.getD at_ ByteArray.empty).toList) := fun j => rfl
  have HQ := Lib.hid hq
  clear nk np hb hbel hq
  obtain ⟨t, ht⟩ : ∃ t, ss.getD at_ ByteArray.empty = t := ⟨_, rfl⟩
  rw [ht] at m7
  have HT := Lib.hid ht
  clear ht
  go_enter Try.func21, Try.ntmps21
  go_wp2
  go_loopg [6, 7] len (fun gk n c wr => ∃ j : Nat, j + gk = len ∧ c = lk (if j < len then some (B + 1 + j) else none) ∧ n = .int .i64 (cnt (beside false ss at_) j) ∧ cnt (beside false ss at_) j ≤ 1 ∧ ∃ d, wr = (w.alloc (.cells #[.bool false] 49)).drewN d)
  case atStart =>
    refine ⟨0, by omega, ?_, rfl, by simp [cnt], 0, rfl⟩
    rw [if_pos (by omega)]; rfl
  case round =>
    obtain ⟨j, hj, rfl, rfl, hle, d, rfl⟩ := hrel
    by_cases hlt : j < len
    · have hgk : 1 ≤ gk := by omega
      have HJ := Lib.hid hj
      clear hj
      have nj := NK.out j hlt
      have k5 := nj.ty
      have k7 := nj.data
      have k4 := nj.nxt
      clear nj
      rw [if_pos hlt, lk_some]
      obtain ⟨s, hs⟩ : ∃ s, ss.getD j ByteArray.empty = s := ⟨_, rfl⟩
      obtain ⟨o, ho⟩ : ∃ o, lk (if j + 1 < len then some (B + 1 + (j + 1)) else none) = .pointer o := ⟨_, (lk_pointer _).choose_spec.1⟩
      simp only [kidR] at k4 k5 k7
      rw [show B + 2 + j = B + 1 + (j + 1) by omega, ho] at k4
      rw [hs] at k7
      have hqj := HQ.out j
      rw [hs, HT.out] at hqj
      have HO := Lib.hid ho
      have HS := Lib.hid hs
      clear ho hs
      have hyes : beside false ss at_ j = true := by rw [hqj]; simp [*]
      have hc1 : cnt (beside false ss at_) (j + 1) = cnt (beside false ss at_) j + 1 := cnt_yes hyes
      by_cases hc0 : cnt (beside false ss at_) j = 1
      · have hdec := only_more hc0 hlt hyes
        have HD := Lib.hid hdec
        have hc0' : 1 ≤ cnt (beside false ss at_) j := by omega
        clear hdec hc1 hyes hqj hc0
        go_wp2
        go_quiet (fail)
        go_wp2
        go_ret
        exact ⟨by rw [HD.out]; rfl, below_drewN HBEL.out _⟩
      · have hc0' : cnt (beside false ss at_) j = 0 := by omega
        have hc2 : cnt (beside false ss at_) (j + 1) ≤ 1 := by omega
        have HC := Lib.hid (And.intro hc1 hc2)
        have hc3 : cnt (beside false ss at_) j < 1 := by omega
        clear hc1 hc2 hyes hqj hc0 hc0'
        go_wp2
        go_quiet (fail)
        go_wp2
        go_roundg (gk - 1)
        case measure => omega
        case rel => exact ⟨j + 1, by have := HJ.out; omega, HO.out.symm, by rw [HC.out.1]; go_num, HC.out.2, _, rfl⟩
    · obtain rfl : len = j := by omega
      rw [if_neg (by omega), lk_none]
      clear hj
      by_cases hc0 : cnt (beside false ss at_) len = 1
      · have hd : (((cnt (beside false ss at_) len : Nat) : Int) == 1) = true := by simp [hc0]
        have hd2 : decide (cnt (beside false ss at_) len = 1) = true := by simp [hc0]
        have HD := Lib.hid hd2
        clear hd2 hc0
        go_wp2
        go_ret
        exact ⟨by rw [HD.out]; rfl, below_drewN HBEL.out _⟩
      · have hd : (((cnt (beside false ss at_) len : Nat) : Int) == 1) = false := by simp; omega
        have hd2 : decide (cnt (beside false ss at_) len = 1) = false := by simp [hc0]
        have HD := Lib.hid hd2
        clear hd2 hc0
        go_wp2
        go_ret
        exact ⟨by rw [HD.out]; rfl, below_drewN HBEL.out _⟩

set_option maxHeartbeats 1000000 in
theorem only_true (ss : List ByteArray) (B len at_ : Nat) (w : World) (hb : Bro ss B len w) (hat : at_ < len) (hlen : len ≤ 200) :
    Calls Try.prog 21 #[.agg #[.bool true], .pointer (some ⟨B + 1 + at_, 0, none⟩)] w (OnlyPost (decide (cnt (beside true ss at_) len = 1)) w) := by
  have np := (hb.par).alloc (.cells #[.bool true] 49)
  have nk : ∀ j, j < len → World.nodeAt (w.alloc (.cells #[.bool true] 49)) (B + 1 + j) (kidR ss B len j) := fun j hj => (hb.kid j hj).alloc _
  have p1 := np.fst
  rw [show lk (parR B len).fst = .pointer (some ⟨B + 1, 0, none⟩) by unfold parR; rw [if_neg (by omega)]; rfl] at p1
  have m5 := (nk at_ hat).ty
  have m0 := (nk at_ hat).par
  have m7 := (nk at_ hat).data
  simp only [kidR, lk_some] at m5 m0 m7
  have hbel : Below w.heap.size w (w.alloc (.cells #[.bool true] 49)) := (Below.refl _ _).alloc (Nat.le_refl _) _
  have HBEL := Lib.hid hbel
  have NK := Lib.hid nk
  have hq : ∀ j, beside true ss at_ j = (!true || (ss.getD j ByteArray.empty).toList == (ss.getD at_ ByteArray.empty).toList) := fun j => rfl
  have HQ := Lib.hid hq
  clear nk np hb hbel hq
  obtain ⟨t, ht⟩ : ∃ t, ss.getD at_ ByteArray.empty = t := ⟨_, rfl⟩
  rw [ht] at m7
  have HT := Lib.hid ht
  clear ht
  go_enter Try.func21, Try.ntmps21
  go_wp2
  go_loopg [6, 7] len (fun gk n c wr => ∃ j : Nat, j + gk = len ∧ c = lk (if j < len then some (B + 1 + j) else none) ∧ n = .int .i64 (cnt (beside true ss at_) j) ∧ cnt (beside true ss at_) j ≤ 1 ∧ ∃ d, wr = (w.alloc (.cells #[.bool true] 49)).drewN d)
  case atStart =>
    refine ⟨0, by omega, ?_, rfl, by simp [cnt], 0, rfl⟩
    rw [if_pos (by omega)]; rfl
  case round =>
    obtain ⟨j, hj, rfl, rfl, hle, d, rfl⟩ := hrel
    by_cases hlt : j < len
    · have hgk : 1 ≤ gk := by omega
      have HJ := Lib.hid hj
      clear hj
      have nj := NK.out j hlt
      have k5 := nj.ty
      have k7 := nj.data
      have k4 := nj.nxt
      clear nj
      rw [if_pos hlt, lk_some]
      obtain ⟨s, hs⟩ : ∃ s, ss.getD j ByteArray.empty = s := ⟨_, rfl⟩
      obtain ⟨o, ho⟩ : ∃ o, lk (if j + 1 < len then some (B + 1 + (j + 1)) else none) = .pointer o := ⟨_, (lk_pointer _).choose_spec.1⟩
      simp only [kidR] at k4 k5 k7
      rw [show B + 2 + j = B + 1 + (j + 1) by omega, ho] at k4
      rw [hs] at k7
      have hqj := HQ.out j
      rw [hs, HT.out] at hqj
      have HO := Lib.hid ho
      have HS := Lib.hid hs
      clear ho hs
      by_cases hst : (s.toList == t.toList) = true
      · have hst2 : (!(s.toList == t.toList)) = false := by rw [hst]; rfl
        have hyes : beside true ss at_ j = true := by rw [hqj]; simp [*]
        have hc1 : cnt (beside true ss at_) (j + 1) = cnt (beside true ss at_) j + 1 := cnt_yes hyes
        by_cases hc0 : cnt (beside true ss at_) j = 1
        · have hdec := only_more hc0 hlt hyes
          have HD := Lib.hid hdec
          have hc0' : 1 ≤ cnt (beside true ss at_) j := by omega
          clear hdec hc1 hyes hqj hc0
          go_wp2
          go_quiet (fail)
          go_wp2
          go_ret
          exact ⟨by rw [HD.out]; rfl, below_drewN HBEL.out _⟩
        · have hc0' : cnt (beside true ss at_) j = 0 := by omega
          have hc2 : cnt (beside true ss at_) (j + 1) ≤ 1 := by omega
          have HC := Lib.hid (And.intro hc1 hc2)
          have hc3 : cnt (beside true ss at_) j < 1 := by omega
          clear hc1 hc2 hyes hqj hc0 hc0'
          go_wp2
          go_quiet (fail)
          go_wp2
          go_roundg (gk - 1)
          case measure => omega
          case rel => exact ⟨j + 1, by have := HJ.out; omega, HO.out.symm, by rw [HC.out.1]; go_num, HC.out.2, _, rfl⟩
      · have hst' : (s.toList == t.toList) = false := by simpa using hst
        have hst2 : (!(s.toList == t.toList)) = true := by rw [hst']; rfl
        clear hst
        have hno : beside true ss at_ j = false := by rw [hqj]; simp [*]
        have hc1 : cnt (beside true ss at_) (j + 1) = cnt (beside true ss at_) j := cnt_no hno
        have HC := Lib.hid hc1
        clear hc1 hno hqj
        go_wp2
        go_quiet (fail)
        go_wp2
        go_roundg (gk - 1)
        case measure => omega
        case rel => exact ⟨j + 1, by have := HJ.out; omega, HO.out.symm, by rw [HC.out], by rw [HC.out]; exact hle, _, rfl⟩
    · obtain rfl : len = j := by omega
      rw [if_neg (by omega), lk_none]
      clear hj
      by_cases hc0 : cnt (beside true ss at_) len = 1
      · have hd : (((cnt (beside true ss at_) len : Nat) : Int) == 1) = true := by simp [hc0]
        have hd2 : decide (cnt (beside true ss at_) len = 1) = true := by simp [hc0]
        have HD := Lib.hid hd2
        clear hd2 hc0
        go_wp2
        go_ret
        exact ⟨by rw [HD.out]; rfl, below_drewN HBEL.out _⟩
      · have hd : (((cnt (beside true ss at_) len : Nat) : Int) == 1) = false := by simp; omega
        have hd2 : decide (cnt (beside true ss at_) len = 1) = false := by simp [hc0]
        have HD := Lib.hid hd2
        clear hd2 hc0
        go_wp2
        go_ret
        exact ⟨by rw [HD.out]; rfl, below_drewN HBEL.out _⟩

end Go.Proofs.Ytcnfdakfbglahaa
