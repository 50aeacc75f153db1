/- NumberAmong, at each of its four flags. (Printed by gen_countedB.py.) -/
import Derived.Test.YtcnfdakfbglahaaStrings
namespace Go.Proofs.Ytcnfdakfbglahaa
open Go.RowKit
set_option linter.unusedVariables false
set_option linter.unusedSimpArgs false

/-- How many numbers below k are as asked. -/
def cnt (p : Nat → Bool) : Nat → Nat
  | 0 => 0
  | k + 1 => cnt p k + if p k then 1 else 0

theorem cnt_le (p : Nat → Bool) (k : Nat) : cnt p k ≤ k := by
  induction k with
  | zero => simp [cnt]
  | succ k ih => simp only [cnt]; split <;> omega

theorem cnt_yes {p : Nat → Bool} {k : Nat} (h : p k = true) : cnt p (k + 1) = cnt p k + 1 := by simp [cnt, h]
theorem cnt_no {p : Nat → Bool} {k : Nat} (h : p k = false) : cnt p (k + 1) = cnt p k := by simp [cnt, h]

/-- What NumberAmong counts. -/
def among (kind last : Bool) (ss : List ByteArray) (at_ i : Nat) : Bool :=
  (!kind || (ss.getD i ByteArray.empty).toList == (ss.getD at_ ByteArray.empty).toList) && (if last then decide (at_ ≤ i) else decide (i ≤ at_))

def Nums (n : Nat) (w : World) (e : Ending) (w' : World) : Prop := e = .returned (.int .i64 n) ∧ ∃ k, w' = w.drewN k

set_option maxHeartbeats 1000000 in
theorem number_0 (a : Option Addr) (len cap : Nat) (ss : List ByteArray) (at_ : Nat) (w : World) (h : Strs w a len ss) (hat : at_ < len) :
    Calls Try.prog 8 #[.slice a len cap, .int .i64 at_, .int .i64 0] w (Nums (cnt (among false false ss at_) len) w) := by
  have hm := h.len.2
  obtain ⟨b, off, rfl, hc⟩ := h.at (by omega)
  have HC := Lib.hid hc
  clear hc
  have hb2 : bits BinOp.and IntKind.i64 0 2 = 0 := by decide
  have hb1 : bits BinOp.and IntKind.i64 0 1 = 0 := by decide
  go_enter Try.func8, Try.ntmps8
  go_wp2
  go_loopw [7, 8] (fun n i wr => ∃ k : Nat, k ≤ len ∧ i = .int .i64 k ∧ n = .int .i64 (cnt (among false false ss at_) k) ∧ ∃ d, wr = w.drewN d) (fun _ i _ => len - (intOf i).toNat)
  case atStart => exact ⟨0, by omega, rfl, rfl, 0, rfl⟩
  case round =>
    obtain ⟨k, hk, rfl, rfl, d, rfl⟩ := hrel
    by_cases hlt : k < len
    · have hck := HC.out k hlt
      have hcat := HC.out at_ hat
      have hcl := cnt_le (among false false ss at_) k
      have hq : among false false ss at_ k = ((!false || (ss.getD k ByteArray.empty).toList == (ss.getD at_ ByteArray.empty).toList) && decide (k ≤ at_)) := by simp [among]
      generalize ss.getD k ByteArray.empty = s at hck hq
      generalize ss.getD at_ ByteArray.empty = t at hcat hq
      by_cases hle : k ≤ at_
      · have g0 : decide ((k : Int) ≤ (at_ : Int)) = true := by simp; omega
        have hc1 : cnt (among false false ss at_) (k + 1) = cnt (among false false ss at_) k + 1 := cnt_yes (by rw [hq]; simp [*]; try omega)
        have HC1 := Lib.hid hc1
        clear hc1 hq
        go_wp2
        go_quiet (fail)
        go_wp2
        go_roundw
        case rel => exact ⟨k + 1, by omega, by go_num, by rw [HC1.out]; try go_num, _, rfl⟩
        case measure => simp [intOf]; omega
      · have g0 : decide ((k : Int) ≤ (at_ : Int)) = false := by simp; omega
        have hc1 : cnt (among false false ss at_) (k + 1) = cnt (among false false ss at_) k := cnt_no (by rw [hq]; simp [*]; try omega)
        have HC1 := Lib.hid hc1
        clear hc1 hq
        go_wp2
        go_quiet (fail)
        go_wp2
        go_roundw
        case rel => exact ⟨k + 1, by omega, by go_num, by rw [HC1.out]; try go_num, _, rfl⟩
        case measure => simp [intOf]; omega
    · obtain rfl : len = k := by omega
      go_wp2
      go_ret
      exact ⟨rfl, d, rfl⟩

set_option maxHeartbeats 1000000 in
theorem number_1 (a : Option Addr) (len cap : Nat) (ss : List ByteArray) (at_ : Nat) (w : World) (h : Strs w a len ss) (hat : at_ < len) :
    Calls Try.prog 8 #[.slice a len cap, .int .i64 at_, .int .i64 1] w (Nums (cnt (among false true ss at_) len) w) := by
  have hm := h.len.2
  obtain ⟨b, off, rfl, hc⟩ := h.at (by omega)
  have HC := Lib.hid hc
  clear hc
  have hb2 : bits BinOp.and IntKind.i64 1 2 = 0 := by decide
  have hb1 : bits BinOp.and IntKind.i64 1 1 = 1 := by decide
  go_enter Try.func8, Try.ntmps8
  go_wp2
  go_loopw [7, 8] (fun n i wr => ∃ k : Nat, k ≤ len ∧ i = .int .i64 k ∧ n = .int .i64 (cnt (among false true ss at_) k) ∧ ∃ d, wr = w.drewN d) (fun _ i _ => len - (intOf i).toNat)
  case atStart => exact ⟨0, by omega, rfl, rfl, 0, rfl⟩
  case round =>
    obtain ⟨k, hk, rfl, rfl, d, rfl⟩ := hrel
    by_cases hlt : k < len
    · have hck := HC.out k hlt
      have hcat := HC.out at_ hat
      have hcl := cnt_le (among false true ss at_) k
      have hq : among false true ss at_ k = ((!false || (ss.getD k ByteArray.empty).toList == (ss.getD at_ ByteArray.empty).toList) && decide (at_ ≤ k)) := by simp [among]
      generalize ss.getD k ByteArray.empty = s at hck hq
      generalize ss.getD at_ ByteArray.empty = t at hcat hq
      by_cases hle : at_ ≤ k
      · have g0 : decide ((at_ : Int) ≤ (k : Int)) = true := by simp; omega
        have hc1 : cnt (among false true ss at_) (k + 1) = cnt (among false true ss at_) k + 1 := cnt_yes (by rw [hq]; simp [*]; try omega)
        have HC1 := Lib.hid hc1
        clear hc1 hq
        go_wp2
        go_quiet (fail)
        go_wp2
        go_roundw
        case rel => exact ⟨k + 1, by omega, by go_num, by rw [HC1.out]; try go_num, _, rfl⟩
        case measure => simp [intOf]; omega
      · have g0 : decide ((at_ : Int) ≤ (k : Int)) = false := by simp; omega
        have hc1 : cnt (among false true ss at_) (k + 1) = cnt (among false true ss at_) k := cnt_no (by rw [hq]; simp [*]; try omega)
        have HC1 := Lib.hid hc1
        clear hc1 hq
        go_wp2
        go_quiet (fail)
        go_wp2
        go_roundw
        case rel => exact ⟨k + 1, by omega, by go_num, by rw [HC1.out]; try go_num, _, rfl⟩
        case measure => simp [intOf]; omega
    · obtain rfl : len = k := by omega
      go_wp2
      go_ret
      exact ⟨rfl, d, rfl⟩

set_option maxHeartbeats 1000000 in
theorem number_2 (a : Option Addr) (len cap : Nat) (ss : List ByteArray) (at_ : Nat) (w : World) (h : Strs w a len ss) (hat : at_ < len) :
    Calls Try.prog 8 #[.slice a len cap, .int .i64 at_, .int .i64 2] w (Nums (cnt (among true false ss at_) len) w) := by
  have hm := h.len.2
  obtain ⟨b, off, rfl, hc⟩ := h.at (by omega)
  have HC := Lib.hid hc
  clear hc
  have hb2 : bits BinOp.and IntKind.i64 2 2 = 2 := by decide
  have hb1 : bits BinOp.and IntKind.i64 2 1 = 0 := by decide
  go_enter Try.func8, Try.ntmps8
  go_wp2
  go_loopw [7, 8] (fun n i wr => ∃ k : Nat, k ≤ len ∧ i = .int .i64 k ∧ n = .int .i64 (cnt (among true false ss at_) k) ∧ ∃ d, wr = w.drewN d) (fun _ i _ => len - (intOf i).toNat)
  case atStart => exact ⟨0, by omega, rfl, rfl, 0, rfl⟩
  case round =>
    obtain ⟨k, hk, rfl, rfl, d, rfl⟩ := hrel
    by_cases hlt : k < len
    · have hck := HC.out k hlt
      have hcat := HC.out at_ hat
      have hcl := cnt_le (among true false ss at_) k
      have hq : among true false ss at_ k = ((!true || (ss.getD k ByteArray.empty).toList == (ss.getD at_ ByteArray.empty).toList) && decide (k ≤ at_)) := by simp [among]
      generalize ss.getD k ByteArray.empty = s at hck hq
      generalize ss.getD at_ ByteArray.empty = t at hcat hq
      by_cases hst : (s.toList == t.toList) = true
      · by_cases hle : k ≤ at_
        · have g0 : decide ((k : Int) ≤ (at_ : Int)) = true := by simp; omega
          have hc1 : cnt (among true false ss at_) (k + 1) = cnt (among true false ss at_) k + 1 := cnt_yes (by rw [hq]; simp [*]; try omega)
          have HC1 := Lib.hid hc1
          clear hc1 hq
          go_wp2
          go_quiet (fail)
          go_wp2
          go_roundw
          case rel => exact ⟨k + 1, by omega, by go_num, by rw [HC1.out]; try go_num, _, rfl⟩
          case measure => simp [intOf]; omega
        · have g0 : decide ((k : Int) ≤ (at_ : Int)) = false := by simp; omega
          have hc1 : cnt (among true false ss at_) (k + 1) = cnt (among true false ss at_) k := cnt_no (by rw [hq]; simp [*]; try omega)
          have HC1 := Lib.hid hc1
          clear hc1 hq
          go_wp2
          go_quiet (fail)
          go_wp2
          go_roundw
          case rel => exact ⟨k + 1, by omega, by go_num, by rw [HC1.out]; try go_num, _, rfl⟩
          case measure => simp [intOf]; omega
      · have hst' : (s.toList == t.toList) = false := by simpa using hst
        clear hst
        have hc1 : cnt (among true false ss at_) (k + 1) = cnt (among true false ss at_) k := cnt_no (by rw [hq]; simp [*]; try omega)
        have HC1 := Lib.hid hc1
        clear hc1 hq
        go_wp2
        go_quiet (fail)
        go_wp2
        go_roundw
        case rel => exact ⟨k + 1, by omega, by go_num, by rw [HC1.out]; try go_num, _, rfl⟩
        case measure => simp [intOf]; omega
    · obtain rfl : len = k := by omega
      go_wp2
      go_ret
      exact ⟨rfl, d, rfl⟩

set_option maxHeartbeats 1000000 in
theorem number_3 (a : Option Addr) (len cap : Nat) (ss : List ByteArray) (at_ : Nat) (w : World) (h : Strs w a len ss) (hat : at_ < len) :
    Calls Try.prog 8 #[.slice a len cap, .int .i64 at_, .int .i64 3] w (Nums (cnt (among true true ss at_) len) w) := by
  have hm := h.len.2
  obtain ⟨b, off, rfl, hc⟩ := h.at (by omega)
  have HC := Lib.hid hc
  clear hc
  have hb2 : bits BinOp.and IntKind.i64 3 2 = 2 := by decide
  have hb1 : bits BinOp.and IntKind.i64 3 1 = 1 := by decide
  go_enter Try.func8, Try.ntmps8
  go_wp2
  go_loopw [7, 8] (fun n i wr => ∃ k : Nat, k ≤ len ∧ i = .int .i64 k ∧ n = .int .i64 (cnt (among true true ss at_) k) ∧ ∃ d, wr = w.drewN d) (fun _ i _ => len - (intOf i).toNat)
  case atStart => exact ⟨0, by omega, rfl, rfl, 0, rfl⟩
  case round =>
    obtain ⟨k, hk, rfl, rfl, d, rfl⟩ := hrel
    by_cases hlt : k < len
    · have hck := HC.out k hlt
      have hcat := HC.out at_ hat
      have hcl := cnt_le (among true true ss at_) k
      have hq : among true true ss at_ k = ((!true || (ss.getD k ByteArray.empty).toList == (ss.getD at_ ByteArray.empty).toList) && decide (at_ ≤ k)) := by simp [among]
      generalize ss.getD k ByteArray.empty = s at hck hq
      generalize ss.getD at_ ByteArray.empty = t at hcat hq
      by_cases hst : (s.toList == t.toList) = true
      · by_cases hle : at_ ≤ k
        · have g0 : decide ((at_ : Int) ≤ (k : Int)) = true := by simp; omega
          have hc1 : cnt (among true true ss at_) (k + 1) = cnt (among true true ss at_) k + 1 := cnt_yes (by rw [hq]; simp [*]; try omega)
          have HC1 := Lib.hid hc1
          clear hc1 hq
          go_wp2
          go_quiet (fail)
          go_wp2
          go_roundw
          case rel => exact ⟨k + 1, by omega, by go_num, by rw [HC1.out]; try go_num, _, rfl⟩
          case measure => simp [intOf]; omega
        · have g0 : decide ((at_ : Int) ≤ (k : Int)) = false := by simp; omega
          have hc1 : cnt (among true true ss at_) (k + 1) = cnt (among true true ss at_) k := cnt_no (by rw [hq]; simp [*]; try omega)
          have HC1 := Lib.hid hc1
          clear hc1 hq
          go_wp2
          go_quiet (fail)
          go_wp2
          go_roundw
          case rel => exact ⟨k + 1, by omega, by go_num, by rw [HC1.out]; try go_num, _, rfl⟩
          case measure => simp [intOf]; omega
      · have hst' : (s.toList == t.toList) = false := by simpa using hst
        clear hst
        have hc1 : cnt (among true true ss at_) (k + 1) = cnt (among true true ss at_) k := cnt_no (by rw [hq]; simp [*]; try omega)
        have HC1 := Lib.hid hc1
        clear hc1 hq
        go_wp2
        go_quiet (fail)
        go_wp2
        go_roundw
        case rel => exact ⟨k + 1, by omega, by go_num, by rw [HC1.out]; try go_num, _, rfl⟩
        case measure => simp [intOf]; omega
    · obtain rfl : len = k := by omega
      go_wp2
      go_ret
      exact ⟨rfl, d, rfl⟩

end Go.Proofs.Ytcnfdakfbglahaa
