/- cascadia.CountedAlone, impl.CountedAlone; what the counts are to each other. -/
import Derived.Test.YtcnfdakfbglahaaOnlyChild
import Derived.Test.YtcnfdakfbglahaaCountedA
namespace Go.Proofs.Ytcnfdakfbglahaa
open Go.RowKit
set_option linter.unusedVariables false
set_option linter.unusedSimpArgs false

theorem counted_any (kind : Bool) (a : Option Addr) (len cap : Nat) (ss : List ByteArray) (at_ : Nat) (w : World) (h : Strs w a len ss) (hat : at_ < len) (hlen : len ≤ 200) :
    Calls Try.prog 14 #[.slice a len cap, .int .i64 at_, .bool kind] w (OnlyPost (decide (cnt (beside kind ss at_) len = 1)) w) := by
  go_enter Try.func14, Try.ntmps14
  go_wp2_with fail
  refine (brother_any a len cap ss at_ w h hat).mono ?_
  rintro e w1 ⟨rfl, hbro, hbel⟩
  have HB := Lib.hid hbro
  have HBEL := Lib.hid hbel
  clear hbro hbel h
  cases kind
  · go_wp2_with fail
    refine (only_false ss w.heap.size len at_ w1 HB.out hat hlen).mono ?_
    rintro e w2 ⟨rfl, hb2⟩
    have HB2 := Lib.hid hb2
    clear hb2
    go_wp2
    go_ret
    exact ⟨rfl, HBEL.out.trans (HB2.out.mono HBEL.out.size)⟩
  · go_wp2_with fail
    refine (only_true ss w.heap.size len at_ w1 HB.out hat hlen).mono ?_
    rintro e w2 ⟨rfl, hb2⟩
    have HB2 := Lib.hid hb2
    clear hb2
    go_wp2
    go_ret
    exact ⟨rfl, HBEL.out.trans (HB2.out.mono HBEL.out.size)⟩

def CountedPost (v : Bool) (w : World) (e : Ending) (w' : World) : Prop := e = .returned (.tuple #[.bool v, .bool true]) ∧ Below w.heap.size w w'

theorem impl_counted_any (kind : Bool) (a : Option Addr) (len cap : Nat) (ss : List ByteArray) (at_ : Nat) (w : World) (h : Strs w a len ss) (hat : at_ < len) (hlen : len ≤ 200) :
    Calls Try.prog 7 #[.slice a len cap, .int .i64 at_, .int .i64 (if kind then 2 else 0)] w (CountedPost (decide (cnt (beside kind ss at_) len = 1)) w) := by
  have g1 : decide ((at_ : Int) < 0) = false := by simp
  have g2 : decide ((len : Int) ≤ (at_ : Int)) = false := by simp; omega
  have b0 : bits BinOp.and IntKind.i64 0 2 = 0 := by decide
  have b2 : bits BinOp.and IntKind.i64 2 2 = 2 := by decide
  cases kind
  · simp only [Bool.false_eq_true, if_false]
    go_enter Try.func7, Try.ntmps7
    go_wp2_with fail
    refine (counted_any false a len cap ss at_ w h hat hlen).mono ?_
    rintro e w1 ⟨rfl, hb⟩
    have HB := Lib.hid hb
    clear hb
    go_wp2
    go_ret2
    exact ⟨rfl, HB.out⟩
  · simp only [if_true]
    go_enter Try.func7, Try.ntmps7
    go_wp2_with fail
    refine (counted_any true a len cap ss at_ w h hat hlen).mono ?_
    rintro e w1 ⟨rfl, hb⟩
    have HB := Lib.hid hb
    clear hb
    go_wp2
    go_ret2
    exact ⟨rfl, HB.out⟩

/-! ### The plain law -/

theorem count_sum (kind : Bool) (ss : List ByteArray) (at_ m : Nat) :
    cnt (among kind false ss at_) m + cnt (among kind true ss at_) m = cnt (beside kind ss at_) m + if at_ < m then 1 else 0 := by
  induction m with
  | zero => simp [cnt]
  | succ m ih =>
    have hself : beside kind ss m m = true := by simp [beside]
    have e1 : among kind false ss at_ m = (beside kind ss at_ m && decide (m ≤ at_)) := by simp [among, beside]
    have e2 : among kind true ss at_ m = (beside kind ss at_ m && decide (at_ ≤ m)) := by simp [among, beside]
    simp only [cnt, e1, e2]
    by_cases hb : beside kind ss at_ m = true
    · rcases Nat.lt_trichotomy at_ m with h | h | h
      · simp [hb, show ¬ m ≤ at_ by omega, show at_ ≤ m by omega, show at_ < m + 1 by omega]
        rw [if_pos h] at ih
        omega
      · subst h
        simp [hb]
        rw [if_neg (by omega)] at ih
        omega
      · simp [hb, show m ≤ at_ by omega, show ¬ at_ ≤ m by omega, show ¬ at_ < m + 1 by omega]
        rw [if_neg (by omega)] at ih
        omega
    · have hne : at_ ≠ m := fun h => hb (by rw [h]; exact hself)
      have hb' : beside kind ss at_ m = false := by simpa using hb
      simp [hb']
      rw [ih]
      by_cases h : at_ < m
      · rw [if_pos h, if_pos (by omega)]
      · rw [if_neg h, if_neg (by omega)]

theorem cnt_pos {p : Nat → Bool} {k m : Nat} (h : p k = true) (hk : k < m) : 1 ≤ cnt p m := by
  have := cnt_yes h
  have := cnt_mono p (show k + 1 ≤ m from hk)
  omega

theorem counted_law (kind : Bool) (ss : List ByteArray) (at_ len : Nat) (h : at_ < len) :
    decide (cnt (beside kind ss at_) len = 1) = (decide (cnt (among kind false ss at_) len = 1) && decide (cnt (among kind true ss at_) len = 1)) := by
  have hs := count_sum kind ss at_ len
  rw [if_pos h] at hs
  have h1 : 1 ≤ cnt (among kind false ss at_) len := cnt_pos (k := at_) (by simp [among]) h
  have h2 : 1 ≤ cnt (among kind true ss at_) len := cnt_pos (k := at_) (by simp [among]) h
  rw [Bool.eq_iff_iff]
  simp only [decide_eq_true_eq, Bool.and_eq_true]
  omega

end Go.Proofs.Ytcnfdakfbglahaa
