/- The walk of FnCountedAlone. -/
import Derived.Test.YtcnfdakfbglahaaCountedC
import Derived.BigGuardPart
namespace Go.Proofs.Ytcnfdakfbglahaa.lawFnCountedAlone
open Go.RowKit
set_option linter.unusedVariables false
set_option linter.unusedSimpArgs false

set_option maxHeartbeats 1000000 in
theorem walk {W : World} (a : Option Addr) (len cap : Nat) (ss : List ByteArray) (h : Strs W a len ss ∧ ∀ s ∈ ss, s.size ≤ maxLen) (at_ : Int) (wat : (Lit.int .i64 at_).wf = true) (kind : Bool) :
    Calls Try.prog 3 #[.slice a len cap, .int .i64 at_, .bool kind] W (OnlyPost true W) := by
  obtain ⟨hs, hz⟩ := h
  have hm := hs.len.2
  have HS := Lib.hid hs
  have HZ := Lib.hid hz
  clear hs hz
  go_enter Try.func3, Try.ntmps3
  go_wp2_with fail
  refine (zzFits8_any a len cap ss W HS.out).mono ?_
  rintro e w1 ⟨b1, _, rfl, rfl⟩
  cases b1
  · go_wp2
    go_ret
    exact ⟨rfl, Below.refl _ _⟩
  go_wp2_with fail
  refine (countable_any a len cap ss at_ W HS.out HZ.out).mono ?_
  rintro e w1 ⟨b2, hb2, rfl, rfl⟩
  cases b2
  · go_wp2
    go_ret
    exact ⟨rfl, Below.refl _ _⟩
  obtain ⟨hlen, hat0, hat1⟩ := hb2 rfl
  clear hb2
  obtain ⟨n, rfl⟩ := Int.eq_ofNat_of_zero_le hat0
  have hn : n < len := by omega
  have hlaw := counted_law kind ss n len hn
  have HL := Lib.hid hlaw
  clear hlaw
  cases kind
  · have bo : bits BinOp.or IntKind.i64 0 1 = 1 := by decide
    have hi := impl_counted_any false a len cap ss n W HS.out hn hlen
    simp only [if_true, Bool.false_eq_true, if_false] at hi
    have HI := Lib.hid hi
    clear hi
    go_wp2_with fail
    refine HI.out.mono ?_
    rintro e w1 ⟨rfl, hb⟩
    have hs1 := HS.out.below hb
    have HB := Lib.hid hb
    have HS1 := Lib.hid hs1
    clear hb hs1
    by_cases h1 : cnt (among false false ss n) len = 1
    · have g1 : (((cnt (among false false ss n) len : Nat) : Int) == 1) = true := by simp [h1]
      have H1 := Lib.hid h1
      clear h1
      go_wp2_with fail
      refine (number_0 a len cap ss n w1 HS1.out hn).mono ?_
      rintro e w2 ⟨rfl, d, rfl⟩
      have hs2 : Strs (w1.drewN d) a len ss := HS1.out.below (below_drewN (Below.refl _ _) d)
      have HS2 := Lib.hid hs2
      clear hs2
      go_wp2_with fail
      refine (number_1 a len cap ss n (w1.drewN d) HS2.out hn).mono ?_
      rintro e w3 ⟨rfl, d2, rfl⟩
      by_cases h2 : cnt (among false true ss n) len = 1
      · have g2 : (((cnt (among false true ss n) len : Nat) : Int) == 1) = true := by simp [h2]
        have hv : decide (cnt (beside false ss n) len = 1) = true := by rw [HL.out, h2, H1.out]; rfl
        rw [hv]
        clear h2 hv
        go_wp2
        go_ret
        exact ⟨rfl, below_drewN HB.out _⟩
      · have g2 : (((cnt (among false true ss n) len : Nat) : Int) == 1) = false := by simp; omega
        have hv : decide (cnt (beside false ss n) len = 1) = false := by rw [HL.out]; simp [h2]
        rw [hv]
        clear h2 hv
        go_wp2
        go_ret
        exact ⟨rfl, below_drewN HB.out _⟩
    · have g1 : (((cnt (among false false ss n) len : Nat) : Int) == 1) = false := by simp; omega
      have hv : decide (cnt (beside false ss n) len = 1) = false := by rw [HL.out]; simp [h1]
      rw [hv]
      clear h1 hv
      go_wp2_with fail
      refine (number_0 a len cap ss n w1 HS1.out hn).mono ?_
      rintro e w2 ⟨rfl, d, rfl⟩
      go_wp2
      go_ret
      exact ⟨rfl, below_drewN HB.out d⟩
  · have bo : bits BinOp.or IntKind.i64 2 1 = 3 := by decide
    have hi := impl_counted_any true a len cap ss n W HS.out hn hlen
    simp only [if_true, Bool.false_eq_true, if_false] at hi
    have HI := Lib.hid hi
    clear hi
    go_wp2_with fail
    refine HI.out.mono ?_
    rintro e w1 ⟨rfl, hb⟩
    have hs1 := HS.out.below hb
    have HB := Lib.hid hb
    have HS1 := Lib.hid hs1
    clear hb hs1
    by_cases h1 : cnt (among true false ss n) len = 1
    · have g1 : (((cnt (among true false ss n) len : Nat) : Int) == 1) = true := by simp [h1]
      have H1 := Lib.hid h1
      clear h1
      go_wp2_with fail
      refine (number_2 a len cap ss n w1 HS1.out hn).mono ?_
      rintro e w2 ⟨rfl, d, rfl⟩
      have hs2 : Strs (w1.drewN d) a len ss := HS1.out.below (below_drewN (Below.refl _ _) d)
      have HS2 := Lib.hid hs2
      clear hs2
      go_wp2_with fail
      refine (number_3 a len cap ss n (w1.drewN d) HS2.out hn).mono ?_
      rintro e w3 ⟨rfl, d2, rfl⟩
      by_cases h2 : cnt (among true true ss n) len = 1
      · have g2 : (((cnt (among true true ss n) len : Nat) : Int) == 1) = true := by simp [h2]
        have hv : decide (cnt (beside true ss n) len = 1) = true := by rw [HL.out, h2, H1.out]; rfl
        rw [hv]
        clear h2 hv
        go_wp2
        go_ret
        exact ⟨rfl, below_drewN HB.out _⟩
      · have g2 : (((cnt (among true true ss n) len : Nat) : Int) == 1) = false := by simp; omega
        have hv : decide (cnt (beside true ss n) len = 1) = false := by rw [HL.out]; simp [h2]
        rw [hv]
        clear h2 hv
        go_wp2
        go_ret
        exact ⟨rfl, below_drewN HB.out _⟩
    · have g1 : (((cnt (among true false ss n) len : Nat) : Int) == 1) = false := by simp; omega
      have hv : decide (cnt (beside true ss n) len = 1) = false := by rw [HL.out]; simp [h1]
      rw [hv]
      clear h1 hv
      go_wp2_with fail
      refine (number_2 a len cap ss n w1 HS1.out hn).mono ?_
      rintro e w2 ⟨rfl, d, rfl⟩
      go_wp2
      go_ret
      exact ⟨rfl, below_drewN HB.out d⟩

end Go.Proofs.Ytcnfdakfbglahaa.lawFnCountedAlone
