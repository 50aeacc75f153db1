/- The walk of FnMapBy. -/
import Derived.Test.YtobnglgnoflbnaaMapOf
import Derived.Test.YtobnglgnoflbnaaAsked
import Derived.Test.YtobnglgnoflbnaaStrings
namespace Go.Proofs.Ytobnglgnoflbnaa.lawFnMapBy
open Go.RowKit
set_option linter.unusedVariables false
set_option linter.unusedSimpArgs false

set_option maxRecDepth 100000 in
set_option maxHeartbeats 4000000 in
theorem walk {W : World} (a : Option Addr) (len cap : Nat) (ts : List NodeD) (h : Nodes W a len ts ∧ len ≤ cap ∧ cap ≤ maxLen) (a1 : Option Addr) (n1 c1 : Nat) (z1 : List Int) (h1 : Ints W a1 n1 z1 ∧ n1 ≤ c1 ∧ c1 ≤ maxLen) (a2 : Option Addr) (n2 c2 : Nat) (ss : List ByteArray) (h2 : Strs W a2 n2 ss ∧ ∀ s ∈ ss, s.size ≤ maxLen) :
    Calls Try.prog 7 #[.slice a len cap, .slice a1 n1 c1, .slice a2 n2 c2] W (YesB W) := by
  obtain ⟨hN, hN2⟩ := h
  obtain ⟨h1, hc1⟩ := h1
  obtain ⟨h2, _⟩ := h2
  have hm1 := h1.open.2.1
  have hm2 := h2.len.2
  have hsl := h2.len.1
  have HN := Lib.hid hN
  have H1 := Lib.hid (And.intro h1 hc1)
  have H2 := Lib.hid h2
  clear hN hN2 h1 h2 hc1
  go_enter Try.func7, Try.ntmps7
  go_wp2_with fail
  refine (fits1_any a len cap ts W HN.out).mono ?_
  rintro e w1 ⟨b1, _, rfl, hb1⟩
  have HB1 := Lib.hid hb1
  clear hb1
  cases b1
  · go_wp2
    go_ret
    exact ⟨rfl, HB1.out⟩
  by_cases q1 : (2147483647 : Int) < (n1 : Int)
  · have g1 : decide ((2147483647 : Int) < (n1 : Int)) = true := by simp [q1]
    clear q1
    go_wp2
    go_ret
    exact ⟨rfl, HB1.out⟩
  have g1 : decide ((2147483647 : Int) < (n1 : Int)) = false := by simp [q1]
  clear q1
  go_wp2_with fail
  refine (zzFits8_any a2 n2 c2 ss w1 (H2.out.below HB1.out)).mono ?_
  rintro e w1' ⟨b1, _, rfl, rfl⟩
  cases b1
  · go_wp2
    go_ret
    exact ⟨rfl, HB1.out⟩
  go_wp2_with fail
  refine (asked_any a len cap ts a1 n1 c1 z1 none 0 0 w1 (HN.out.below HB1.out) (H1.out.1.below HB1.out) (by omega)).mono ?_
  rintro e w2 ⟨b2, hb2, rfl, hbel2⟩
  have HB2 := Lib.hid (HB1.out.trans (hbel2.mono HB1.out.size))
  clear hbel2 HB1
  cases b2
  · go_wp2
    go_ret
    exact ⟨rfl, HB2.out⟩
  by_cases q2 : (300 : Int) < (n2 : Int)
  · have g2 : decide ((300 : Int) < (n2 : Int)) = true := by simp [q2]
    clear q2
    go_wp2
    go_ret
    exact ⟨rfl, HB2.out⟩
  have g2 : decide ((300 : Int) < (n2 : Int)) = false := by simp [q2]
  clear q2
  obtain ⟨hR, hO, _⟩ := hb2 rfl
  obtain ⟨l, hp⟩ := hO.places H1.out.1.open.1
  have hl : l.length = n1 := by rw [← hp.len]; exact H1.out.1.open.1
  have HR := Lib.hid hR
  have HP := Lib.hid hp
  clear hb2 hR hO hp
  subst hl
  have hle : l.length ≤ 200 := Nat.le_trans HP.out.le HR.out.le
  have hcall := mapOf_any w2 a len cap ts HR.out (HN.out.below HB2.out) (.slice a1 l.length c1) l (HP.out.reads (H1.out.1.below HB2.out) H1.out.2.1 H1.out.2.2) HP.out.lt HP.out.once hle a2 n2 c2 ss (H2.out.below HB2.out)
  have HCALL := Lib.hid hcall
  clear hcall
  have gl : ((l.length : Int) != (l.length : Int)) = false := by simp
  go_wp2_with fail
  refine HCALL.out.mono ?_
  rintro e w3 ⟨g, rfl, hc3, hb3⟩
  have HB3 := Lib.hid (HB2.out.trans (hb3.out.mono HB2.out.size))
  have hs3 := H2.out.below HB3.out
  have HS3 := Lib.hid hs3
  clear hb3 HCALL HB2 hs3
  go_wp2
  go_loopw [9] (fun i wr => ∃ k : Nat, k ≤ l.length ∧ i = .int .i64 (k : Int) ∧ Below w3.heap.size w3 wr) (fun i _ => l.length - (intOf i).toNat)
  case atStart => exact ⟨0, by omega, by go_num, Below.refl _ _⟩
  case round =>
    obtain ⟨k, hk, rfl, hbel⟩ := hrel
    have HBEL := Lib.hid hbel
    clear hbel
    by_cases hlt : k < l.length
    · have ck := cell_below HBEL.out (hc3.out k hlt)
      have hkI : (k : Int) < (l.length : Int) := by omega
      by_cases h2 : k < n2
      · obtain ⟨b, off, rfl, hc⟩ := (HS3.out.below HBEL.out).at (by omega)
        have ct := hc k h2
        clear hc
        obtain ⟨s, hs⟩ : ∃ s, ss.getD k ByteArray.empty = s := ⟨_, rfl⟩
        rw [hs] at ck ct
        have g3 : decide ((k : Int) < (n2 : Int)) = true := decide_eq_true (by omega)
        have g3I : (k : Int) < (n2 : Int) := by omega
        have g4 : decide ((n2 : Int) ≤ (k : Int)) = false := by simp; omega
        have g4n : decide (n2 ≤ k) = false := by simp; omega
        have g5 : (s.toList != s.toList) = false := by simp
        clear hs h2
        go_wp2
        go_quiet (fail)
        go_wp2
        go_roundw
        case rel => exact ⟨k + 1, by omega, by go_num, below_drewN HBEL.out _⟩
        case measure => simp [intOf]; omega
      · have hs : ss.getD k ByteArray.empty = ByteArray.empty := by rw [List.getD_eq_getElem?_getD, List.getElem?_eq_none (by omega)]; rfl
        rw [hs] at ck
        have g3 : decide ((k : Int) < (n2 : Int)) = false := by simp; omega
        have g4 : decide ((n2 : Int) ≤ (k : Int)) = true := decide_eq_true (by omega)
        have g4n : decide (n2 ≤ k) = true := decide_eq_true (by omega)
        have g4I : (n2 : Int) ≤ (k : Int) := by omega
        have g3n : decide (k < n2) = false := by simp; omega
        clear hs h2
        go_wp2
        go_quiet (fail)
        go_wp2
        go_roundw
        case rel => exact ⟨k + 1, by omega, by go_num, below_drewN HBEL.out _⟩
        case measure => simp [intOf]; omega
    · obtain rfl : k = l.length := by omega
      go_wp2
      go_ret
      exact ⟨rfl, HB3.out.trans (HBEL.out.mono HB3.out.size)⟩

end Go.Proofs.Ytobnglgnoflbnaa.lawFnMapBy
