/- The walk of the law FnEscapedBack: it returns true, and what was there is as it was. -/
import Derived.Test.YtbikpalfhlgnoaaDoorReadNames
import Derived.Test.YtbikpalfhlgnoaaDoorSignedWalk
import Derived.Test.YtbikpalfhlgnoaaDoorEscapeWalk
import Derived.Test.YtbikpalfhlgnoaaDoorPlain
namespace Go.Proofs.YtbikpalfhlgnoaaDoor
open Go.RowKit
set_option linter.unusedVariables false
set_option linter.unusedSimpArgs false
namespace lawFnEscapedBack

theorem back_any (s : ByteArray) (hs : s.size ≤ 1000) (hc : NoCtl s) (hne : s ≠ ByteArray.empty) (w : World) :
    Calls Tryd.prog 13 #[.string (bs (sg s s.size))] w (fun e w' => e = .returned (.tuple #[.string s, .int .i64 ((bs (sg s s.size)).size : Int), .bool true]) ∧ Below w.heap.size w w') := by
  have hsz : (bs (sg s s.size)).size ≤ 4000 := by have := sg_len s s.size; rw [bs_size]; omega
  refine (implName_any _ w hsz).mono ?_
  rintro e w' ⟨hb, ⟨hf, _⟩ | ⟨out, j, ho, _, _, rfl⟩⟩
  · rw [pn_signed s hc] at hf
    rcases hf with hf | ⟨j, hf⟩
    · cases hf
    · simp only [Option.some.injEq, Prod.mk.injEq] at hf
      exact absurd hf.1 hne
  · rw [pn_signed s hc] at ho
    simp only [Option.some.injEq, Prod.mk.injEq] at ho
    obtain ⟨rfl, rfl⟩ := ho
    exact ⟨rfl, hb⟩

set_option maxRecDepth 100000 in
set_option maxHeartbeats 4000000 in
theorem walk {W : World} (s : ByteArray) (hs : s.size ≤ maxLen) : Calls Tryd.prog 6 #[.string s] W (Gives (.bool true) W) := by
  have hs' := hs
  unfold maxLen at hs'
  by_cases q1 : (2147483647 : Int) < (s.size : Int)
  · have g1 : decide ((2147483647 : Int) < (s.size : Int)) = true := by simp [q1]
    have g1n : decide (2147483647 < s.size) = true := by simp; omega
    go_enter Tryd.func6, Tryd.ntmps6
    go_wp2
    go_ret
    exact ⟨rfl, Below.refl _ _⟩
  have g1 : decide ((2147483647 : Int) < (s.size : Int)) = false := by simp [q1]
  have g1n : decide (2147483647 < s.size) = false := by simp; omega
  by_cases q2 : (1000 : Int) < (s.size : Int)
  · have g2 : decide ((1000 : Int) < (s.size : Int)) = true := by simp [q2]
    have g2n : decide (1000 < s.size) = true := by simp; omega
    clear q1 q2
    go_enter Tryd.func6, Tryd.ntmps6
    go_wp2
    go_ret
    exact ⟨rfl, Below.refl _ _⟩
  have g2 : decide ((1000 : Int) < (s.size : Int)) = false := by simp [q2]
  have g2n : decide (1000 < s.size) = false := by simp; omega
  have h1000 : s.size ≤ 1000 := by omega
  clear q1 q2
  cases hem : s.toList.isEmpty
  · have hne := not_empty_of hem
    have HNE := Lib.hid hne
    clear hne
    go_enter Tryd.func6, Tryd.ntmps6
    go_wp2_with fail
    refine (plain_any s W hs).mono ?_
    rintro e w1 ⟨b1, _, rfl, rfl⟩
    cases b1
    · go_wp2_with fail
      go_ret
      exact ⟨rfl, Below.refl _ _⟩
    · go_wp2_with fail
      refine (control_any s W hs).mono ?_
      rintro e w1 ⟨b2, hc, rfl, rfl⟩
      cases b2
      · have HC := Lib.hid (hc rfl)
        have HBK := Lib.hid (back_any s h1000 (hc rfl) HNE.out)
        have HSG := Lib.hid (signed_any s)
        have HES := Lib.hid (escape_any s)
        clear hc
        obtain ⟨t, ht⟩ : ∃ t, bs (sg s s.size) = t := ⟨_, rfl⟩
        rw [ht] at HBK HSG HES
        clear ht
        have e1 : (t.toList == t.toList) = true := by simp
        have e2 : (s.toList == s.toList) = true := by simp
        have e3 : ((t.size : Int) == (t.size : Int)) = true := by simp
        go_wp2_with (first
          | (go_at_call 15; go_in)
          | (go_at_call 28; go_in))
        refine (HES.out _ h1000).mono ?_
        rintro e w1 ⟨rfl, hb1⟩
        have HB1 := Lib.hid hb1
        clear hb1
        go_wp2_with fail
        refine (HBK.out w1).mono ?_
        rintro e w2 ⟨rfl, hb2⟩
        have HB2 := Lib.hid (HB1.out.trans (hb2.mono HB1.out.size))
        clear hb2
        go_wp2_with fail
        refine (HSG.out w2 h1000).mono ?_
        rintro e w3 ⟨rfl, hb3⟩
        have HB3 := Lib.hid (HB2.out.trans (hb3.mono HB2.out.size))
        clear hb3
        go_wp2_with fail
        go_ret
        exact ⟨rfl, HB3.out⟩
      · go_wp2_with fail
        go_ret
        exact ⟨rfl, Below.refl _ _⟩
  · go_enter Tryd.func6, Tryd.ntmps6
    go_wp2
    go_ret
    exact ⟨rfl, Below.refl _ _⟩

end lawFnEscapedBack
end Go.Proofs.YtbikpalfhlgnoaaDoor
