/- The walk of the law FnReadInteger: it returns true, and what was there is as it was. -/
import Derived.Test.YtbikpalfhlgnoaaDoorReadIntegers
namespace Go.Proofs.YtbikpalfhlgnoaaDoor
open Go.RowKit
set_option linter.unusedVariables false
set_option linter.unusedSimpArgs false
namespace lawFnReadInteger

set_option maxRecDepth 100000 in
set_option maxHeartbeats 2000000 in
theorem walk {W : World} (s : ByteArray) (hs : s.size ≤ maxLen) : Calls Tryd.prog 3 #[.string s] W (Gives (.bool true) W) := by
  have hs' := hs
  unfold maxLen at hs'
  by_cases q1 : (2147483647 : Int) < (s.size : Int)
  · have g1 : decide ((2147483647 : Int) < (s.size : Int)) = true := by simp [q1]
    have g1n : decide (2147483647 < s.size) = true := by simp; omega
    go_enter Tryd.func3, Tryd.ntmps3
    go_wp2
    go_ret
    exact ⟨rfl, Below.refl _ _⟩
  have g1 : decide ((2147483647 : Int) < (s.size : Int)) = false := by simp [q1]
  have g1n : decide (2147483647 < s.size) = false := by simp; omega
  by_cases q2 : (1000 : Int) < (s.size : Int)
  · have g2 : decide ((1000 : Int) < (s.size : Int)) = true := by simp [q2]
    have g2n : decide (1000 < s.size) = true := by simp; omega
    clear q1 q2
    go_enter Tryd.func3, Tryd.ntmps3
    go_wp2
    go_ret
    exact ⟨rfl, Below.refl _ _⟩
  have g2 : decide ((1000 : Int) < (s.size : Int)) = false := by simp [q2]
  have g2n : decide (1000 < s.size) = false := by simp; omega
  have h1000 : s.size ≤ 1000 := by omega
  clear q1 q2
  go_enter Tryd.func3, Tryd.ntmps3
  go_wp2_with fail
  refine (specInt_any s W hs).mono ?_
  rintro e w1 ⟨D, hd, rfl, hb⟩
  have HE := Lib.hid (And.intro hd hb)
  clear hd hb
  have hle := dval_le s D
  by_cases hsure : dval s D = 100000
  · have g3 : ((dval s D : Int) == 100000) = true := by simp [hsure]
    have HS := Lib.hid hsure
    clear hsure
    go_wp2
    go_ret
    exact ⟨rfl, HE.out.2⟩
  · have g3 : ((dval s D : Int) == 100000) = false := by simp; omega
    have HI := Lib.hid (implInt_any s w1 h1000 (fun D' h' => by have := h'.unique HE.out.1; subst this; omega))
    have HS := Lib.hid hsure
    clear hsure
    go_wp2_with fail
    refine HI.out.mono ?_
    rintro e w2 ⟨D', hd', hb', hcase⟩
    have hD := hd'.unique HE.out.1
    subst hD
    have HF := Lib.hid (HE.out.2.trans (hb'.mono HE.out.2.size))
    clear hd' hb'
    rcases hcase with ⟨h0, rfl⟩ | ⟨h0, rfl⟩
    · subst h0
      go_wp2
      go_ret
      exact ⟨rfl, HF.out⟩
    · have gd : decide (0 < D') = true := by simp [h0]
      have hv : ((dval s D' : Int) == (dval s D' : Int)) = true := by simp
      have hk : ((D' : Int) == (D' : Int)) = true := by simp
      go_wp2
      go_ret
      exact ⟨rfl, HF.out⟩

end lawFnReadInteger
end Go.Proofs.YtbikpalfhlgnoaaDoor
