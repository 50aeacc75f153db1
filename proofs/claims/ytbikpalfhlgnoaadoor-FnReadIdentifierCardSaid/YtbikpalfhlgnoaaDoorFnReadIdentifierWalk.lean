/- The walk of the law FnReadIdentifier: it returns true, and what was there is as it was. -/
import Derived.Test.YtbikpalfhlgnoaaDoorReadIdents
namespace Go.Proofs.YtbikpalfhlgnoaaDoor
open Go.RowKit
set_option linter.unusedVariables false
set_option linter.unusedSimpArgs false
namespace lawFnReadIdentifier

set_option maxRecDepth 100000 in
set_option maxHeartbeats 2000000 in
theorem walk {W : World} (s : ByteArray) (hs : s.size ≤ maxLen) : Calls Tryd.prog 4 #[.string s] W (Gives (.bool true) W) := by
  have hs' := hs
  unfold maxLen at hs'
  by_cases q1 : (2147483647 : Int) < (s.size : Int)
  · have g1 : decide ((2147483647 : Int) < (s.size : Int)) = true := by simp [q1]
    have g1n : decide (2147483647 < s.size) = true := by simp; omega
    go_enter Tryd.func4, Tryd.ntmps4
    go_wp2
    go_ret
    exact ⟨rfl, Below.refl _ _⟩
  have g1 : decide ((2147483647 : Int) < (s.size : Int)) = false := by simp [q1]
  have g1n : decide (2147483647 < s.size) = false := by simp; omega
  by_cases q2 : (1000 : Int) < (s.size : Int)
  · have g2 : decide ((1000 : Int) < (s.size : Int)) = true := by simp [q2]
    have g2n : decide (1000 < s.size) = true := by simp; omega
    clear q1 q2
    go_enter Tryd.func4, Tryd.ntmps4
    go_wp2
    go_ret
    exact ⟨rfl, Below.refl _ _⟩
  have g2 : decide ((1000 : Int) < (s.size : Int)) = false := by simp [q2]
  have g2n : decide (1000 < s.size) = false := by simp; omega
  have h1000 : s.size ≤ 1000 := by omega
  clear q1 q2
  go_enter Tryd.func4, Tryd.ntmps4
  go_wp2_with fail
  refine (specIdent_any s W h1000).mono ?_
  rintro e w1 ⟨m, hy, hb, ⟨hns, hef, rfl⟩ | ⟨hm, hse, k, u, out, rfl, hk, hso, hstop⟩⟩
  · obtain ⟨rd, hrd⟩ : ∃ rd, rdF s 0 = rd := ⟨_, rfl⟩
    rw [hrd]
    have HE := Lib.hid (And.intro hy (And.intro hb (And.intro hns hef)))
    clear hy hb hns hef hrd
    cases rd
    · go_wp2
      go_ret
      exact ⟨rfl, HE.out.2.1⟩
    · have HI := Lib.hid (implIdent_any s w1 h1000)
      go_wp2_with fail
      refine HI.out.mono ?_
      rintro e w2 ⟨m', hy', hb', hcase⟩
      have hmm := hy'.unique HE.out.1
      subst hmm
      have HF := Lib.hid (HE.out.2.1.trans (hb'.mono HE.out.2.1.size))
      clear hb'
      rcases hcase with ⟨hbad, rfl⟩ | ⟨hst, o, j, ho, hne, hj, rfl⟩
      · clear hy' hbad
        go_wp2
        go_ret
        exact ⟨rfl, HF.out⟩
      · exfalso
        have h92 : nx s m' = 92 := by
          rcases hst.2 with h | h
          · exact absurd ⟨hst.1, h⟩ HE.out.2.2.1
          · exact h
        rw [pn_none hst.1 h92 (escF_false_none HE.out.2.2.2 h92)] at ho
        cases ho
  · cases u
    · cases hrd : rdF s 0
      · have HB := Lib.hid hb
        clear hy hb hse hso hstop hrd
        obtain ⟨z1, hz1⟩ : ∃ z, (decide (0 < k) && (nx s k != 92)) = z := ⟨_, rfl⟩
        rw [hz1]
        clear hz1
        go_wp2
        go_ret
        exact ⟨rfl, HB.out⟩
      · have hst : startOk s m := ⟨hm, by
          rcases hse with h | h
          · exact .inl h
          · exact .inr (escF_parts h).2.1⟩
        have HST := Lib.hid hst
        have hag := ident_agree hy hst hse hk hso (valid_of hrd) hstop
        have HE := Lib.hid (And.intro hy (And.intro hb hag))
        have HI := Lib.hid (implIdent_any s w1 h1000)
        clear hy hb hse hso hstop hrd hst
        rcases hag with ⟨h92, hnone⟩ | ⟨h92, hk0, o, ho, hne, hout⟩
        · have hz1 : (decide (0 < k) && (nx s k != 92)) = false := by rw [h92]; simp
          rw [hz1]
          have HN := Lib.hid hnone
          clear hz1 h92 hnone
          go_wp2_with fail
          refine HI.out.mono ?_
          rintro e w2 ⟨m', hy', hb', hcase⟩
          have hmm := hy'.unique HE.out.1
          subst hmm
          have HF := Lib.hid (HE.out.2.1.trans (hb'.mono HE.out.2.1.size))
          clear hb'
          rcases hcase with ⟨hbad, rfl⟩ | ⟨hst, o, j, ho, hne, hj, rfl⟩
          · clear hy' hbad
            go_wp2
            go_ret
            exact ⟨rfl, HF.out⟩
          · exfalso
            rw [HN.out] at ho
            cases ho
        · have hz1 : (decide (0 < k) && (nx s k != 92)) = true := by simp [hk0, h92]
          rw [hz1]
          have HN := Lib.hid (And.intro ho (And.intro hne hout))
          clear hz1 h92 ho hne hout hk0
          go_wp2_with fail
          refine HI.out.mono ?_
          rintro e w2 ⟨m', hy', hb', hcase⟩
          have hmm := hy'.unique HE.out.1
          subst hmm
          have HF := Lib.hid (HE.out.2.1.trans (hb'.mono HE.out.2.1.size))
          clear hb'
          rcases hcase with ⟨hbad, rfl⟩ | ⟨hst, o', j, ho, hne, hj, rfl⟩
          · exfalso
            rcases hbad with h | h | ⟨j, h⟩
            · exact h HST.out
            · rw [HN.out.1] at h; cases h
            · rw [HN.out.1] at h
              simp only [Option.some.injEq, Prod.mk.injEq] at h
              exact HN.out.2.1 h.1
          · rw [HN.out.1] at ho
            simp only [Option.some.injEq, Prod.mk.injEq] at ho
            obtain ⟨rfl, rfl⟩ := ho
            rw [← HN.out.2.2]
            clear hy' hst hne
            have e2 : (out.toList == out.toList) = true := by simp
            have e3 : ((k : Int) == (k : Int)) = true := by simp
            go_wp2
            go_ret
            exact ⟨rfl, HF.out⟩
    · have HB := Lib.hid hb
      clear hy hb hse hso hstop
      obtain ⟨z1, hz1⟩ : ∃ z, (decide (0 < k) && (nx s k != 92)) = z := ⟨_, rfl⟩
      rw [hz1]
      clear hz1
      have hz2 : (!true && rdF s 0) = false := by simp
      rw [hz2]
      clear hz2
      go_wp2
      go_ret
      exact ⟨rfl, HB.out⟩

end lawFnReadIdentifier
end Go.Proofs.YtbikpalfhlgnoaaDoor
