/- The walk of the law FnNameBack: it returns true, and what was there is as it was. -/
import Derived.Test.YtbikpalfhlgnoaaDoorIdentBig
import Derived.Test.YtbikpalfhlgnoaaDoorReadNames
import Derived.Test.YtbikpalfhlgnoaaDoorNamed
import Derived.Test.YtbikpalfhlgnoaaDoorPlainZero
namespace Go.Proofs.YtbikpalfhlgnoaaDoor
open Go.RowKit
set_option linter.unusedVariables false
set_option linter.unusedSimpArgs false
namespace lawFnNameBack

theorem nameBack_any (s e : ByteArray) (L : Nat) (hs : e.size ≤ 4000) (hp : pn e 0 ByteArray.empty = some (s, L)) (hne : s ≠ ByteArray.empty) (w : World) :
    Calls Tryd.prog 13 #[.string e] w (fun r w' => r = .returned (.tuple #[.string s, .int .i64 (L : Int), .bool true]) ∧ Below w.heap.size w w') := by
  refine (implName_any e w hs).mono ?_
  rintro r w' ⟨hb, ⟨hf, _⟩ | ⟨out, j, ho, _, _, rfl⟩⟩
  · rw [hp] at hf
    rcases hf with hf | ⟨j, hf⟩
    · cases hf
    · simp only [Option.some.injEq, Prod.mk.injEq] at hf
      exact absurd hf.1 hne
  · rw [hp] at ho
    simp only [Option.some.injEq, Prod.mk.injEq] at ho
    obtain ⟨rfl, rfl⟩ := ho
    exact ⟨rfl, hb⟩

theorem identBack_any (s e : ByteArray) (L : Nat) (hs : e.size ≤ 1000 * 5) (hp : pn e 0 ByteArray.empty = some (s, L)) (hst : ∀ m, Hyph e m → startOk e m)
    (himp : ∀ w, Calls Tryd.prog 10 #[.string e] w (ReadIdentPost e w)) (w : World) :
    Calls Tryd.prog 10 #[.string e] w (fun r w' => r = .returned (.tuple #[.string s, .int .i64 (L : Int), .bool true]) ∧ Below w.heap.size w w') := by
  refine (himp w).mono ?_
  rintro r w' ⟨m, hy, hb, ⟨hf, _⟩ | ⟨_, out, j, ho, _, _, rfl⟩⟩
  · exfalso
    have hh := pn_hyph hy
    rw [hp] at hh
    have hs1 := hst m hy
    rcases hf with hf | hf | ⟨j, hf⟩
    · exact hf hs1
    · rw [hf] at hh; cases hh
    · exact pn_begun hs1 hf rfl
  · have hh := pn_hyph hy
    rw [hp, ho] at hh
    simp only [Option.map_some, Option.some.injEq, Prod.mk.injEq] at hh
    rw [hh.1, hh.2]
    exact ⟨rfl, hb⟩

set_option maxRecDepth 100000 in
set_option maxHeartbeats 4000000 in
theorem walk {W : World} (s : ByteArray) (hs : s.size ≤ maxLen) : Calls Tryd.prog 5 #[.string s] W (Gives (.bool true) W) := by
  have hs' := hs
  unfold maxLen at hs'
  by_cases q1 : (2147483647 : Int) < (s.size : Int)
  · have g1 : decide ((2147483647 : Int) < (s.size : Int)) = true := by simp [q1]
    have g1n : decide (2147483647 < s.size) = true := by simp; omega
    go_enter Tryd.func5, Tryd.ntmps5
    go_wp2
    go_ret
    exact ⟨rfl, Below.refl _ _⟩
  have g1 : decide ((2147483647 : Int) < (s.size : Int)) = false := by simp [q1]
  have g1n : decide (2147483647 < s.size) = false := by simp; omega
  by_cases q2 : (1000 : Int) < (s.size : Int)
  · have g2 : decide ((1000 : Int) < (s.size : Int)) = true := by simp [q2]
    have g2n : decide (1000 < s.size) = true := by simp; omega
    clear q1 q2
    go_enter Tryd.func5, Tryd.ntmps5
    go_wp2
    go_ret
    exact ⟨rfl, Below.refl _ _⟩
  have g2 : decide ((1000 : Int) < (s.size : Int)) = false := by simp [q2]
  have g2n : decide (1000 < s.size) = false := by simp; omega
  have h1000 : s.size ≤ 1000 := by omega
  clear q1 q2
  cases hem : s.toList.isEmpty
  · have hne := not_empty_of hem
    have HNE := Lib.hid hne
    clear hne
    go_enter Tryd.func5, Tryd.ntmps5
    go_wp2_with fail
    refine (plainZ_any s W hs).mono ?_
    rintro e w1 ⟨b1, hz, rfl, rfl⟩
    cases b1
    · go_wp2_with fail
      go_ret
      exact ⟨rfl, Below.refl _ _⟩
    · have hz' := hz rfl
      clear hz
      have hsz : 0 < s.size := by
        rcases Nat.eq_zero_or_pos s.size with h | h
        · exact absurd (ByteArray.size_eq_zero_iff.1 h) HNE.out
        · exact h
      have HNM := Lib.hid (fun w' => named_any s w' h1000 hz')
      have hln : (namedF s).length ≤ 4 * s.size := by
        unfold namedF
        split
        · simp; omega
        · exact ng_len s s.size
      have p1 := pn_namedF s [] hz' (.inl rfl)
      have p2 := pn_namedF s [44, 120] hz' (.inr ⟨[120], rfl⟩)
      rw [List.append_nil] at p1
      have hst := fun m hy => named_start (s := s) (tl := [44, 120]) (m := m) hsz hy
      rw [← bs_append] at p2
      have hst' : ∀ m, Hyph (bs (namedF s) ++ bs [44, 120]) m → startOk (bs (namedF s) ++ bs [44, 120]) m := by rw [bs_append]; exact hst
      have hlb : (namedF s).length = (bs (namedF s)).size := (bs_size _).symm
      rw [hlb] at p1 p2 hln
      obtain ⟨t, ht⟩ : ∃ t, bs (namedF s) = t := ⟨_, rfl⟩
      rw [ht] at p1 p2 hst' hln HNM
      have HNB := Lib.hid (nameBack_any s t t.size (by omega) p1 HNE.out)
      have HIB := Lib.hid (identBack_any s (t ++ bs [44, 120]) t.size (by rw [ByteArray.size_append, bs_size]; simp; omega) p2 hst' (fun w' => implIdent_big _ w' (by rw [ByteArray.size_append, bs_size]; simp; omega)))
      clear p1 p2 hst hst' hlb ht hz'
      have e2 : (s.toList == s.toList) = true := by simp
      have e3 : ((t.size : Int) == (t.size : Int)) = true := by simp
      have hcat : t.size + 2 ≤ 9223372036854775807 := by omega
      go_wp2_with fail
      refine (HNM.out _).mono ?_
      rintro e w1 ⟨rfl, hb1⟩
      have HB1 := Lib.hid hb1
      clear hb1
      go_wp2_with fail
      refine (HIB.out w1).mono ?_
      rintro e w2 ⟨rfl, hb2⟩
      have HB2 := Lib.hid (HB1.out.trans (hb2.mono HB1.out.size))
      clear hb2
      go_wp2_with fail
      refine (HNB.out w2).mono ?_
      rintro e w3 ⟨rfl, hb3⟩
      have HB3 := Lib.hid (HB2.out.trans (hb3.mono HB2.out.size))
      clear hb3
      go_wp2_with fail
      go_ret
      exact ⟨rfl, HB3.out⟩
  · go_enter Tryd.func5, Tryd.ntmps5
    go_wp2
    go_ret
    exact ⟨rfl, Below.refl _ _⟩

end lawFnNameBack
end Go.Proofs.YtbikpalfhlgnoaaDoor
