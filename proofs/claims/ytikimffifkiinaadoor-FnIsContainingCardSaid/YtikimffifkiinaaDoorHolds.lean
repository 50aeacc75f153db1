/- spec.holds, spec.Holds. -/
import Derived.Test.YtikimffifkiinaaDoorSmall
import Derived.Test.YtikimffifkiinaaDoorSearch
namespace Go.Proofs.YtikimffifkiinaaDoor
open Go.RowKit
set_option linter.unusedVariables false
set_option linter.unusedSimpArgs false

/-- Open; or the texts have no capital letters, and yes or no. -/
def HoldsPost (s p : ByteArray) (w : World) (e : Ending) (w' : World) : Prop :=
  ∃ z : Int, e = .returned (.int .i64 z) ∧ Below w.heap.size w w' ∧ (z = 2 ∨ (NoCap s.data.toList ∧ ((z = 1 ∧ Has s p) ∨ (z = 0 ∧ ¬ Has s p))))

theorem str_eq {r s : ByteArray} (h : (r.toList == s.toList) = true) : r = s := by
  have h := eq_of_beq h
  rw [ByteArray.toList_eq, ByteArray.toList_eq] at h
  exact ByteArray.ext (Array.toList_inj.1 h)

set_option maxRecDepth 100000 in
set_option maxHeartbeats 2000000 in
theorem holds_any (s p : ByteArray) (w : World) (hs : s.size ≤ 4611686018427387904) (hp : p.size ≤ 1000) :
    Calls Tryd.prog 22 #[.string s, .string p] w (HoldsPost s p w) := by
  have ha1 := fun w' => ascii_any s w' (by unfold maxLen; omega)
  have ha2 := fun w' => ascii_any p w' (by unfold maxLen; omega)
  have hs1 := fun w' => small_any s w' hs
  have hs2 := fun w' => small_any p w' (by omega)
  have hin := fun w' => inside_any s p w' hs hp
  have A1 := Lib.hid ha1
  have A2 := Lib.hid ha2
  have S1 := Lib.hid hs1
  have S2 := Lib.hid hs2
  have IN := Lib.hid hin
  clear ha1 ha2 hs1 hs2 hin
  go_enter Tryd.func22, Tryd.ntmps22
  go_wp2_with fail
  refine (A1.out w).mono ?_
  rintro e w1 ⟨b1, _, rfl, rfl⟩
  cases b1
  · go_wp2
    go_ret
    exact ⟨2, rfl, Below.refl _ _, .inl rfl⟩
  go_wp2_with fail
  refine (A2.out w).mono ?_
  rintro e w1 ⟨b1, _, rfl, rfl⟩
  cases b1
  · go_wp2
    go_ret
    exact ⟨2, rfl, Below.refl _ _, .inl rfl⟩
  go_wp2_with fail
  refine (S1.out w).mono ?_
  rintro e w1 ⟨r1, rfl, hr1, hb1⟩
  have HR := Lib.hid hr1
  have HB := Lib.hid hb1
  clear hr1 hb1
  cases he : (r1.toList == s.toList)
  · have he' : (r1.toList != s.toList) = true := by simp [bne, he]
    go_wp2
    go_ret
    exact ⟨2, rfl, HB.out, .inl rfl⟩
  have he' : (r1.toList != s.toList) = false := by simp [bne, he]
  have HC := Lib.hid (HR.out (str_eq he))
  clear HR
  go_wp2_with fail
  refine (S2.out w1).mono ?_
  rintro e w2 ⟨r2, rfl, _, hb2⟩
  have HB2 := Lib.hid (HB.out.trans (hb2.mono HB.out.size))
  clear hb2
  cases he2 : (r2.toList == p.toList)
  · have he2' : (r2.toList != p.toList) = true := by simp [bne, he2]
    go_wp2
    go_ret
    exact ⟨2, rfl, HB2.out, .inl rfl⟩
  have he2' : (r2.toList != p.toList) = false := by simp [bne, he2]
  cases hE : p.toList.isEmpty
  rotate_left
  · clear he
    go_wp2
    go_ret
    exact ⟨2, rfl, HB2.out, .inl rfl⟩
  clear he
  go_wp2_with fail
  refine (IN.out w2).mono ?_
  rintro e w3 ⟨b, hb, rfl, rfl⟩
  have HH := Lib.hid hb
  clear hb
  go_wp2_with fail
  refine (truth_any b w2).mono ?_
  rintro e w4 ⟨rfl, rfl⟩
  cases b
  · go_wp2
    go_ret
    refine ⟨0, rfl, HB2.out, .inr ⟨HC.out, .inr ⟨rfl, fun h => ?_⟩⟩⟩
    have := HH.out.2 h
    cases this
  · go_wp2
    go_ret
    exact ⟨1, rfl, HB2.out, .inr ⟨HC.out, .inl ⟨rfl, HH.out.1 (by first | rfl | trivial)⟩⟩⟩

set_option maxRecDepth 100000 in
theorem holdsDoor_any (s p : ByteArray) (w : World) (hs : s.size ≤ 4611686018427387904) (hp : p.size ≤ 1000) :
    Calls Tryd.prog 13 #[.string s, .string p] w (HoldsPost s p w) := by
  have hh := holds_any s p w hs hp
  have HH := Lib.hid hh
  clear hh
  go_enter Tryd.func13, Tryd.ntmps13
  go_wp2_with fail
  refine HH.out.mono ?_
  rintro e w1 ⟨z, rfl, hb, hz⟩
  have HB := Lib.hid (And.intro hb hz)
  clear hb hz
  go_wp2
  go_ret
  exact ⟨z, rfl, HB.out.1, HB.out.2⟩

end Go.Proofs.YtikimffifkiinaaDoor
