/- The walk of the law FnClosestOf: it returns true, and what was there is as it was. -/
import Derived.Test.YtobnglgnoflbnaaNearest
import Derived.Test.YtobnglgnoflbnaaSelection
import Derived.Test.YtobnglgnoflbnaaFits
import Derived.BigGuardPart
namespace Go.Proofs.Ytobnglgnoflbnaa
open Go.RowKit
set_option linter.unusedVariables false
set_option linter.unusedSimpArgs false
namespace lawFnClosestOf

set_option maxRecDepth 100000 in
set_option maxHeartbeats 4000000 in
theorem walk {W : World} (a : Option Addr) (len cap : Nat) (ts : List NodeD) (h : Nodes W a len ts ∧ len ≤ cap ∧ cap ≤ maxLen) (a1 : Option Addr) (n1 c1 : Nat) (z1 : List Int) (h1 : Ints W a1 n1 z1 ∧ n1 ≤ c1 ∧ c1 ≤ maxLen) (a2 : Option Addr) (n2 c2 : Nat) (z2 : List Int) (h2 : Ints W a2 n2 z2 ∧ n2 ≤ c2 ∧ c2 ≤ maxLen) :
    Calls Try.prog 11 #[.slice a len cap, .slice a1 n1 c1, .slice a2 n2 c2] W (YesB W) := by
  obtain ⟨hN, hN2⟩ := h
  obtain ⟨h1, hc1⟩ := h1
  obtain ⟨h2, hc2⟩ := h2
  have hm1 := h1.open.2.1
  have hm2 := h2.open.2.1
  have HN := Lib.hid hN
  have H1 := Lib.hid (And.intro h1 hc1)
  have H2 := Lib.hid (And.intro h2 hc2)
  clear hN hN2 h1 h2 hc1 hc2
  go_enter Try.func11, Try.ntmps11
  go_wp2_with fail
  refine (fits1_any a len cap ts W HN.out).mono ?_
  rintro e w1 ⟨b1, _, rfl, hb1⟩
  have HB1 := Lib.hid hb1
  clear hb1
  cases b1
  · go_wp2
    go_ret
    exact ⟨rfl, HB1.out⟩
  by_cases q1 : (2147483647 : Int) < (n1 : Int)
  · have g1 : decide ((2147483647 : Int) < (n1 : Int)) = true := by simp [q1]
    clear q1
    go_wp2
    go_ret
    exact ⟨rfl, HB1.out⟩
  have g1 : decide ((2147483647 : Int) < (n1 : Int)) = false := by simp [q1]
  clear q1
  by_cases q2 : (2147483647 : Int) < (n2 : Int)
  · have g2 : decide ((2147483647 : Int) < (n2 : Int)) = true := by simp [q2]
    clear q2
    go_wp2
    go_ret
    exact ⟨rfl, HB1.out⟩
  have g2 : decide ((2147483647 : Int) < (n2 : Int)) = false := by simp [q2]
  clear q2
  go_wp2_with fail
  refine (some_any a len cap ts a1 n1 c1 z1 a2 n2 c2 z2 w1 (HN.out.below HB1.out) (H1.out.1.below HB1.out) (H2.out.1.below HB1.out)).mono ?_
  rintro e w2 ⟨b2, hb2, rfl, hbel2⟩
  have HB2 := Lib.hid (HB1.out.trans (hbel2.mono HB1.out.size))
  clear hbel2 HB1
  cases b2
  · go_wp2
    go_ret
    exact ⟨rfl, HB2.out⟩
  obtain ⟨hs1, hs2⟩ := hb2 rfl
  obtain ⟨hR, hO1, _⟩ := hs1 rfl
  obtain ⟨_, hO2, _⟩ := hs2 rfl
  obtain ⟨l1, hp1⟩ := hO1.places H1.out.1.open.1
  obtain ⟨l2, hp2⟩ := hO2.places H2.out.1.open.1
  have hl1 : l1.length = n1 := by rw [← hp1.len]; exact H1.out.1.open.1
  have hl2 : l2.length = n2 := by rw [← hp2.len]; exact H2.out.1.open.1
  have HR := Lib.hid hR
  have HP1 := Lib.hid hp1
  have HP2 := Lib.hid hp2
  clear hb2 hs1 hs2 hR hO1 hO2 hp1 hp2
  subst hl1 hl2
  have hle1 : l1.length ≤ 200 := Nat.le_trans HP1.out.le HR.out.le
  have hle2 : l2.length ≤ 200 := Nat.le_trans HP2.out.le HR.out.le
  have r1 := fun (w : World) (hb : Below W.heap.size W w) => HP1.out.reads (H1.out.1.below hb) H1.out.2.1 H1.out.2.2
  have r2 := fun (w : World) (hb : Below W.heap.size W w) => HP2.out.reads (H2.out.1.below hb) H2.out.2.1 H2.out.2.2
  have hcall := implClosestOf_any w2 a len cap ts HR.out (HN.out.below HB2.out) (.slice a1 l1.length c1) (.slice a2 l2.length c2) l1 l2 (r1 _ HB2.out) (r2 _ HB2.out) HP1.out.lt HP2.out.lt HP1.out.once hle1 hle2
  have hthose := fun (w : World) (hb : Below W.heap.size W w) => nearest_any a len cap ts (.slice a1 l1.length c1) (.slice a2 l2.length c2) l1 l2 w HR.out (HN.out.below hb) (r1 w hb) (r2 w hb) HP1.out.lt hle1
  obtain ⟨K, hK⟩ : ∃ K, onceF (stepL (nearOf ts l2) l1) = K := ⟨_, rfl⟩
  rw [hK] at hcall hthose
  have HCALL := Lib.hid hcall
  have HTHOSE := Lib.hid hthose
  clear hcall hthose r1 r2 hK
  go_wp2_with fail
  refine HCALL.out.mono ?_
  rintro e w3 ⟨v3, rfl, ho3, hb3⟩
  have hb03 : Below W.heap.size W w3 := HB2.out.trans (hb3.out.mono HB2.out.size)
  have ht := HTHOSE.out w3 hb03
  have HT := Lib.hid ht
  have HB03 := Lib.hid hb03
  have hr3 := ho3.out.reads
  obtain ⟨a3, c3, hv3, _⟩ := hr3.nil
  rw [List.length_map] at hv3
  subst hv3
  have HR3 := Lib.hid hr3
  clear ht hb03 hr3 ho3 hb3 HCALL HTHOSE
  go_wp2_with fail
  refine HT.out.mono ?_
  rintro e w4 ⟨v4, rfl, ho4, hb4⟩
  have hr4 := ho4.out.reads
  have hsame := sameSet_any _ v4 K w4 (HR3.out.below hb4.out) hr4
  obtain ⟨a4, c4, hv4, _⟩ := hr4.nil
  rw [List.length_map] at hv4
  subst hv4
  have HS := Lib.hid hsame
  have HB04 := Lib.hid (HB03.out.trans (hb4.out.mono HB03.out.size))
  clear hsame hr4 ho4 hb4 HT HR3 HB03
  go_wp2_with fail
  refine HS.out.mono ?_
  rintro e w5 ⟨rfl, hb5⟩
  have HB05 := Lib.hid (HB04.out.trans (hb5.mono HB04.out.size))
  clear hb5 HS HB04
  go_wp2
  go_ret
  exact ⟨rfl, HB05.out⟩

end lawFnClosestOf
end Go.Proofs.Ytobnglgnoflbnaa
