/- The walk of FnTextWith. -/
import Derived.Test.YtikimffifkiinaaTextsWalk
import Derived.Test.YtikimffifkiinaaImplRight
import Derived.Test.YtikimffifkiinaaFits
import Derived.Test.YtikimffifkiinaaPlaces
namespace Go.Proofs.Ytikimffifkiinaa.lawFnTextWith
open Go.RowKit
set_option linter.unusedVariables false
set_option linter.unusedSimpArgs false

theorem ints_open {w : World} {v : Value} {l : List Nat} (h : ReadsAs w v (l.map intV)) : ∃ a cap b off, v = .slice a l.length cap ∧ l.length ≤ 9223372036854775807 ∧ (0 < l.length → a = some ⟨b, off, none⟩) ∧ ∀ i, i < l.length → w.cell? ⟨b, off + i, none⟩ = some (.int .i64 ((l.getD i 0 : Nat) : Int)) := by
  obtain ⟨a, cap, rfl, hm⟩ := h.nil
  have hl : (l.map intV).length = l.length := by simp
  rw [hl] at hm h ⊢
  by_cases h0 : 0 < l.length
  · obtain ⟨b, off, cap', he, _, hc⟩ := h.at (by simpa using h0)
    simp at he
    exact ⟨a, cap, b, off, rfl, hm, fun _ => he.1, int_cells hc⟩
  · exact ⟨a, cap, 0, 0, rfl, hm, fun h => absurd h h0, fun i hi => by omega⟩

set_option maxRecDepth 100000 in
set_option maxHeartbeats 8000000 in
theorem walk {W : World} (a : Option Addr) (len cap : Nat) (ts : List NodeD) (h : Nodes W a len ts ∧ len ≤ cap ∧ cap ≤ maxLen) (a1 : Option Addr) (n1 c1 : Nat) (z1 : List Int) (h1 : Ints W a1 n1 z1 ∧ n1 ≤ c1 ∧ c1 ≤ maxLen) (sep : ByteArray) (hsep : sep.size ≤ maxLen) (trim : Bool) (p : ByteArray) (hp : p.size ≤ maxLen) :
    Calls Try.prog 3 #[.slice a len cap, .slice a1 n1 c1, .string sep, .bool trim, .string p] W (YesB W) := by
  obtain ⟨hN, hN2⟩ := h
  obtain ⟨h1, hc1⟩ := h1
  have hm1 := h1.open.2.1
  have hlt := hN.len.1
  unfold maxLen at hsep hp
  have HN := Lib.hid hN
  have H1 := Lib.hid (And.intro h1 hc1)
  clear hN hN2 h1 hc1
  go_enter Try.func3, Try.ntmps3
  go_wp2_with fail
  refine (fits1_any a len cap ts W HN.out).mono ?_
  rintro e w1 ⟨b1, _, rfl, hb1⟩
  have HB1 := Lib.hid hb1
  clear hb1
  cases b1
  · go_wp2
    go_ret
    exact ⟨rfl, HB1.out⟩
  by_cases q1 : (2147483647 : Int) < (n1 : Int)
  · have g1 : decide ((2147483647 : Int) < (n1 : Int)) = true := by simp [q1]
    clear q1
    go_wp2
    go_ret
    exact ⟨rfl, HB1.out⟩
  have g1 : decide ((2147483647 : Int) < (n1 : Int)) = false := by simp [q1]
  clear q1
  by_cases q2 : (2147483647 : Int) < (sep.size : Int)
  · have g2 : decide ((2147483647 : Int) < (sep.size : Int)) = true := by simp only [decide_eq_true_eq]; exact q2
    go_wp2
    go_ret
    exact ⟨rfl, HB1.out⟩
  have g2 : decide ((2147483647 : Int) < (sep.size : Int)) = false := by simp only [decide_eq_false_iff_not]; exact q2
  by_cases q3 : (2147483647 : Int) < (p.size : Int)
  · have g3 : decide ((2147483647 : Int) < (p.size : Int)) = true := by simp only [decide_eq_true_eq]; exact q3
    go_wp2
    go_ret
    exact ⟨rfl, HB1.out⟩
  have g3 : decide ((2147483647 : Int) < (p.size : Int)) = false := by simp only [decide_eq_false_iff_not]; exact q3
  go_wp2_with fail
  refine (right_any a len cap ts w1 (HN.out.below HB1.out)).mono ?_
  rintro e w2 ⟨b2, hb2, rfl, hbel2⟩
  have HB2 := Lib.hid (HB1.out.trans (hbel2.mono HB1.out.size))
  clear hbel2 HB1
  cases b2
  · go_wp2
    go_ret
    exact ⟨rfl, HB2.out⟩
  have HR := Lib.hid (hb2 rfl)
  clear hb2
  go_wp2_with fail
  refine (order_any a len cap a1 n1 c1 z1 w2 (H1.out.1.below HB2.out)).mono ?_
  rintro e w3 ⟨b3, hb3, rfl, hbel3⟩
  have HB3 := Lib.hid (HB2.out.trans (hbel3.mono HB2.out.size))
  clear hbel3 HB2
  cases b3
  · go_wp2
    go_ret
    exact ⟨rfl, HB3.out⟩
  have hO := hb3 rfl
  obtain ⟨l, hpl⟩ := hO.places H1.out.1.open.1
  have hl : l.length = n1 := by rw [← hpl.len]; exact H1.out.1.open.1
  have HP := Lib.hid hpl
  clear hb3 hO hpl
  subst hl
  have hle : l.length ≤ 200 := Nat.le_trans HP.out.le HR.out.le
  by_cases q4 : (100 : Int) < (sep.size : Int)
  · have g4 : decide ((100 : Int) < (sep.size : Int)) = true := by simp only [decide_eq_true_eq]; exact q4
    go_wp2
    go_ret
    exact ⟨rfl, HB3.out⟩
  have g4 : decide ((100 : Int) < (sep.size : Int)) = false := by simp only [decide_eq_false_iff_not]; exact q4
  by_cases q5 : (40 : Int) < (p.size : Int)
  · have g5 : decide ((40 : Int) < (p.size : Int)) = true := by simp only [decide_eq_true_eq]; exact q5
    go_wp2
    go_ret
    exact ⟨rfl, HB3.out⟩
  have g5 : decide ((40 : Int) < (p.size : Int)) = false := by simp only [decide_eq_false_iff_not]; exact q5
  have hsep100 : sep.size ≤ 100 := by omega
  have hreads := HP.out.reads (H1.out.1.below HB3.out) H1.out.2.1 H1.out.2.2
  obtain ⟨ka, kcap, kb, koff, hv, hkm, hka, hkc⟩ := ints_open hreads
  simp only [Value.slice.injEq] at hv
  obtain ⟨rfl, _, rfl⟩ := hv
  have hspec := textsOf_any w3 a len cap ts HR.out (HN.out.below HB3.out) a1 c1 kb koff l hka hkc HP.out.lt hle sep hsep100 trim p
  have himpl := fun (w : World) (hb : Below W.heap.size W w) (htr : ∀ i ∈ l, Trimmable ts i trim (nameOpt p)) (hlim) => implText_any w a len cap ts HR.out (HN.out.below hb) (.slice a1 l.length c1) l (HP.out.reads (H1.out.1.below hb) H1.out.2.1 H1.out.2.2) HP.out.lt hle
    (fun w' hb' => chosen_any w' a len cap ts HR.out (HN.out.below (hb.trans (hb'.mono hb.size))) (.slice a1 l.length c1) l (HP.out.reads (H1.out.1.below (hb.trans (hb'.mono hb.size))) H1.out.2.1 H1.out.2.2) HP.out.lt HP.out.once hle) sep trim p htr hlim
  have hlim : (Lib.join ((partsL ts trim (nameOpt p) l).map (·.data.toList)) sep.data.toList).length ≤ 140737488355328 := by
    have h1 := partsL_length ts trim (nameOpt p) (M := 200) l (fun i hi => by
      have := HR.out.nest.fit i (HP.out.lt i hi)
      have := HR.out.le
      omega)
    have h2 : ∀ r ∈ (partsL ts trim (nameOpt p) l).map (·.data.toList), r.length ≤ 4000 := by
      intro r hr
      obtain ⟨x, hx, rfl⟩ := List.mem_map.1 hr
      obtain ⟨i, hi, hx⟩ := List.mem_flatMap.1 hx
      exact parts_small (text_le HR.out hlt) trim (nameOpt p) i _ x hx
    have h3 := join_small (sep := sep.data.toList) (S := 100) (by rw [← size_list]; exact hsep100) _ h2
    rw [List.length_map] at h3
    have h4 : (partsL ts trim (nameOpt p) l).length * (4000 + 100) ≤ 40000 * (4000 + 100) := Nat.mul_le_mul_right _ (by omega)
    omega
  have HS := Lib.hid hspec
  have HI := Lib.hid himpl
  have HLIM := Lib.hid hlim
  clear hspec himpl hlim hreads hka hkc hkm q2 q3 q4 q5
  go_wp2_with fail
  refine HS.out.mono ?_
  rintro e w4 ⟨hb4, ⟨z, rfl⟩ | ⟨z, rfl, hz, htr⟩⟩
  · have HB4 := Lib.hid (HB3.out.trans (hb4.mono HB3.out.size))
    clear hb4
    go_wp2
    go_ret
    exact ⟨rfl, HB4.out⟩
  · have hb04 := HB3.out.trans (hb4.mono HB3.out.size)
    have hcall := HI.out w4 hb04 htr HLIM.out
    have hzz : z = ⟨(Lib.join ((partsL ts trim (nameOpt p) l).map (·.data.toList)) sep.data.toList).toArray⟩ := by
      cases z with
      | mk d => simp at hz; rw [← bytesOf, ← hz]
    have hcall2 := hcall.mono (R' := fun e w' => e = .returned (.tuple #[.string z, .bool true]) ∧ Below w4.heap.size w4 w') (fun e w' h => by rw [hzz]; exact h)
    have HC := Lib.hid hcall2
    clear hcall2
    have HB4 := Lib.hid hb04
    have gz : (z.toList == z.toList) = true := by simp
    clear hcall hb04 hb4 hz htr hzz
    go_wp2_with fail
    refine HC.out.mono ?_
    rintro e w5 ⟨he, hb5⟩
    have HB5 := Lib.hid (HB4.out.trans (hb5.mono HB4.out.size))
    clear hb5
    subst he
    go_wp2
    go_ret
    exact ⟨rfl, HB5.out⟩

end Go.Proofs.Ytikimffifkiinaa.lawFnTextWith
