/- The walk of FnPrevUntilOf. (Printed by gen_sibwalk.py.) -/
import Derived.Test.YtjidbnegoailcaaSibEnd
import Derived.Test.YtjidbnegoailcaaRisingAll
import Derived.Test.YtjidbnegoailcaaRelated30
namespace Go.Proofs.Ytjidbnegoailcaa
open Go.RowKit
set_option linter.unusedVariables false
set_option linter.unusedSimpArgs false

namespace lawFnPrevUntilOf

set_option maxRecDepth 100000 in
set_option maxHeartbeats 4000000 in
theorem walk {W : World} (a : Option Addr) (len cap : Nat) (ts : List NodeD) (h : Nodes W a len ts ∧ len ≤ cap ∧ cap ≤ maxLen) (a1 : Option Addr) (n1 c1 : Nat) (z1 : List Int) (h1 : Ints W a1 n1 z1 ∧ n1 ≤ c1 ∧ c1 ≤ maxLen) (a2 : Option Addr) (n2 c2 : Nat) (z2 : List Int) (h2 : Ints W a2 n2 z2 ∧ n2 ≤ c2 ∧ c2 ≤ maxLen) :
    Calls Try.prog 5 #[.slice a len cap, .slice a1 n1 c1, .slice a2 n2 c2] W (YesB W) := by
  obtain ⟨hN, hN2⟩ := h
  obtain ⟨h1, hc1⟩ := h1
  have hm1 := h1.open.2.1
  have HN := Lib.hid hN
  have H1 := Lib.hid (And.intro h1 hc1)
  clear hN hN2 h1 hc1
  obtain ⟨h2, hc2⟩ := h2
  have hm2 := h2.open.2.1
  have H2 := Lib.hid (And.intro h2 hc2)
  clear h2 hc2
  go_enter Try.func5, Try.ntmps5
  go_wp2_with fail
  refine (fits1_any a len cap ts W HN.out).mono ?_
  rintro e w1 ⟨b1, _, rfl, hb1⟩
  have HB1 := Lib.hid hb1
  clear hb1
  cases b1
  · go_wp2
    go_ret
    exact ⟨rfl, HB1.out⟩
  by_cases q1 : (2147483647 : Int) < (n1 : Int)
  · have g1 : decide ((2147483647 : Int) < (n1 : Int)) = true := by simp [q1]
    clear q1
    go_wp2
    go_ret
    exact ⟨rfl, HB1.out⟩
  have g1 : decide ((2147483647 : Int) < (n1 : Int)) = false := by simp [q1]
  clear q1
  by_cases q2 : (2147483647 : Int) < (n2 : Int)
  · have g2 : decide ((2147483647 : Int) < (n2 : Int)) = true := by simp [q2]
    clear q2
    go_wp2
    go_ret
    exact ⟨rfl, HB1.out⟩
  have g2 : decide ((2147483647 : Int) < (n2 : Int)) = false := by simp [q2]
  clear q2
  go_wp2_with fail
  refine (rising3_any a len cap ts a1 n1 c1 z1 w1 (HN.out.below HB1.out) ⟨H1.out.1.below HB1.out, H1.out.2⟩).mono ?_
  rintro e w2 ⟨b2, hb2, rfl, hbel2⟩
  have HB2 := Lib.hid (HB1.out.trans (hbel2.mono HB1.out.size))
  clear hbel2 HB1
  cases b2
  · go_wp2
    go_ret
    exact ⟨rfl, HB2.out⟩
  obtain ⟨hR, l, hp, hk⟩ := hb2 rfl
  have HP := Lib.hid (And.intro hR (And.intro hp hk))
  clear hb2 hR hp hk
  go_wp2_with fail
  refine (rising3_any a len cap ts a2 n2 c2 z2 w2 (HN.out.below HB2.out) ⟨H2.out.1.below HB2.out, H2.out.2⟩).mono ?_
  rintro e w9 ⟨b9, hb9, rfl, hbel9⟩
  have HB9 := Lib.hid (HB2.out.trans (hbel9.mono HB2.out.size))
  clear hbel9 HB2
  cases b9
  · go_wp2
    go_ret
    exact ⟨rfl, HB9.out⟩
  obtain ⟨_, l2, hp2, _⟩ := hb9 rfl
  obtain ⟨hR, hp, hk⟩ := HP.out
  have hle : l.length ≤ 200 := Nat.le_trans hp.le hR.le
  have hlen := hR.le
  have hpos : ∀ i ∈ l, 0 < i := fun i hi => by
    rcases Nat.eq_zero_or_pos i with h0 | h0
    · have h3 := hk i hi
      rw [h0, hR.kind] at h3
      omega
    · exact h0
  have hrd := fun (w : World) (hb : Below W.heap.size W w) => hp.reads (H1.out.1.below hb) H1.out.2.1 H1.out.2.2
  have hrd2 := fun (w : World) (hb : Below W.heap.size W w) => hp2.reads (H2.out.1.below hb) H2.out.2.1 H2.out.2.2
  have hle2 : l2.length ≤ 200 := Nat.le_trans hp2.le hR.le
  have hrel := fun (w : World) (hb : Below W.heap.size W w) => related_30 a len cap ts (.slice a1 n1 c1) l w hR (HN.out.below hb) (hrd w hb) hp.lt hle (.slice a2 n2 c2) l2 (hrd2 w hb)
  have himp := fun (w : World) (hb : Below W.heap.size W w) => implPrevUntilOf w a len cap ts hR (HN.out.below hb) (.slice a1 n1 c1) l (hrd w hb) hp.lt hp.once hle hpos (.slice a2 n2 c2) l2 (hrd2 w hb) hp2.lt hle2
  have hon1 := onceF_once (l.flatMap (fn_m3 ts len l2))
  have hon2 := onceF_once (l.flatMap (fun x => upToL (fun y => decide (y ∈ l2)) (prevL ts x)))
  have hmem : ∀ y, y ∈ onceF (l.flatMap (fn_m3 ts len l2)) ↔ y ∈ onceF (l.flatMap (fun x => upToL (fun y => decide (y ∈ l2)) (prevL ts x))) := fun y => Iff.rfl
  have hKl : (onceF (l.flatMap (fn_m3 ts len l2))).length ≤ 200 := Nat.le_trans (once_le (onceF_once _) (flat_lt (fun x hx => fn_m3_good ts len l2 x (hp.lt x hx)))) hlen
  have hll := once_same_len hon2 hon1 (fun y => (hmem y).symm)
  obtain ⟨K, hK⟩ : ∃ K, onceF (l.flatMap (fn_m3 ts len l2)) = K := ⟨_, rfl⟩
  obtain ⟨M, hM⟩ : ∃ M, onceF (l.flatMap (fun x => upToL (fun y => decide (y ∈ l2)) (prevL ts x))) = M := ⟨_, rfl⟩
  rw [hK] at himp hmem hon1 hKl hll
  rw [hM] at hrel hmem hon2 hll
  have HREL := Lib.hid hrel
  have HIMP := Lib.hid himp
  have HON := Lib.hid (And.intro hon1 (And.intro hmem hll))
  clear hb9 hR hp hle hrd hrel himp hon1 hon2 hmem hll hK hM hk hpos hp2 hrd2 hle2 HP
  have HB3 := HB9
  go_wp2_with fail
  refine (HREL.out w9 HB3.out).mono ?_
  rintro e w4 ⟨v4, rfl, ho4, hb4⟩
  have HB4 := Lib.hid (HB3.out.trans (hb4.out.mono HB3.out.size))
  have hr4 := ho4.out.reads
  obtain ⟨a4, c4, hv4, _⟩ := hr4.nil
  rw [List.length_map, HON.out.2.2] at hv4
  subst hv4
  have HR4 := Lib.hid hr4
  clear hr4 ho4 hb4 HB3
  have HIM := Lib.hid (HIMP.out w4 HB4.out)
  go_wp2_with fail
  refine HIM.out.mono ?_
  rintro e w5 ⟨v5, rfl, ho5, hb5⟩
  have HB5 := Lib.hid (HB4.out.trans (hb5.out.mono HB4.out.size))
  have hr5 := ho5.out.reads
  have hr45 := HR4.out.below hb5.out
  have hso := sameOnce2_any v5 _ K M w5 hr5 hr45 HON.out.1 HON.out.2.2 (fun x hx => (HON.out.2.1 x).1 hx) (by omega)
  obtain ⟨a5, c5, hv5, _⟩ := hr5.nil
  rw [List.length_map] at hv5
  subst hv5
  have HSO := Lib.hid hso
  clear hr5 hr45 ho5 hb5 HIM HB4 hso
  go_wp2_with fail
  refine HSO.out.mono ?_
  rintro e w6 ⟨rfl, hb6⟩
  have HB6 := Lib.hid (HB5.out.trans (hb6.mono HB5.out.size))
  clear hb6 HSO HB5
  go_wp2
  go_ret
  exact ⟨rfl, HB6.out⟩

end lawFnPrevUntilOf
end Go.Proofs.Ytjidbnegoailcaa
