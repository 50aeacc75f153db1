/- laws.rising, laws.by7; the walk of the law FnParentOf. -/
import Derived.Test.YtobnglgnoflbnaaRising
import Derived.Test.YtobnglgnoflbnaaParentSel
import Derived.Test.YtobnglgnoflbnaaRelated
import Derived.Test.YtobnglgnoflbnaaFits
import Derived.BigGuardPart
namespace Go.Proofs.Ytobnglgnoflbnaa
open Go.RowKit
set_option linter.unusedVariables false
set_option linter.unusedSimpArgs false

theorem results_one_cell {fn : Func} {p : Tmp} {ty : TypeId} (h : fn.results = #[.cell p ty]) (tmps : Array Value) (P : Program) (w : World) :
    (results fn tmps).run P w = ((asAddr (tmps.getD p undef)).run P w).andThen fun a w₁ => (loadVar ty a).run P w₁ := by
  simp only [results, h]
  simp [Sem.run_bind, Result.andThen]

set_option maxRecDepth 100000 in
theorem by7_any (op : Int) (w : World) : Calls Try.prog 29 #[.int .i64 op] w (Gives (pickV op) w) := by
  go_enter Try.func29, Try.ntmps29
  go_wp2
  refine bodyPost_ret (v := pickV op) ?_ rfl ?_
  · rw [results_one_cell rfl]
    go_simp
    try rfl
  · exact ⟨rfl, (Below.refl _ _).alloc (Nat.le_refl _) _⟩

def RisingSays (ts : List NodeD) (len : Nat) (zs : List Int) (b : Bool) : Prop := b = true → RightT ts len ∧ ∃ l, Places len zs l

set_option maxRecDepth 100000 in
set_option maxHeartbeats 1000000 in
theorem rising_any (a : Option Addr) (len cap : Nat) (ts : List NodeD) (a1 : Option Addr) (n1 c1 : Nat) (z1 : List Int) (w : World) (hN : Nodes w a len ts) (h1 : Ints w a1 n1 z1 ∧ n1 ≤ c1 ∧ c1 ≤ maxLen) :
    Calls Try.prog 27 #[.slice a len cap, .slice a1 n1 c1] w (SomeBoolB (RisingSays ts len z1) w) := by
  have HN := Lib.hid hN
  have H1 := Lib.hid h1
  clear hN h1
  go_enter Try.func27, Try.ntmps27
  go_wp2_with fail
  refine (right_any a len cap ts w HN.out).mono ?_
  rintro e w2 ⟨b2, hb2, rfl, hbel2⟩
  have HB2 := Lib.hid hbel2
  clear hbel2
  cases b2
  · go_wp2
    go_ret
    exact ⟨false, by simp [RisingSays], rfl, HB2.out⟩
  have HR := Lib.hid (hb2 rfl)
  clear hb2
  go_wp2_with fail
  refine (order_any a len cap a1 n1 c1 z1 w2 (H1.out.1.below HB2.out)).mono ?_
  rintro e w3 ⟨b3, hb3, rfl, hbel3⟩
  have HB3 := Lib.hid (HB2.out.trans (hbel3.mono HB2.out.size))
  clear hbel3 HB2
  cases b3
  · go_wp2
    go_ret
    exact ⟨false, by simp [RisingSays], rfl, HB3.out⟩
  obtain ⟨l1, hp1⟩ := (hb3 rfl).places H1.out.1.open.1
  have HP1 := Lib.hid hp1
  have hel := elementsOk_any a len cap ts (.slice a1 n1 c1) l1 w3 (HN.out.below HB3.out) (hp1.reads (H1.out.1.below HB3.out) H1.out.2.1 H1.out.2.2) hp1.lt
  have HEL := Lib.hid hel
  clear hb3 hp1 hel
  go_wp2_with fail
  refine HEL.out.mono ?_
  rintro e w4 ⟨b4, _, rfl, hbel4⟩
  have HB4 := Lib.hid (HB3.out.trans (hbel4.mono HB3.out.size))
  clear hbel4 HB3 HEL
  go_wp2
  go_ret
  exact ⟨b4, fun _ => ⟨HR.out, l1, HP1.out⟩, rfl, HB4.out⟩

namespace lawFnParentOf

set_option maxRecDepth 100000 in
set_option maxHeartbeats 4000000 in
theorem walk {W : World} (a : Option Addr) (len cap : Nat) (ts : List NodeD) (h : Nodes W a len ts ∧ len ≤ cap ∧ cap ≤ maxLen) (a1 : Option Addr) (n1 c1 : Nat) (z1 : List Int) (h1 : Ints W a1 n1 z1 ∧ n1 ≤ c1 ∧ c1 ≤ maxLen) :
    Calls Try.prog 8 #[.slice a len cap, .slice a1 n1 c1] W (YesB W) := by
  obtain ⟨hN, hN2⟩ := h
  obtain ⟨h1, hc1⟩ := h1
  have hm1 := h1.open.2.1
  have HN := Lib.hid hN
  have H1 := Lib.hid (And.intro h1 hc1)
  clear hN hN2 h1 hc1
  go_enter Try.func8, Try.ntmps8
  go_wp2_with fail
  refine (fits1_any a len cap ts W HN.out).mono ?_
  rintro e w1 ⟨b1, _, rfl, hb1⟩
  have HB1 := Lib.hid hb1
  clear hb1
  cases b1
  · go_wp2
    go_ret
    exact ⟨rfl, HB1.out⟩
  by_cases q1 : (2147483647 : Int) < (n1 : Int)
  · have g1 : decide ((2147483647 : Int) < (n1 : Int)) = true := by simp [q1]
    clear q1
    go_wp2
    go_ret
    exact ⟨rfl, HB1.out⟩
  have g1 : decide ((2147483647 : Int) < (n1 : Int)) = false := by simp [q1]
  clear q1
  go_wp2_with fail
  refine (rising_any a len cap ts a1 n1 c1 z1 w1 (HN.out.below HB1.out) ⟨H1.out.1.below HB1.out, H1.out.2⟩).mono ?_
  rintro e w2 ⟨b2, hb2, rfl, hbel2⟩
  have HB2 := Lib.hid (HB1.out.trans (hbel2.mono HB1.out.size))
  clear hbel2 HB1
  cases b2
  · go_wp2
    go_ret
    exact ⟨rfl, HB2.out⟩
  obtain ⟨hR, l, hp⟩ := hb2 rfl
  have hle : l.length ≤ 200 := Nat.le_trans hp.le hR.le
  have hrd := fun (w : World) (hb : Below W.heap.size W w) => hp.reads (H1.out.1.below hb) H1.out.2.1 H1.out.2.2
  have hrel := fun (w : World) (hb : Below W.heap.size W w) => relatedParent_any a len cap ts (.slice a1 n1 c1) l w hR (HN.out.below hb) (hrd w hb) hp.lt hle
  have himp := fun (w : World) (hb : Below W.heap.size W w) => implParentOf_any w a len cap ts hR (HN.out.below hb) (.slice a1 n1 c1) l (hrd w hb) hp.lt hp.once hle
  have hon := onceF_once (parList ts l)
  have hkn : (onceF (parList ts l)).length ≤ 1000 := by
    have h1 := once_len (l := parList ts l)
    have h2 := parList_len (ts := ts) (l := l)
    omega
  obtain ⟨K, hK⟩ : ∃ K, onceF (parList ts l) = K := ⟨_, rfl⟩
  rw [hK] at hrel himp hon hkn
  have HREL := Lib.hid hrel
  have HIMP := Lib.hid himp
  have HON := Lib.hid hon
  clear hb2 hR hp hle hrd hrel himp hon hK
  go_wp2_with fail
  refine (by7_any 22 w2).mono ?_
  rintro e w3 ⟨rfl, hb3⟩
  have HB3 := Lib.hid (HB2.out.trans (hb3.mono HB2.out.size))
  clear hb3 HB2
  have HRL := Lib.hid (HREL.out w3 HB3.out)
  go_wp2_with fail
  refine HRL.out.mono ?_
  rintro e w4 ⟨v4, rfl, ho4, hb4⟩
  have HB4 := Lib.hid (HB3.out.trans (hb4.out.mono HB3.out.size))
  have hr4 := ho4.out.reads
  obtain ⟨a4, c4, hv4, _⟩ := hr4.nil
  rw [List.length_map] at hv4
  subst hv4
  have HR4 := Lib.hid hr4
  clear hr4 ho4 hb4 HRL HB3
  have HIM := Lib.hid (HIMP.out w4 HB4.out)
  go_wp2_with fail
  refine HIM.out.mono ?_
  rintro e w5 ⟨v5, rfl, ho5, hb5⟩
  have HB5 := Lib.hid (HB4.out.trans (hb5.out.mono HB4.out.size))
  have hr5 := ho5.out.reads
  have hr45 := HR4.out.below hb5.out
  have hso := sameOnce_any v5 _ K w5 hr5 hr45 HON.out hkn
  obtain ⟨a5, c5, hv5, _⟩ := hr5.nil
  rw [List.length_map] at hv5
  subst hv5
  have HSO := Lib.hid hso
  clear hr5 hr45 ho5 hb5 HIM HB4 hso
  go_wp2_with fail
  refine HSO.out.mono ?_
  rintro e w6 ⟨rfl, hb6⟩
  have HB6 := Lib.hid (HB5.out.trans (hb6.mono HB5.out.size))
  clear hb6 HSO HB5
  go_wp2
  go_ret
  exact ⟨rfl, HB6.out⟩

end lawFnParentOf
end Go.Proofs.Ytobnglgnoflbnaa
