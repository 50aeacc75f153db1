/- laws.rising, with the kinds of the places. -/
import Derived.Test.YtjidbnegoailcaaRising
import Derived.Test.YtjidbnegoailcaaFits
import Derived.BigGuardPart
namespace Go.Proofs.Ytjidbnegoailcaa
open Go.RowKit
set_option linter.unusedVariables false
set_option linter.unusedSimpArgs false

def Rising3Says (ts : List NodeD) (len : Nat) (zs : List Int) (b : Bool) : Prop := b = true → RightT ts len ∧ ∃ l, Places len zs l ∧ ∀ i ∈ l, kd ts i = 3

set_option maxRecDepth 100000 in
set_option maxHeartbeats 1000000 in
theorem rising3_any (a : Option Addr) (len cap : Nat) (ts : List NodeD) (a1 : Option Addr) (n1 c1 : Nat) (z1 : List Int) (w : World) (hN : Nodes w a len ts) (h1 : Ints w a1 n1 z1 ∧ n1 ≤ c1 ∧ c1 ≤ maxLen) :
    Calls Try.prog 10 #[.slice a len cap, .slice a1 n1 c1] w (SomeBoolB (Rising3Says ts len z1) w) := by
  have HN := Lib.hid hN
  have H1 := Lib.hid h1
  clear hN h1
  go_enter Try.func10, Try.ntmps10
  go_wp2_with fail
  refine (right_any a len cap ts w HN.out).mono ?_
  rintro e w2 ⟨b2, hb2, rfl, hbel2⟩
  have HB2 := Lib.hid hbel2
  clear hbel2
  cases b2
  · go_wp2
    go_ret
    exact ⟨false, by simp [Rising3Says], rfl, HB2.out⟩
  have HR := Lib.hid (hb2 rfl)
  clear hb2
  go_wp2_with fail
  refine (order_any a len cap a1 n1 c1 z1 w2 (H1.out.1.below HB2.out)).mono ?_
  rintro e w3 ⟨b3, hb3, rfl, hbel3⟩
  have HB3 := Lib.hid (HB2.out.trans (hbel3.mono HB2.out.size))
  clear hbel3 HB2
  cases b3
  · go_wp2
    go_ret
    exact ⟨false, by simp [Rising3Says], rfl, HB3.out⟩
  obtain ⟨l1, hp1⟩ := (hb3 rfl).places H1.out.1.open.1
  have HP1 := Lib.hid hp1
  have hel := elementsOk_any a len cap ts (.slice a1 n1 c1) l1 w3 (HN.out.below HB3.out) (hp1.reads (H1.out.1.below HB3.out) H1.out.2.1 H1.out.2.2) hp1.lt
  have HEL := Lib.hid hel
  clear hb3 hp1 hel
  go_wp2_with fail
  refine HEL.out.mono ?_
  rintro e w4 ⟨b4, hk4, rfl, hbel4⟩
  have HB4 := Lib.hid (HB3.out.trans (hbel4.mono HB3.out.size))
  have HK4 := Lib.hid hk4
  clear hbel4 HB3 HEL hk4
  go_wp2
  go_ret
  exact ⟨b4, fun hb => ⟨HR.out, l1, HP1.out, HK4.out hb⟩, rfl, HB4.out⟩


theorem ints_one {w : World} {g : Nat} {z : Int} (h : w.cell? ⟨g, 0, none⟩ = some (.int .i64 z)) : Ints w (some ⟨g, 0, none⟩) 1 [z] :=
  ⟨rfl, by unfold maxLen; omega, fun _ => ⟨g, 0, rfl, fun i hi => by
    obtain rfl : i = 0 := by omega
    simpa [intZ] using h⟩⟩

/-- One place, that is asked as a slice. -/
theorem one_place {ts : List NodeD} {len : Nat} {z : Int} {b : Bool} (h : Rising3Says ts len [z] b) (hb : b = true) : RightT ts len ∧ ∃ x : Nat, z = (x : Int) ∧ x < len ∧ kd ts x = 3 ∧ 0 < x := by
  obtain ⟨hR, l, hp, hk⟩ := h hb
  have he := hp.eq
  match l, he with
  | [x], he =>
    simp at he
    have h3 := hk x (by simp)
    refine ⟨hR, x, he, hp.lt x (by simp), h3, ?_⟩
    rcases Nat.eq_zero_or_pos x with h0 | h0
    · subst h0
      rw [hR.kind] at h3
      omega
    · exact h0

theorem reads_one {w : World} {g : Nat} {x : Nat} {c : Nat} (h : w.cell? ⟨g, 0, none⟩ = some (.int .i64 (x : Int))) (hc : 1 ≤ c) (hc2 : c ≤ maxLen) : ReadsAs w (.slice (some ⟨g, 0, none⟩) 1 c) ([x].map intV) :=
  ⟨some ⟨g, 0, none⟩, c, rfl, hc, hc2, rfl, by simp [maxLen], fun _ => ⟨g, 0, rfl, fun i hi => by
    have : i = 0 := by simp at hi; omega
    subst this
    simpa [intV] using h⟩⟩

end Go.Proofs.Ytjidbnegoailcaa
