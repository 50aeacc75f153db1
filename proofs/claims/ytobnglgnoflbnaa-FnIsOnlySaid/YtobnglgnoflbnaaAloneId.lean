/- spec.RightSimple, laws.alone at a selector of an id (bareSel's contract is a premise: XBareSel pays it). -/
import Derived.Test.YtobnglgnoflbnaaMatchesId
import Derived.Test.YtobnglgnoflbnaaRight
namespace Go.Proofs.Ytobnglgnoflbnaa
open Go.RowKit
set_option linter.unusedVariables false
set_option linter.unusedSimpArgs false

/-- bareSel answers. -/
def BareAnswers (id : ByteArray) : Prop := ∀ w, Calls Try.prog 81 #[.agg (idSel id)] w (SomeBoolB (fun _ => True) w)

set_option maxRecDepth 100000 in
set_option maxHeartbeats 2000000 in
theorem rightSimpleId_any (id : ByteArray) (w : World) (hbare : BareAnswers id) : Calls Try.prog 46 #[.agg (idSel id)] w (SomeBoolB (fun _ => True) w) := by
  have hb0 : Below w.heap.size w (w.alloc (.cells #[.int .i64 4, .int .i64 0, .string ByteArray.empty, .string id, .int .i64 0, .int .i64 0, .int .i64 0, .int .i64 1] 27)) := (Below.refl _ _).alloc (Nat.le_refl _) _
  have s0 : ∀ i u, (idSel id)[i]? = some u → (w.alloc (.cells #[.int .i64 4, .int .i64 0, .string ByteArray.empty, .string id, .int .i64 0, .int .i64 0, .int .i64 0, .int .i64 1] 27)).cell? ⟨w.heap.size, i, none⟩ = some u := fun i u h => cell_alloc_new' _ _ _ rfl h
  obtain ⟨w0, hw0⟩ : ∃ w0, w.alloc (.cells #[.int .i64 4, .int .i64 0, .string ByteArray.empty, .string id, .int .i64 0, .int .i64 0, .int .i64 0, .int .i64 1] 27) = w0 := ⟨_, rfl⟩
  rw [hw0] at hb0 s0
  have k0 : w0.cell? ⟨w.heap.size, 0, none⟩ = some (.int .i64 4) := s0 0 _ rfl
  have k1 : w0.cell? ⟨w.heap.size, 1, none⟩ = some (.int .i64 0) := s0 1 _ rfl
  have k2 : w0.cell? ⟨w.heap.size, 2, none⟩ = some (.string ByteArray.empty) := s0 2 _ rfl
  have k3 : w0.cell? ⟨w.heap.size, 3, none⟩ = some (.string id) := s0 3 _ rfl
  have k4 : w0.cell? ⟨w.heap.size, 4, none⟩ = some (.int .i64 0) := s0 4 _ rfl
  have k5 : w0.cell? ⟨w.heap.size, 5, none⟩ = some (.int .i64 0) := s0 5 _ rfl
  have k6 : w0.cell? ⟨w.heap.size, 6, none⟩ = some (.int .i64 0) := s0 6 _ rfl
  have k7 : w0.cell? ⟨w.heap.size, 7, none⟩ = some (.int .i64 1) := s0 7 _ rfl
  have hbare' := hbare w0
  unfold idSel at hbare' ⊢
  have HBARE := Lib.hid hbare'
  have HB := Lib.hid hb0
  clear hb0 s0 hbare hbare'
  go_enter Try.func46, Try.ntmps46
  go_wp2_with fail
  refine HBARE.out.mono ?_
  rintro e w1 ⟨b, _, rfl, hb⟩
  have hfin := Lib.hid (HB.out.trans (hb.mono HB.out.size))
  have k0' := cell_below hb k0
  clear hb HBARE
  cases b
  · go_wp2
    go_ret
    exact ⟨false, trivial, rfl, hfin.out⟩
  · go_wp2
    go_ret
    exact ⟨_, trivial, rfl, hfin.out⟩


set_option maxRecDepth 100000 in
theorem within_any (a : Option Addr) (len cap : Nat) (z : Int) (w : World) : Calls Try.prog 45 #[.slice a len cap, .int .i64 z] w (BoolPost (decide (0 ≤ z) && decide (z < (len : Int))) w) := by
  cases g1 : decide (0 ≤ z)
  · go_enter Try.func45, Try.ntmps45
    go_wp2
    go_ret
    exact ⟨rfl, rfl⟩
  · cases g2 : decide (z < (len : Int))
    · go_enter Try.func45, Try.ntmps45
      go_wp2
      go_ret
      exact ⟨rfl, rfl⟩
    · go_enter Try.func45, Try.ntmps45
      go_wp2
      go_ret
      exact ⟨rfl, rfl⟩

def AloneIdSays (ts : List NodeD) (len : Nat) (z : Int) (id : ByteArray) (want sure : Bool) : Prop :=
  sure = true → RightT ts len ∧ ∃ x : Nat, z = (x : Int) ∧ x < len ∧ kd ts x = 3 ∧ want = hasKV (ts.getD x default).attrs ⟨#[105, 100]⟩ id (ts.getD x default).attrs.length

def AloneIdPost (ts : List NodeD) (len : Nat) (z : Int) (id : ByteArray) (w : World) (e : Ending) (w' : World) : Prop :=
  ∃ want sure, e = .returned (.tuple #[.bool want, .bool sure]) ∧ Hid (AloneIdSays ts len z id want sure) ∧ Hid (Below w.heap.size w w')

theorem says_not (ts : List NodeD) (len : Nat) (z : Int) (id : ByteArray) : Hid (AloneIdSays ts len z id false false) := Lib.hid (fun h => by cases h)

set_option maxRecDepth 100000 in
set_option maxHeartbeats 4000000 in
theorem lawsAloneId_any (a : Option Addr) (len cap : Nat) (ts : List NodeD) (z : Int) (id : ByteArray) (w : World) (hN : Nodes w a len ts) (hbare : BareAnswers id) :
    Calls Try.prog 14 #[.slice a len cap, .int .i64 z, .agg #[.int .i64 4, .int .i64 0, .string ByteArray.empty, .string id, .int .i64 0, .int .i64 0, .int .i64 0, .int .i64 0]] w (AloneIdPost ts len z id w) := by
  have hb0 : Below w.heap.size w (w.alloc (.cells #[.int .i64 4, .int .i64 0, .string ByteArray.empty, .string id, .int .i64 0, .int .i64 0, .int .i64 0, .int .i64 1] 27)) := (Below.refl _ _).alloc (Nat.le_refl _) _
  have s0 : ∀ i u, (idSel id)[i]? = some u → (w.alloc (.cells #[.int .i64 4, .int .i64 0, .string ByteArray.empty, .string id, .int .i64 0, .int .i64 0, .int .i64 0, .int .i64 1] 27)).cell? ⟨w.heap.size, i, none⟩ = some u := fun i u h => cell_alloc_new' _ _ _ rfl h
  obtain ⟨w0, hw0⟩ : ∃ w0, w.alloc (.cells #[.int .i64 4, .int .i64 0, .string ByteArray.empty, .string id, .int .i64 0, .int .i64 0, .int .i64 0, .int .i64 1] 27) = w0 := ⟨_, rfl⟩
  rw [hw0] at hb0 s0
  have HN := Lib.hid hN
  have HB := Lib.hid hb0
  have HS := Lib.hid (show SelCells w0 w.heap.size id from s0)
  have HBARE := Lib.hid hbare
  clear hN hb0 s0 hbare
  go_enter Try.func14, Try.ntmps14
  go_wp2_with fail
  refine (right_any a len cap ts w0 (HN.out.below HB.out)).mono ?_
  rintro e w1 ⟨b1, hb1, rfl, hbel1⟩
  have HB1 := Lib.hid (HB.out.trans (hbel1.mono HB.out.size))
  have HS1 := Lib.hid (HS.out.below hbel1)
  clear hbel1 HB HS hw0
  cases b1
  · go_wp2
    go_ret2
    exact ⟨false, false, rfl, says_not _ _ _ _, HB1⟩
  have HR := Lib.hid (hb1 rfl)
  clear hb1
  go_wp2_with fail
  refine (within_any a len cap z w1).mono ?_
  rintro e w2 ⟨rfl, rfl⟩
  by_cases hz : 0 ≤ z ∧ z < (len : Int)
  · obtain ⟨hz0, hz1⟩ := hz
    obtain ⟨x, rfl⟩ := Int.eq_ofNat_of_zero_le hz0
    have hw : (decide (0 ≤ (x : Int)) && decide ((x : Int) < (len : Int))) = true := by simp; omega
    rw [hw]
    have hx : x < len := by omega
    have hN1 := HN.out.below HB1.out
    obtain ⟨b, off, rfl, hc⟩ := hN1.at (by omega)
    have c0 := (hc x hx).kind
    have hkd : kd ts x = (ts.getD x default).kind := rfl
    obtain ⟨q, hq⟩ : ∃ q, (ts.getD x default).kind = q := ⟨_, rfl⟩
    rw [hq] at c0 hkd
    have hxI : (x : Int) < (len : Int) := by omega
    clear hw hz0 hz1 hN1 hc hq
    by_cases h3 : q = 3
    · subst h3
      have HKD := Lib.hid hkd
      have k0 : w1.cell? ⟨w.heap.size, 0, none⟩ = some (.int .i64 4) := HS1.out 0 _ rfl
      have k1 : w1.cell? ⟨w.heap.size, 1, none⟩ = some (.int .i64 0) := HS1.out 1 _ rfl
      have k2 : w1.cell? ⟨w.heap.size, 2, none⟩ = some (.string ByteArray.empty) := HS1.out 2 _ rfl
      have k3 : w1.cell? ⟨w.heap.size, 3, none⟩ = some (.string id) := HS1.out 3 _ rfl
      have k4 : w1.cell? ⟨w.heap.size, 4, none⟩ = some (.int .i64 0) := HS1.out 4 _ rfl
      have k5 : w1.cell? ⟨w.heap.size, 5, none⟩ = some (.int .i64 0) := HS1.out 5 _ rfl
      have k6 : w1.cell? ⟨w.heap.size, 6, none⟩ = some (.int .i64 0) := HS1.out 6 _ rfl
      have k7 : w1.cell? ⟨w.heap.size, 7, none⟩ = some (.int .i64 1) := HS1.out 7 _ rfl
      have hrs := rightSimpleId_any id w1 HBARE.out
      unfold idSel at hrs
      have HRS := Lib.hid hrs
      clear hrs hkd
      go_wp2_with fail
      refine HRS.out.mono ?_
      rintro e w3 ⟨b3, _, rfl, hbel3⟩
      have HB3 := Lib.hid (HB1.out.trans (hbel3.mono HB1.out.size))
      have HS3 := Lib.hid (HS1.out.below hbel3)
      clear hbel3 HRS k0 k1 k2 k3 k4 k5 k6 k7 c0
      cases b3
      · go_wp2
        go_ret2
        exact ⟨false, false, rfl, says_not _ _ _ _, HB3⟩
      have k0 : w3.cell? ⟨w.heap.size, 0, none⟩ = some (.int .i64 4) := HS3.out 0 _ rfl
      have k1 : w3.cell? ⟨w.heap.size, 1, none⟩ = some (.int .i64 0) := HS3.out 1 _ rfl
      have k2 : w3.cell? ⟨w.heap.size, 2, none⟩ = some (.string ByteArray.empty) := HS3.out 2 _ rfl
      have k3 : w3.cell? ⟨w.heap.size, 3, none⟩ = some (.string id) := HS3.out 3 _ rfl
      have k4 : w3.cell? ⟨w.heap.size, 4, none⟩ = some (.int .i64 0) := HS3.out 4 _ rfl
      have k5 : w3.cell? ⟨w.heap.size, 5, none⟩ = some (.int .i64 0) := HS3.out 5 _ rfl
      have k6 : w3.cell? ⟨w.heap.size, 6, none⟩ = some (.int .i64 0) := HS3.out 6 _ rfl
      have k7 : w3.cell? ⟨w.heap.size, 7, none⟩ = some (.int .i64 1) := HS3.out 7 _ rfl
      have hb4 : Below w.heap.size w (w3.alloc (.cells #[.int .i64 4, .int .i64 0, .string ByteArray.empty, .string id, .int .i64 0, .int .i64 0, .int .i64 0, .int .i64 1] 27)) := HB3.out.alloc HB3.out.size _
      have hmt := matchesId_any (some ⟨b, off, none⟩) len cap ts HR.out _ (HN.out.below hb4) x hx HKD.out id w3.heap.size (fun i u h => cell_alloc_new' _ _ _ rfl h)
      obtain ⟨r, hr⟩ : ∃ r, hasKV (ts.getD x default).attrs ⟨#[105, 100]⟩ id (ts.getD x default).attrs.length = r := ⟨_, rfl⟩
      rw [hr] at hmt
      have HMT := Lib.hid hmt
      have HR4 := Lib.hid hr
      have HB4 := Lib.hid hb4
      clear hmt hr hb4
      go_wp2_with fail
      refine HMT.out.mono ?_
      rintro e w5 ⟨rfl, hb5⟩
      have hfin := Lib.hid (HB4.out.trans (hb5.out.mono HB4.out.size))
      clear hb5 HMT HB4
      cases r
      · simp only [truthI]
        go_wp2
        go_ret2
        exact ⟨false, true, rfl, Lib.hid (fun _ => ⟨HR.out, x, rfl, hx, HKD.out, HR4.out.symm⟩), hfin⟩
      · simp only [truthI]
        go_wp2
        go_ret2
        exact ⟨true, true, rfl, Lib.hid (fun _ => ⟨HR.out, x, rfl, hx, HKD.out, HR4.out.symm⟩), hfin⟩
    · have g : (q != 3) = true := by simp [h3]
      clear h3 hkd
      go_wp2
      go_ret2
      exact ⟨false, false, rfl, says_not _ _ _ _, HB1⟩
  · have hw : (decide (0 ≤ z) && decide (z < (len : Int))) = false := by
      rw [Bool.eq_false_iff]
      intro h
      simp at h
      exact hz h
    rw [hw]
    clear hz hw
    go_wp2
    go_ret2
    exact ⟨false, false, rfl, says_not _ _ _ _, HB1⟩

end Go.Proofs.Ytobnglgnoflbnaa
