/- A selector of an only child: Picks, Matches; laws.alone. -/
import Derived.Test.YtobnglgnoflbnaaOnlySimple
namespace Go.Proofs.Ytobnglgnoflbnaa
open Go.RowKit
set_option linter.unusedVariables false
set_option linter.unusedSimpArgs false

theorem simpleOnly_any (ty : Bool) (a : Option Addr) (len cap : Nat) (ts : List NodeD) (hR : RightT ts len) (w : World) (hN : Nodes w a len ts) (x : Nat) (hx : x < len) (hk : kd ts x = 3) (p : Nat) (hp : par (sz ts) x = some p) :
    Calls Try.prog 89 #[.slice a len cap, .int .i64 (x : Int), .agg #[.int .i64 7, .int .i64 0, .string ByteArray.empty, .string ByteArray.empty, .int .i64 0, .int .i64 0, .int .i64 (flagI ty), .int .i64 1]] w (IntIsB (onlyV ts len p x ty) w) := by
  cases ty
  · exact simpleOnly_false a len cap ts hR w hN x hx hk p hp
  · exact simpleOnly_true a len cap ts hR w hN x hx hk p hp

set_option maxRecDepth 100000 in
set_option maxHeartbeats 1000000 in
theorem picksOnly_any (sb : Nat) (fl : Int) (w : World) (h : SelAtC w sb #[.int .i64 7, .int .i64 0, .string ByteArray.empty, .string ByteArray.empty, .int .i64 0, .int .i64 0, .int .i64 fl, .int .i64 1]) :
    Calls Try.prog 83 #[.slice (some ⟨sb, 0, none⟩) 1 1, .int .i64 0] w (NilPost w) := by
  have k7 : w.cell? ⟨sb, 7, none⟩ = some (.int .i64 1) := h 7 _ rfl
  clear h
  go_enter Try.func83, Try.ntmps83
  go_wp2
  refine wp_loop_rounds 1 ?_
  rw [rounds_succ]
  go_wp2
  go_ret
  exact ⟨rfl, rfl⟩

set_option maxRecDepth 100000 in
set_option maxHeartbeats 2000000 in
theorem matchesOnly_any (ty : Bool) (a : Option Addr) (len cap : Nat) (ts : List NodeD) (hR : RightT ts len) (w : World) (hN : Nodes w a len ts) (x : Nat) (hx : x < len) (hk : kd ts x = 3) (p : Nat) (hp : par (sz ts) x = some p) (sb : Nat) (hs : SelAtC w sb #[.int .i64 7, .int .i64 0, .string ByteArray.empty, .string ByteArray.empty, .int .i64 0, .int .i64 0, .int .i64 (flagI ty), .int .i64 1]) :
    Calls Try.prog 47 #[.slice a len cap, .int .i64 (x : Int), .slice (some ⟨sb, 0, none⟩) 1 1, .int .i64 0] w (IntIsB (onlyV ts len p x ty) w) := by
  have hsim := simpleOnly_any ty a len cap ts hR w hN x hx hk p hp
  obtain ⟨b, off, rfl, hc⟩ := hN.at (by omega)
  have c0 := (hc x hx).kind
  have hkk : (ts.getD x default).kind = 3 := hk
  rw [hkk] at c0
  have hxI : (x : Int) < (len : Int) := by omega
  obtain ⟨fl, hfl⟩ : ∃ fl, flagI ty = fl := ⟨_, rfl⟩
  rw [hfl] at hsim hs
  have hpk := picksOnly_any sb fl w hs
  obtain ⟨q, hq⟩ : ∃ q, onlyV ts len p x ty = q := ⟨_, rfl⟩
  rw [hq] at hsim ⊢
  have k0 : w.cell? ⟨sb, 0, none⟩ = some (.int .i64 7) := hs 0 _ rfl
  have k1 : w.cell? ⟨sb, 1, none⟩ = some (.int .i64 0) := hs 1 _ rfl
  have k2 : w.cell? ⟨sb, 2, none⟩ = some (.string ByteArray.empty) := hs 2 _ rfl
  have k3 : w.cell? ⟨sb, 3, none⟩ = some (.string ByteArray.empty) := hs 3 _ rfl
  have k4 : w.cell? ⟨sb, 4, none⟩ = some (.int .i64 0) := hs 4 _ rfl
  have k5 : w.cell? ⟨sb, 5, none⟩ = some (.int .i64 0) := hs 5 _ rfl
  have k6 : w.cell? ⟨sb, 6, none⟩ = some (.int .i64 fl) := hs 6 _ rfl
  have k7 : w.cell? ⟨sb, 7, none⟩ = some (.int .i64 1) := hs 7 _ rfl
  have HS := Lib.hid hsim
  have HPK := Lib.hid hpk
  clear hsim hc hkk hpk hq hs hN hR hk hfl hp
  go_enter Try.func47, Try.ntmps47
  go_wp2_with fail
  refine HPK.out.mono ?_
  rintro e w1 ⟨rfl, rfl⟩
  clear HPK
  go_wp2_with fail
  refine HS.out.mono ?_
  rintro e w2 ⟨rfl, hb⟩
  clear HS
  go_wp2
  go_ret
  exact ⟨rfl, hb⟩

def AloneOnlySays (ts : List NodeD) (len : Nat) (z : Int) (ty : Bool) (want sure : Bool) : Prop :=
  sure = true → RightT ts len ∧ ∃ x p : Nat, z = (x : Int) ∧ x < len ∧ kd ts x = 3 ∧ par (sz ts) x = some p ∧ want = decide ((lb (sameKid ts p x ty) len).length = 1)

def AloneOnlyPost (ts : List NodeD) (len : Nat) (z : Int) (ty : Bool) (w : World) (e : Ending) (w' : World) : Prop :=
  ∃ want sure, e = .returned (.tuple #[.bool want, .bool sure]) ∧ Hid (AloneOnlySays ts len z ty want sure) ∧ Hid (Below w.heap.size w w')

theorem onlySays_not (ts : List NodeD) (len : Nat) (z : Int) (ty want : Bool) : Hid (AloneOnlySays ts len z ty want false) := Lib.hid (fun h => by cases h)

set_option maxRecDepth 100000 in
set_option maxHeartbeats 4000000 in
theorem lawsAloneOnly_any (ty : Bool) (a : Option Addr) (len cap : Nat) (ts : List NodeD) (z : Int) (w : World) (hN : Nodes w a len ts) :
    Calls Try.prog 14 #[.slice a len cap, .int .i64 z, .agg #[.int .i64 7, .int .i64 0, .string ByteArray.empty, .string ByteArray.empty, .int .i64 0, .int .i64 0, .int .i64 (flagI ty), .int .i64 0]] w (AloneOnlyPost ts len z ty w) := by
  have hrs := rightSimpleOnly_any ty
  have hmt := matchesOnly_any ty
  obtain ⟨fl, hfl⟩ : ∃ fl, flagI ty = fl := ⟨_, rfl⟩
  rw [hfl] at hrs hmt ⊢
  have hb0 : Below w.heap.size w (w.alloc (.cells #[.int .i64 7, .int .i64 0, .string ByteArray.empty, .string ByteArray.empty, .int .i64 0, .int .i64 0, .int .i64 fl, .int .i64 1] 27)) := (Below.refl _ _).alloc (Nat.le_refl _) _
  have s0 : SelAtC (w.alloc (.cells #[.int .i64 7, .int .i64 0, .string ByteArray.empty, .string ByteArray.empty, .int .i64 0, .int .i64 0, .int .i64 fl, .int .i64 1] 27)) w.heap.size #[.int .i64 7, .int .i64 0, .string ByteArray.empty, .string ByteArray.empty, .int .i64 0, .int .i64 0, .int .i64 fl, .int .i64 1] := fun i u h => cell_alloc_new' _ _ _ rfl h
  obtain ⟨w0, hw0⟩ : ∃ w0, w.alloc (.cells #[.int .i64 7, .int .i64 0, .string ByteArray.empty, .string ByteArray.empty, .int .i64 0, .int .i64 0, .int .i64 fl, .int .i64 1] 27) = w0 := ⟨_, rfl⟩
  rw [hw0] at hb0 s0
  have HN := Lib.hid hN
  have HB := Lib.hid hb0
  have HS := Lib.hid s0
  have HRS := Lib.hid hrs
  have HMT := Lib.hid hmt
  clear hN hb0 s0 hfl hrs hmt
  go_enter Try.func14, Try.ntmps14
  go_wp2_with fail
  refine (right_any a len cap ts w0 (HN.out.below HB.out)).mono ?_
  rintro e w1 ⟨b1, hb1, rfl, hbel1⟩
  have HB1 := Lib.hid (HB.out.trans (hbel1.mono HB.out.size))
  have HS1 := Lib.hid (HS.out.below hbel1)
  clear hbel1 HB HS hw0
  cases b1
  · go_wp2
    go_ret2
    exact ⟨false, false, rfl, onlySays_not _ _ _ _ _, HB1⟩
  have HR := Lib.hid (hb1 rfl)
  clear hb1
  go_wp2_with fail
  refine (within_any a len cap z w1).mono ?_
  rintro e w2 ⟨rfl, rfl⟩
  by_cases hz : 0 ≤ z ∧ z < (len : Int)
  · obtain ⟨hz0, hz1⟩ := hz
    obtain ⟨x, rfl⟩ := Int.eq_ofNat_of_zero_le hz0
    have hw : (decide (0 ≤ (x : Int)) && decide ((x : Int) < (len : Int))) = true := by simp; omega
    rw [hw]
    have hx : x < len := by omega
    have hN1 := HN.out.below HB1.out
    obtain ⟨b, off, rfl, hc⟩ := hN1.at (by omega)
    have c0 := (hc x hx).kind
    have hkd : kd ts x = (ts.getD x default).kind := rfl
    obtain ⟨q, hq⟩ : ∃ q, (ts.getD x default).kind = q := ⟨_, rfl⟩
    rw [hq] at c0 hkd
    have hxI : (x : Int) < (len : Int) := by omega
    clear hw hz0 hz1 hN1 hc hq
    by_cases h3 : q = 3
    · subst h3
      have hx0 : 0 < x := by
        rcases Nat.eq_zero_or_pos x with h | h
        · subst h; have := HR.out.kind; omega
        · exact h
      obtain ⟨p, hp⟩ := par_is HR.out.root hx hx0
      have HKD := Lib.hid (And.intro hkd hp)
      have k0 : w1.cell? ⟨w.heap.size, 0, none⟩ = some (.int .i64 7) := HS1.out 0 _ rfl
      have k1 : w1.cell? ⟨w.heap.size, 1, none⟩ = some (.int .i64 0) := HS1.out 1 _ rfl
      have k2 : w1.cell? ⟨w.heap.size, 2, none⟩ = some (.string ByteArray.empty) := HS1.out 2 _ rfl
      have k3 : w1.cell? ⟨w.heap.size, 3, none⟩ = some (.string ByteArray.empty) := HS1.out 3 _ rfl
      have k4 : w1.cell? ⟨w.heap.size, 4, none⟩ = some (.int .i64 0) := HS1.out 4 _ rfl
      have k5 : w1.cell? ⟨w.heap.size, 5, none⟩ = some (.int .i64 0) := HS1.out 5 _ rfl
      have k6 : w1.cell? ⟨w.heap.size, 6, none⟩ = some (.int .i64 fl) := HS1.out 6 _ rfl
      have k7 : w1.cell? ⟨w.heap.size, 7, none⟩ = some (.int .i64 1) := HS1.out 7 _ rfl
      clear hkd hp hx0
      go_wp2_with fail
      refine (HRS.out w1).mono ?_
      rintro e w3 ⟨b3, _, rfl, hbel3⟩
      have HB3 := Lib.hid (HB1.out.trans (hbel3.mono HB1.out.size))
      have HS3 := Lib.hid (HS1.out.below hbel3)
      clear hbel3 HRS k0 k1 k2 k3 k4 k5 k6 k7 c0
      cases b3
      · go_wp2
        go_ret2
        exact ⟨false, false, rfl, onlySays_not _ _ _ _ _, HB3⟩
      have k0 : w3.cell? ⟨w.heap.size, 0, none⟩ = some (.int .i64 7) := HS3.out 0 _ rfl
      have k1 : w3.cell? ⟨w.heap.size, 1, none⟩ = some (.int .i64 0) := HS3.out 1 _ rfl
      have k2 : w3.cell? ⟨w.heap.size, 2, none⟩ = some (.string ByteArray.empty) := HS3.out 2 _ rfl
      have k3 : w3.cell? ⟨w.heap.size, 3, none⟩ = some (.string ByteArray.empty) := HS3.out 3 _ rfl
      have k4 : w3.cell? ⟨w.heap.size, 4, none⟩ = some (.int .i64 0) := HS3.out 4 _ rfl
      have k5 : w3.cell? ⟨w.heap.size, 5, none⟩ = some (.int .i64 0) := HS3.out 5 _ rfl
      have k6 : w3.cell? ⟨w.heap.size, 6, none⟩ = some (.int .i64 fl) := HS3.out 6 _ rfl
      have k7 : w3.cell? ⟨w.heap.size, 7, none⟩ = some (.int .i64 1) := HS3.out 7 _ rfl
      have hb4 : Below w.heap.size w (w3.alloc (.cells #[.int .i64 7, .int .i64 0, .string ByteArray.empty, .string ByteArray.empty, .int .i64 0, .int .i64 0, .int .i64 fl, .int .i64 1] 27)) := HB3.out.alloc HB3.out.size _
      have hmt := HMT.out (some ⟨b, off, none⟩) len cap ts HR.out _ (HN.out.below hb4) x hx HKD.out.1 p HKD.out.2 w3.heap.size (fun i u h => cell_alloc_new' _ _ _ rfl h)
      have HMT2 := Lib.hid hmt
      have HB4 := Lib.hid hb4
      clear hmt hb4 HMT
      go_wp2_with fail
      refine HMT2.out.mono ?_
      rintro e w5 ⟨rfl, hb5⟩
      have hfin := Lib.hid (HB4.out.trans (hb5.out.mono HB4.out.size))
      clear hb5 HMT2 HB4
      by_cases hpk : kd ts p = 3
      · have e1 : onlyV ts len p x ty = truthI (decide ((lb (sameKid ts p x ty) len).length = 1)) := if_pos hpk
        rw [e1]
        obtain ⟨r, hr⟩ : ∃ r, decide ((lb (sameKid ts p x ty) len).length = 1) = r := ⟨_, rfl⟩
        rw [hr]
        have HR4 := Lib.hid hr
        clear hr e1 hpk
        cases r
        · simp only [truthI]
          go_wp2
          go_ret2
          exact ⟨false, true, rfl, Lib.hid (fun _ => ⟨HR.out, x, p, rfl, hx, HKD.out.1, HKD.out.2, HR4.out.symm⟩), hfin⟩
        · simp only [truthI]
          go_wp2
          go_ret2
          exact ⟨true, true, rfl, Lib.hid (fun _ => ⟨HR.out, x, p, rfl, hx, HKD.out.1, HKD.out.2, HR4.out.symm⟩), hfin⟩
      · have e1 : onlyV ts len p x ty = 2 := if_neg hpk
        rw [e1]
        clear e1 hpk
        go_wp2
        go_ret2
        exact ⟨_, false, rfl, onlySays_not _ _ _ _ _, hfin⟩
    · have g : (q != 3) = true := by simp [h3]
      clear h3 hkd
      go_wp2
      go_ret2
      exact ⟨false, false, rfl, onlySays_not _ _ _ _ _, HB1⟩
  · have hw : (decide (0 ≤ z) && decide (z < (len : Int))) = false := by
      rw [Bool.eq_false_iff]
      intro h
      simp at h
      exact hz h
    rw [hw]
    clear hz hw
    go_wp2
    go_ret2
    exact ⟨false, false, rfl, onlySays_not _ _ _ _ _, HB1⟩

end Go.Proofs.Ytobnglgnoflbnaa
