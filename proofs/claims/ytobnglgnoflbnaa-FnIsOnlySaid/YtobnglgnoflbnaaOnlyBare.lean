/- A selector of an only child: spec.bareSel, RightSimple, simple, Picks, Matches; laws.alone. -/
import Derived.Test.YtobnglgnoflbnaaCountedT
import Derived.Test.YtobnglgnoflbnaaOnlyKin
import Derived.Test.YtobnglgnoflbnaaIsIdPart
import Derived.Test.YtobnglgnoflbnaaPlain
import Derived.Deep.RegionWith
namespace Go.Proofs.Ytobnglgnoflbnaa
open Go.RowKit
set_option linter.unusedVariables false
set_option linter.unusedSimpArgs false

/-- A selector's cells in memory. -/
def SelAtC (w : World) (sb : Nat) (c : Array Value) : Prop := ∀ i u, c[i]? = some u → w.cell? ⟨sb, i, none⟩ = some u
theorem SelAtC.below {w w' : World} {sb : Nat} {c : Array Value} (h : SelAtC w sb c) (hb : Below w.heap.size w w') : SelAtC w' sb c := fun i u hu => cell_below hb (h i u hu)

set_option maxRecDepth 100000 in
set_option maxHeartbeats 2000000 in
theorem bareOnly_false (w : World) : Calls Try.prog 81 #[.agg #[.int .i64 7, .int .i64 0, .string ByteArray.empty, .string ByteArray.empty, .int .i64 0, .int .i64 0, .int .i64 0, .int .i64 1]] w (SomeBoolB (fun _ => True) w) := by
  have hb0 : Below w.heap.size w (w.alloc (.cells #[.int .i64 7, .int .i64 0, .string ByteArray.empty, .string ByteArray.empty, .int .i64 0, .int .i64 0, .int .i64 0, .int .i64 1] 27)) := (Below.refl _ _).alloc (Nat.le_refl _) _
  have s0 : SelAtC (w.alloc (.cells #[.int .i64 7, .int .i64 0, .string ByteArray.empty, .string ByteArray.empty, .int .i64 0, .int .i64 0, .int .i64 0, .int .i64 1] 27)) w.heap.size #[.int .i64 7, .int .i64 0, .string ByteArray.empty, .string ByteArray.empty, .int .i64 0, .int .i64 0, .int .i64 0, .int .i64 1] := fun i u h => cell_alloc_new' _ _ _ rfl h
  obtain ⟨w0, hw0⟩ : ∃ w0, w.alloc (.cells #[.int .i64 7, .int .i64 0, .string ByteArray.empty, .string ByteArray.empty, .int .i64 0, .int .i64 0, .int .i64 0, .int .i64 1] 27) = w0 := ⟨_, rfl⟩
  rw [hw0] at hb0 s0
  have k0 : w0.cell? ⟨w.heap.size, 0, none⟩ = some (.int .i64 7) := s0 0 _ rfl
  have k1 : w0.cell? ⟨w.heap.size, 1, none⟩ = some (.int .i64 0) := s0 1 _ rfl
  have k2 : w0.cell? ⟨w.heap.size, 2, none⟩ = some (.string ByteArray.empty) := s0 2 _ rfl
  have k3 : w0.cell? ⟨w.heap.size, 3, none⟩ = some (.string ByteArray.empty) := s0 3 _ rfl
  have k4 : w0.cell? ⟨w.heap.size, 4, none⟩ = some (.int .i64 0) := s0 4 _ rfl
  have k5 : w0.cell? ⟨w.heap.size, 5, none⟩ = some (.int .i64 0) := s0 5 _ rfl
  have k6 : w0.cell? ⟨w.heap.size, 6, none⟩ = some (.int .i64 0) := s0 6 _ rfl
  have k7 : w0.cell? ⟨w.heap.size, 7, none⟩ = some (.int .i64 1) := s0 7 _ rfl
  have HB := Lib.hid hb0
  have hpl := Lib.hid (plain_any ByteArray.empty w0 (by simp [maxLen]))
  clear hb0 s0
  go_enter Try.func81, Try.ntmps81
  go_wp2_with fail
  refine hpl.out.mono ?_
  rintro e w1 ⟨b1, _, rfl, rfl⟩
  clear hpl
  cases b1
  · go_wp2
    go_ret
    exact ⟨false, trivial, rfl, HB.out⟩
  go_wp2_with fail
  go_quiet (fail)
  go_wp2_with fail
  go_ret
  exact ⟨_, trivial, rfl, below_drewN HB.out _⟩

set_option maxRecDepth 100000 in
set_option maxHeartbeats 2000000 in
theorem bareOnly_true (w : World) : Calls Try.prog 81 #[.agg #[.int .i64 7, .int .i64 0, .string ByteArray.empty, .string ByteArray.empty, .int .i64 0, .int .i64 0, .int .i64 2, .int .i64 1]] w (SomeBoolB (fun _ => True) w) := by
  have hb0 : Below w.heap.size w (w.alloc (.cells #[.int .i64 7, .int .i64 0, .string ByteArray.empty, .string ByteArray.empty, .int .i64 0, .int .i64 0, .int .i64 2, .int .i64 1] 27)) := (Below.refl _ _).alloc (Nat.le_refl _) _
  have s0 : SelAtC (w.alloc (.cells #[.int .i64 7, .int .i64 0, .string ByteArray.empty, .string ByteArray.empty, .int .i64 0, .int .i64 0, .int .i64 2, .int .i64 1] 27)) w.heap.size #[.int .i64 7, .int .i64 0, .string ByteArray.empty, .string ByteArray.empty, .int .i64 0, .int .i64 0, .int .i64 2, .int .i64 1] := fun i u h => cell_alloc_new' _ _ _ rfl h
  obtain ⟨w0, hw0⟩ : ∃ w0, w.alloc (.cells #[.int .i64 7, .int .i64 0, .string ByteArray.empty, .string ByteArray.empty, .int .i64 0, .int .i64 0, .int .i64 2, .int .i64 1] 27) = w0 := ⟨_, rfl⟩
  rw [hw0] at hb0 s0
  have k0 : w0.cell? ⟨w.heap.size, 0, none⟩ = some (.int .i64 7) := s0 0 _ rfl
  have k1 : w0.cell? ⟨w.heap.size, 1, none⟩ = some (.int .i64 0) := s0 1 _ rfl
  have k2 : w0.cell? ⟨w.heap.size, 2, none⟩ = some (.string ByteArray.empty) := s0 2 _ rfl
  have k3 : w0.cell? ⟨w.heap.size, 3, none⟩ = some (.string ByteArray.empty) := s0 3 _ rfl
  have k4 : w0.cell? ⟨w.heap.size, 4, none⟩ = some (.int .i64 0) := s0 4 _ rfl
  have k5 : w0.cell? ⟨w.heap.size, 5, none⟩ = some (.int .i64 0) := s0 5 _ rfl
  have k6 : w0.cell? ⟨w.heap.size, 6, none⟩ = some (.int .i64 2) := s0 6 _ rfl
  have k7 : w0.cell? ⟨w.heap.size, 7, none⟩ = some (.int .i64 1) := s0 7 _ rfl
  have HB := Lib.hid hb0
  have hpl := Lib.hid (plain_any ByteArray.empty w0 (by simp [maxLen]))
  clear hb0 s0
  go_enter Try.func81, Try.ntmps81
  go_wp2_with fail
  refine hpl.out.mono ?_
  rintro e w1 ⟨b1, _, rfl, rfl⟩
  clear hpl
  cases b1
  · go_wp2
    go_ret
    exact ⟨false, trivial, rfl, HB.out⟩
  go_wp2_with fail
  go_quiet (fail)
  go_wp2_with fail
  go_ret
  exact ⟨_, trivial, rfl, below_drewN HB.out _⟩

theorem bareOnly_any (ty : Bool) (w : World) : Calls Try.prog 81 #[.agg #[.int .i64 7, .int .i64 0, .string ByteArray.empty, .string ByteArray.empty, .int .i64 0, .int .i64 0, .int .i64 (flagI ty), .int .i64 1]] w (SomeBoolB (fun _ => True) w) := by
  cases ty
  · exact bareOnly_false w
  · exact bareOnly_true w

set_option maxRecDepth 100000 in
set_option maxHeartbeats 2000000 in
theorem rightSimpleOnly_any (ty : Bool) (w : World) : Calls Try.prog 46 #[.agg #[.int .i64 7, .int .i64 0, .string ByteArray.empty, .string ByteArray.empty, .int .i64 0, .int .i64 0, .int .i64 (flagI ty), .int .i64 1]] w (SomeBoolB (fun _ => True) w) := by
  have hbare := bareOnly_any ty
  obtain ⟨fl, hfl⟩ : ∃ fl, flagI ty = fl := ⟨_, rfl⟩
  rw [hfl] at hbare ⊢
  clear hfl
  have hb0 : Below w.heap.size w (w.alloc (.cells #[.int .i64 7, .int .i64 0, .string ByteArray.empty, .string ByteArray.empty, .int .i64 0, .int .i64 0, .int .i64 fl, .int .i64 1] 27)) := (Below.refl _ _).alloc (Nat.le_refl _) _
  have s0 : SelAtC (w.alloc (.cells #[.int .i64 7, .int .i64 0, .string ByteArray.empty, .string ByteArray.empty, .int .i64 0, .int .i64 0, .int .i64 fl, .int .i64 1] 27)) w.heap.size #[.int .i64 7, .int .i64 0, .string ByteArray.empty, .string ByteArray.empty, .int .i64 0, .int .i64 0, .int .i64 fl, .int .i64 1] := fun i u h => cell_alloc_new' _ _ _ rfl h
  obtain ⟨w0, hw0⟩ : ∃ w0, w.alloc (.cells #[.int .i64 7, .int .i64 0, .string ByteArray.empty, .string ByteArray.empty, .int .i64 0, .int .i64 0, .int .i64 fl, .int .i64 1] 27) = w0 := ⟨_, rfl⟩
  rw [hw0] at hb0 s0
  have k0 : w0.cell? ⟨w.heap.size, 0, none⟩ = some (.int .i64 7) := s0 0 _ rfl
  have k1 : w0.cell? ⟨w.heap.size, 1, none⟩ = some (.int .i64 0) := s0 1 _ rfl
  have k2 : w0.cell? ⟨w.heap.size, 2, none⟩ = some (.string ByteArray.empty) := s0 2 _ rfl
  have k3 : w0.cell? ⟨w.heap.size, 3, none⟩ = some (.string ByteArray.empty) := s0 3 _ rfl
  have k4 : w0.cell? ⟨w.heap.size, 4, none⟩ = some (.int .i64 0) := s0 4 _ rfl
  have k5 : w0.cell? ⟨w.heap.size, 5, none⟩ = some (.int .i64 0) := s0 5 _ rfl
  have k6 : w0.cell? ⟨w.heap.size, 6, none⟩ = some (.int .i64 fl) := s0 6 _ rfl
  have k7 : w0.cell? ⟨w.heap.size, 7, none⟩ = some (.int .i64 1) := s0 7 _ rfl
  have HBARE := Lib.hid (hbare w0)
  have HB := Lib.hid hb0
  clear hb0 s0 hbare
  go_enter Try.func46, Try.ntmps46
  go_wp2_with fail
  refine HBARE.out.mono ?_
  rintro e w1 ⟨b, _, rfl, hb⟩
  have hfin := Lib.hid (HB.out.trans (hb.mono HB.out.size))
  have k0' := cell_below hb k0
  clear hb HBARE k0 k1 k2 k3 k4 k5 k6 k7
  cases b
  · go_wp2
    go_ret
    exact ⟨false, trivial, rfl, hfin.out⟩
  · go_wp2
    go_ret
    exact ⟨_, trivial, rfl, hfin.out⟩

set_option maxRecDepth 100000 in
theorem both_any (a b : Bool) (w : World) : Calls Try.prog 85 #[.int .i64 (truthI a), .int .i64 (truthI b)] w (TruthPost (a && b) w) := by
  cases a <;> cases b <;> simp only [truthI]
  · go_enter Try.func85, Try.ntmps85
    go_wp2
    go_ret
    exact ⟨rfl, rfl⟩
  · go_enter Try.func85, Try.ntmps85
    go_wp2
    go_ret
    exact ⟨rfl, rfl⟩
  · go_enter Try.func85, Try.ntmps85
    go_wp2
    go_ret
    exact ⟨rfl, rfl⟩
  · go_enter Try.func85, Try.ntmps85
    go_wp2
    go_ret
    exact ⟨rfl, rfl⟩

def IntIs (v : Int) (w : World) (e : Ending) (w' : World) : Prop := e = .returned (.int .i64 v) ∧ w = w'
def IntIsB (v : Int) (w : World) (e : Ending) (w' : World) : Prop := e = .returned (.int .i64 v) ∧ Hid (Below w.heap.size w w')

set_option maxRecDepth 100000 in
theorem both_open (w : World) : Calls Try.prog 85 #[.int .i64 2, .int .i64 2] w (IntIs 2 w) := by
  go_enter Try.func85, Try.ntmps85
  go_wp2
  go_ret
  exact ⟨rfl, rfl⟩

set_option maxRecDepth 100000 in
set_option maxHeartbeats 1000000 in
theorem counted_open (fl : Int) (a : Option Addr) (len cap : Nat) (ts : List NodeD) (hR : RightT ts len) (w : World) (hN : Nodes w a len ts) (x : Nat) (hx : x < len) (p : Nat) (hp : par (sz ts) x = some p) (hpk : kd ts p ≠ 3) :
    Calls Try.prog 124 #[.slice a len cap, .int .i64 (x : Int), .int .i64 0, .int .i64 1, .int .i64 fl] w (IntIs 2 w) := by
  have hlen := hR.le
  have hpl : p < len := by have := (par_some hp).1; omega
  have hpar := parent_any a len cap ts x w hN hR.sizes (fun j hj => hR.nest.fit j hj) hx
  rw [hp] at hpar
  have HPAR := Lib.hid hpar
  obtain ⟨b, off, rfl, hc⟩ := hN.at hR.pos
  have cp := (hc p hpl).kind
  obtain ⟨q, hq⟩ : ∃ q, (ts.getD p default).kind = q := ⟨_, rfl⟩
  rw [hq] at cp
  have gq : (q != 3) = true := by
    have : q ≠ 3 := by rw [← hq]; exact hpk
    simp [this]
  have gq2 : (q == 3) = false := by simpa using gq
  have hplI : (p : Int) < (len : Int) := by omega
  have gp : decide ((p : Int) < 0) = false := by simp
  clear hN hpar hc hp hpk hR hq
  go_enter Try.func124, Try.ntmps124
  go_wp2_with fail
  refine HPAR.out.mono ?_
  rintro e w0 ⟨rfl, rfl⟩
  simp only [parI]
  clear HPAR
  go_wp2
  go_ret
  exact ⟨rfl, rfl⟩

/-- What an only-child selector says of a node. -/
def onlyV (ts : List NodeD) (len p x : Nat) (ty : Bool) : Int := if kd ts p = 3 then truthI (decide ((lb (sameKid ts p x ty) len).length = 1)) else 2

end Go.Proofs.Ytobnglgnoflbnaa
