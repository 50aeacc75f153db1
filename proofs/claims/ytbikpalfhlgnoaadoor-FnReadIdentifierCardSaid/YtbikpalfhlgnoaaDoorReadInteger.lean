/- spec.reader.next, digits; spec.ReadInteger. -/
import Derived.Test.YtbikpalfhlgnoaaDoorCells
import Derived.Test.YtbikpalfhlgnoaaDoorDigits
namespace Go.Proofs.YtbikpalfhlgnoaaDoor
open Go.RowKit
set_option linter.unusedVariables false
set_option linter.unusedSimpArgs false

/-- A reader's cells. -/
def rdr (s : ByteArray) (k : Nat) (b u p : Bool) : Array Value := #[.string s, .int .i64 (k : Int), .bool b, .bool u, .bool p]

/-- A reader lies at block B. -/
def Rdr (w : World) (B : Nat) (s : ByteArray) (k : Nat) (b u p : Bool) : Prop := World.objAt w B (rdr s k b u p) 34

theorem Rdr.drew {w : World} {B : Nat} {s : ByteArray} {k : Nat} {b u p : Bool} (h : Rdr w B s k b u p) (q : Nat) : Rdr (w.drewN q) B s k b u p := by
  unfold Rdr World.objAt at h ⊢
  rw [World.heap_drewN]
  exact h

set_option maxRecDepth 100000 in
set_option maxHeartbeats 1000000 in
theorem next_any (s : ByteArray) (k B : Nat) (b u p : Bool) (w : World) (h : Rdr w B s k b u p) :
    Calls Tryd.prog 29 #[.pointer (some ⟨B, 0, none⟩)] w (fun e w' => e = .returned (.int .u8 (nx s k)) ∧ ∃ m, w' = w.drewN m) := by
  have c0 : w.cell? ⟨B, 0, none⟩ = some (.string s) := h.cell (i := 0) rfl
  have c1 : w.cell? ⟨B, 1, none⟩ = some (.int .i64 (k : Int)) := h.cell (i := 1) rfl
  clear h
  by_cases hlt : k < s.size
  · have g : decide ((s.size : Int) ≤ (k : Int)) = false := by simp; omega
    have gn : decide (s.size ≤ k) = false := by simp; omega
    go_enter Tryd.func29, Tryd.ntmps29
    go_wp2
    go_quiet (fail)
    go_wp2
    go_quiet (fail)
    go_wp2
    go_ret
    exact ⟨by rw [nx_lt hlt]; rfl, _, World.drewN_drewN _ _ _⟩
  · have g : decide ((s.size : Int) ≤ (k : Int)) = true := by simp; omega
    have gn : decide (s.size ≤ k) = true := by simp; omega
    go_enter Tryd.func29, Tryd.ntmps29
    go_wp2
    go_quiet (fail)
    go_wp2
    go_ret
    exact ⟨by rw [nx_end (by omega)]; rfl, _, rfl⟩

theorem Rdr.step {w : World} {B : Nat} {s : ByteArray} {k : Nat} {b u p : Bool} (h : Rdr w B s k b u p) : Rdr (w.setCell ⟨B, 1, none⟩ (.int .i64 ((k + 1 : Nat) : Int))) B s (k + 1) b u p :=
  World.objAt.set h 1 _

theorem Rdr.doubt {w : World} {B : Nat} {s : ByteArray} {k : Nat} {b u p : Bool} (h : Rdr w B s k b u p) (u' : Bool) : Rdr (w.setCell ⟨B, 3, none⟩ (.bool u')) B s k b u' p :=
  World.objAt.set h 3 _

theorem Rdr.left {w : World} {B : Nat} {s : ByteArray} {k : Nat} {b u p : Bool} (h : Rdr w B s k b u p) : s.size - (intOf ((w.cell? ⟨B, 1, none⟩).getD undef)).toNat = s.size - k := by
  have e : w.cell? ⟨B, 1, none⟩ = some (.int .i64 (k : Int)) := World.objAt.cell h (i := 1) rfl
  rw [e]
  simp [intOf]

def DigitsPost (s : ByteArray) (B : Nat) (w : World) (e : Ending) (w' : World) : Prop :=
  ∃ D, Digits s D ∧ e = .returned (.tuple #[.int .i64 (dval s D : Int), .bool (decide (0 < D))]) ∧ Rdr w' B s D false ((dval s D : Int) == 100000) false ∧ Below B w w'

set_option maxRecDepth 100000 in
set_option maxHeartbeats 4000000 in
theorem digits_any (s : ByteArray) (B : Nat) (w : World) (hs : s.size ≤ maxLen) (h : Rdr w B s 0 false false false) :
    Calls Tryd.prog 17 #[.pointer (some ⟨B, 0, none⟩)] w (DigitsPost s B w) := by
  unfold maxLen at hs
  go_enter Tryd.func17, Tryd.ntmps17
  go_wp2
  go_loopw [2, 3] (fun n is wr => ∃ k : Nat, n = .int .i64 (dval s k : Int) ∧ is = .bool (decide (0 < k)) ∧ (∀ i, i < k → isDg s i) ∧ Rdr wr B s k false false false ∧ Below B w wr)
    (fun _ _ wr => s.size - (intOf ((wr.cell? ⟨B, 1, none⟩).getD undef)).toNat)
  case atStart => exact ⟨0, by go_num, rfl, fun i hi => absurd hi (by omega), h, Below.refl _ _⟩
  case round =>
    obtain ⟨k, rfl, rfl, hd, hr, hb⟩ := hrel
    have HR := Lib.hid hr
    have HB := Lib.hid hb
    have HD := Lib.hid hd
    have hx0 := nx_nonneg s k
    have hx1 := nx_le s k
    have hv := dval_le s k
    obtain ⟨x, hx⟩ : ∃ x, nx s k = x := ⟨_, rfl⟩
    have HN : Hid (∀ w', Rdr w' B s k false false false → Calls Tryd.prog 29 #[.pointer (some ⟨B, 0, none⟩)] w' (fun e w'' => e = .returned (.int .u8 x) ∧ ∃ m, w'' = w'.drewN m)) := by
      rw [← hx]
      exact Lib.hid fun w' h' => next_any s k B false false false w' h'
    rw [hx] at hx0 hx1
    have HX := Lib.hid hx
    clear hr hb hd hx
    by_cases h48 : 48 ≤ x
    · have g1 : decide ((48 : Int) ≤ x) = true := by simp [h48]
      by_cases h57 : x ≤ 57
      · have g2 : decide (x ≤ (57 : Int)) = true := by simp [h57]
        have hlt : k < s.size := isDg.lt (s := s) (k := k) (by unfold isDg; rw [HX.out]; exact ⟨h48, h57⟩)
        have c1 : wr.cell? ⟨B, 1, none⟩ = some (.int .i64 (k : Int)) := HR.out.cell (i := 1) rfl
        have f1 : wr.frozen? ⟨B, 1, none⟩ = false := HR.out.free 1
        have hk1 : k < 9223372036854775807 := by omega
        by_cases hmin : (100000 : Int) < 10 * (dval s k : Int) + (x - 48)
        · go_wp2_with (go_at_call 29; refine (HN.out _ (by first | exact HR.out | exact HR.out.drew _)).mono ?_; rintro e w' ⟨rfl, m, rfl⟩)
          go_roundw
          case rel => exact ⟨k + 1, (by simp only [dval, HX.out]; congr 1; omega), (by simp), dg_snoc HD.out (by unfold isDg; rw [HX.out]; exact ⟨h48, h57⟩), (HR.out.drew _).step, World.objAt.setBelow (HR.out.drew _) 1 _ (below_drewN HB.out _) (Nat.le_refl _)⟩
          case measure => (refine Nat.lt_of_le_of_lt (Nat.le_of_eq (Rdr.left (HR.out.drew _).step)) (Nat.lt_of_lt_of_le ?_ (Nat.le_of_eq (Rdr.left HR.out).symm)); omega)
        · go_wp2_with (go_at_call 29; refine (HN.out _ (by first | exact HR.out | exact HR.out.drew _)).mono ?_; rintro e w' ⟨rfl, m, rfl⟩)
          go_roundw
          case rel => exact ⟨k + 1, (by simp only [dval, HX.out]; congr 1; omega), (by simp), dg_snoc HD.out (by unfold isDg; rw [HX.out]; exact ⟨h48, h57⟩), (HR.out.drew _).step, World.objAt.setBelow (HR.out.drew _) 1 _ (below_drewN HB.out _) (Nat.le_refl _)⟩
          case measure => (refine Nat.lt_of_le_of_lt (Nat.le_of_eq (Rdr.left (HR.out.drew _).step)) (Nat.lt_of_lt_of_le ?_ (Nat.le_of_eq (Rdr.left HR.out).symm)); omega)
      · have g2 : decide (x ≤ (57 : Int)) = false := by simp; omega
        have c3 : wr.cell? ⟨B, 3, none⟩ = some (.bool false) := HR.out.cell (i := 3) rfl
        have f3 : wr.frozen? ⟨B, 3, none⟩ = false := HR.out.free 3
        have hdg : ¬ isDg s k := by unfold isDg; rw [HX.out]; omega
        go_wp2_with (go_at_call 29; refine (HN.out _ (by first | exact HR.out | exact HR.out.drew _)).mono ?_; rintro e w' ⟨rfl, m, rfl⟩)
        go_ret2
        exact ⟨k, ⟨HD.out, hdg⟩, rfl, (HR.out.drew _).doubt _, World.objAt.setBelow (HR.out.drew _) 3 _ (below_drewN HB.out _) (Nat.le_refl _)⟩
    · have g1 : decide ((48 : Int) ≤ x) = false := by simp; omega
      have c3 : wr.cell? ⟨B, 3, none⟩ = some (.bool false) := HR.out.cell (i := 3) rfl
      have f3 : wr.frozen? ⟨B, 3, none⟩ = false := HR.out.free 3
      have hdg : ¬ isDg s k := by unfold isDg; rw [HX.out]; omega
      go_wp2_with (go_at_call 29; refine (HN.out _ (by first | exact HR.out | exact HR.out.drew _)).mono ?_; rintro e w' ⟨rfl, m, rfl⟩)
      go_ret2
      exact ⟨k, ⟨HD.out, hdg⟩, rfl, (HR.out.drew _).doubt _, World.objAt.setBelow (HR.out.drew _) 3 _ (below_drewN HB.out _) (Nat.le_refl _)⟩

end Go.Proofs.YtbikpalfhlgnoaaDoor
