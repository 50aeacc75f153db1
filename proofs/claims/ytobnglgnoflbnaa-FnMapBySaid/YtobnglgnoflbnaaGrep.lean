/- grep, winnowFunction. -/
import Derived.Test.YtobnglgnoflbnaaPlacesOf
namespace Go.Proofs.Ytobnglgnoflbnaa
open Go.RowKit
set_option linter.unusedVariables false
set_option linter.unusedSimpArgs false

def SinglePost (w : World) (e : Ending) (w' : World) : Prop := ∃ s, e = .returned (.pointer (some ⟨s, 0, none⟩)) ∧ Below w.heap.size w w'

set_option maxRecDepth 100000 in
theorem single_any (p d : Nat) (w : World) : Calls Try.prog 140 #[.pointer (some ⟨p, 0, none⟩), .pointer (some ⟨d, 0, none⟩)] w (SinglePost w) := by
  go_enter Try.func140, Try.ntmps140
  go_wp2
  go_ret
  exact ⟨w.heap.size + 1, rfl, ((Below.refl _ w).alloc (Nat.le_refl _) _).alloc (by simp) _⟩

/-- The places whose numbers a test takes. -/
def kept (P : Nat → Bool) (l : List Nat) : Nat → List Nat
  | 0 => []
  | k + 1 => if P k then kept P l k ++ [l.getD k 0] else kept P l k

theorem kept_map (P : Nat → Bool) (l : List Nat) (nb : Nat → Nat) : ∀ k, k ≤ l.length → kept P (l.map nb) k = (kept P l k).map nb := by
  intro k
  induction k with
  | zero => intro _; rfl
  | succ k ih =>
    intro hk
    simp only [kept]
    have : (l.map nb).getD k 0 = nb (l.getD k 0) := by simp [List.getD, show k < l.length by omega]
    rw [this, ih (by omega)]
    split <;> simp

theorem kept_length (P : Nat → Bool) (l : List Nat) : ∀ k, (kept P l k).length ≤ k := by
  intro k
  induction k with
  | zero => exact Nat.le_refl _
  | succ k ih =>
    simp only [kept]
    split
    · rw [List.length_append]; simp; omega
    · omega

theorem kept_mem (P : Nat → Bool) (l : List Nat) : ∀ k, k ≤ l.length → ∀ x ∈ kept P l k, x ∈ l := by
  intro k
  induction k with
  | zero => intro _ x hx; simp [kept] at hx
  | succ k ih =>
    intro hk x hx
    simp only [kept] at hx
    split at hx
    · simp at hx
      rcases hx with hx | rfl
      · exact ih (by omega) x hx
      · rw [← List.getD_eq_getElem?_getD]; exact getD_mem' (by omega)
    · exact ih (by omega) x hx

def BoolPostB (b : Bool) (w : World) (e : Ending) (w' : World) : Prop := e = .returned (.bool b) ∧ Below w.heap.size w w'

set_option maxRecDepth 100000 in
set_option maxHeartbeats 1000000 in
theorem grep_any {B : Nat} (s : Nat) (v : Value) (l : List Nat) (p1 p2 : Value) (P : Nat → Bool) (w : World) (hs : SelAt w s v l B) (hn : l.length ≤ 200)
    (hclo : ∀ k, k < l.length → ∀ w' : World, Below w.heap.size w w' → ∀ s' : Nat, Calls Try.prog 143 #[.int .i64 (k : Int), .pointer (some ⟨s', 0, none⟩), p1, p2] w' (BoolPostB (P k) w')) :
    Calls Try.prog 142 #[.pointer (some ⟨s, 0, none⟩), .func (.func 143) #[] #[p1, p2]] w (OwnPtrsPost (kept P l l.length) w) := by
  obtain ⟨d, hd⟩ := hs.doc
  have hc0 := hs.nodes
  obtain ⟨a, cap, b, off, rfl, hm, ha, hc⟩ := ptrs_open hs.own.ptrs
  have HA := Lib.hid ha
  have HC := Lib.hid hc
  have HCLO := Lib.hid hclo
  have HD := Lib.hid hd
  clear hs ha hc hclo hd
  obtain ⟨i0, hi, hz0, hz1, hz2⟩ := info_parts Try.infoPtr
  go_enter Try.func142, Try.ntmps142
  go_wp2
  go_loopw [4, 12] (fun x i wr => ∃ (k : Nat) (done : List Nat), i = .int .i64 k ∧ k ≤ l.length ∧ done.length ≤ k ∧ kept P l k = done ∧ OwnPtrs wr w.heap.size x done ∧ Below w.heap.size w wr)
    (fun _ i _ => l.length - (intOf i).toNat)
  case atStart => exact ⟨0, [], by go_num, by omega, by simp, rfl, World.ownsRow_nil _ _ _ _, Below.refl _ _⟩
  case round =>
    obtain ⟨k, done, rfl, hk, hdl, hdone, hown, hbel⟩ := hrel
    have HDONE := Lib.hid hdone
    have HOWN := Lib.hid hown
    have HBEL := Lib.hid hbel
    clear hdone hown hbel
    by_cases hlt : k < l.length
    · obtain rfl := HA.out (by omega)
      have ck := cell_below HBEL.out (HC.out k hlt)
      have cd := cell_below HBEL.out HD.out
      obtain ⟨x, hxx⟩ : ∃ x, l.getD k 0 = x := ⟨_, rfl⟩
      rw [hxx] at ck
      have HX := Lib.hid hxx
      clear hxx
      go_wp2_with fail
      refine (single_any x d wr).mono ?_
      rintro e w1 ⟨s1, rfl, hb1⟩
      have hbel1 : Below w.heap.size w w1 := HBEL.out.trans (hb1.mono HBEL.out.size)
      have hown1 : OwnPtrs w1 w.heap.size u4 done := ownsRow_kept HOWN.out (fun q hq => hb1.block q (World.ownsRow.lt HOWN.out q hq).2)
      have hcall := HCLO.out k hlt w1 hbel1 s1
      have HCALL := Lib.hid hcall
      have H1 := Lib.hid (And.intro hown1 hbel1)
      clear hcall hown1 hbel1 hb1 ck cd
      go_wp2_with fail
      refine HCALL.out.mono ?_
      rintro e w2 ⟨rfl, hb2⟩
      have hbel2 : Below w.heap.size w w2 := H1.out.2.trans (hb2.mono H1.out.2.size)
      have hown2 : w2.ownsRow w.heap.size 75 1 u4 done.length (done.map ptrV) := ownsRow_kept H1.out.1 (fun q hq => hb2.block q (World.ownsRow.lt H1.out.1 q hq).2)
      have HBEL2 := Lib.hid hbel2
      clear hb2 hbel2 HCALL
      cases hP : P k
      · have hkk : kept P l (k + 1) = done := by rw [kept, hP]; exact HDONE.out
        have HKK := Lib.hid hkk
        have HO2 := Lib.hid (show OwnPtrs w2 w.heap.size u4 done from hown2)
        clear hkk hP hown2
        go_wp2
        go_roundw
        case rel => exact ⟨k + 1, done, by go_num, by omega, by omega, HKK.out, HO2.out, HBEL2.out⟩
        case measure => simp [intOf]; omega
      · have hkk : kept P l (k + 1) = done ++ [x] := by rw [kept, hP, if_pos rfl, HDONE.out, HX.out]
        have HKK := Lib.hid hkk
        clear hkk hP
        go_wp2_with (at_builtin; refine wpList_append_own _ rfl _ _ 71 rfl w.heap.size 75 i0 (.pointer none) 1 8 Try.underlying71 hi hz0 hz1 hz2 rfl (by decide) _ _ _ rfl (hown2.alloc _) ⟨w2.heap.size, 0, none⟩ 1 1 [.pointer (some ⟨x, 0, none⟩)] rfl rfl ?c1 ?c2 ?c3 ?c4 ?c5 ?_)
        case c1 =>
          intro j u hj
          match j, hj with
          | 0, hj => simp at hj; subst hj; simp [Addr.add]
        case c2 => intro u hu; simp at hu; subst hu; rfl
        case c3 => unfold maxLen; omega
        case c4 => omega
        case c5 => have := HBEL2.out.size; simp; omega
        intro v' w3 hown3 hgrow _
        have hbel3 : Below w.heap.size w w3 := (HBEL2.out.alloc HBEL2.out.size _).grown hgrow (by have := HBEL2.out.size; simp; omega) (fun q hq => (World.ownsRow.lt hown2 q hq).1)
        have hsn := ownPtrs_snoc (k := x) hown3
        have H3 := Lib.hid (And.intro hsn hbel3)
        clear hown3 hgrow hbel3 hsn hown2
        go_wp2
        go_roundw
        case rel => exact ⟨k + 1, done ++ [x], by go_num, by omega, by simp; omega, HKK.out, H3.out.1, H3.out.2⟩
        case measure => simp [intOf]; omega
    · obtain rfl : k = l.length := by omega
      have HO : Hid (OwnPtrs wr w.heap.size u4 (kept P l l.length)) := by rw [HDONE.out]; exact HOWN
      clear hlt HDONE
      go_wp2
      go_ret
      exact ⟨_, rfl, HO, HBEL⟩

end Go.Proofs.Ytobnglgnoflbnaa
