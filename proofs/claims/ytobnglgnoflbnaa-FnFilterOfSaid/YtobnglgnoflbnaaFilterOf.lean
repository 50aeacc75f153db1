/- FilterNodes; spec.Those. -/
import Derived.Test.YtobnglgnoflbnaaMember
import Derived.Test.YtobnglgnoflbnaaGrep
namespace Go.Proofs.Ytobnglgnoflbnaa
open Go.RowKit
set_option linter.unusedVariables false
set_option linter.unusedSimpArgs false

/-- Whether the number at a place stands among some others. -/
def amid (l l2 : List Nat) (k : Nat) : Bool := decide (l.getD k 0 ∈ l2)

set_option maxRecDepth 100000 in
set_option maxHeartbeats 1000000 in
theorem winnowNodes_any {B : Nat} (s : Nat) (v v2 : Value) (l l2 : List Nat) (w : World) (hs : SelAt w s v l B) (h2 : PtrsOf w v2 l2) (a1 : ∀ i, i < l.length → Alive w (l.getD i 0)) (a2 : ∀ i, i < l2.length → Alive w (l2.getD i 0)) (hn : l.length ≤ 200) (hn2 : l2.length ≤ 200) :
    Calls Try.prog 109 #[.pointer (some ⟨s, 0, none⟩), v2, .bool true] w (OwnPtrsPost (kept (amid l l2) l l.length) w) := by
  have hc0 := hs.nodes
  obtain ⟨a, cap, b, off, rfl, hm, ha, hc⟩ := ptrs_open hs.own.ptrs
  obtain ⟨aa, cap2, hv2, hm2⟩ := h2.nil
  rw [List.length_map] at hv2 hm2
  have hcall := fun (k : Nat) (hk : k < l.length) (w' : World) (hb : Below w.heap.size w w') => isIn_any v2 l2 (l.getD k 0) w' (h2.below hb) (fun i hi => (a2 i hi).below hb) ((a1 k hk).below hb)
  subst hv2
  have HA := Lib.hid ha
  have HC := Lib.hid hc
  have HCALL := Lib.hid hcall
  clear hs ha hc hcall h2 a1 a2
  have g0 : decide ((l2.length : Int) + (l.length : Int) < 1000) = true := decide_eq_true (by omega)
  obtain ⟨i0, hi, hz0, hz1, hz2⟩ := info_parts Try.infoPtr
  go_enter Try.func109, Try.ntmps109
  go_wp2
  go_loopw [7, 30] (fun x i wr => ∃ (k : Nat) (done : List Nat), i = .int .i64 k ∧ k ≤ l.length ∧ done.length ≤ k ∧ kept (amid l l2) l k = done ∧ OwnPtrs wr w.heap.size x done ∧ Below w.heap.size w wr)
    (fun _ i _ => l.length - (intOf i).toNat)
  case atStart => exact ⟨0, [], by go_num, by omega, by simp, rfl, World.ownsRow_nil _ _ _ _, Below.refl _ _⟩
  case round =>
    obtain ⟨k, done, rfl, hk, hdl, hdone, hown, hbel⟩ := hrel
    have HDONE := Lib.hid hdone
    have HOWN := Lib.hid hown
    have HBEL := Lib.hid hbel
    clear hdone hown hbel
    by_cases hlt : k < l.length
    · obtain rfl := HA.out (by omega)
      have ck := cell_below HBEL.out (HC.out k hlt)
      have hcall := HCALL.out k hlt wr HBEL.out
      have hkp : kept (amid l l2) l (k + 1) = if amid l l2 k then done ++ [l.getD k 0] else done := by simp only [kept, HDONE.out]
      have ham : amid l l2 k = decide (l.getD k 0 ∈ l2) := rfl
      rw [← ham] at hcall
      obtain ⟨q, hq⟩ : ∃ q, amid l l2 k = q := ⟨_, rfl⟩
      obtain ⟨x, hxx⟩ : ∃ x, l.getD k 0 = x := ⟨_, rfl⟩
      rw [hxx] at ck hcall hkp
      rw [hq] at hcall hkp
      have HCL := Lib.hid hcall
      have HKP := Lib.hid hkp
      clear hxx hcall hkp ham hq
      go_wp2_with fail
      refine HCL.out.mono ?_
      rintro e w2 ⟨rfl, rfl⟩
      have hown2 : wr.ownsRow w.heap.size 75 1 u7 done.length (done.map ptrV) := HOWN.out
      cases q
      · clear hown2
        go_wp2
        go_roundw
        case rel => exact ⟨k + 1, done, by go_num, by omega, by omega, HKP.out, HOWN.out, HBEL.out⟩
        case measure => simp [intOf]; omega
      · go_wp2_with (at_builtin; refine wpList_append_own _ rfl _ _ 71 rfl w.heap.size 75 i0 (.pointer none) 1 8 Try.underlying71 hi hz0 hz1 hz2 rfl (by decide) _ _ _ rfl (hown2.alloc _) ⟨wr.heap.size, 0, none⟩ 1 1 [.pointer (some ⟨x, 0, none⟩)] rfl rfl ?c1 ?c2 ?c3 ?c4 ?c5 ?_)
        case c1 =>
          intro j u hj
          match j, hj with
          | 0, hj => simp at hj; subst hj; simp [Addr.add]
        case c2 => intro u hu; simp at hu; subst hu; rfl
        case c3 => unfold maxLen; omega
        case c4 => omega
        case c5 => have := HBEL.out.size; simp; omega
        intro v' w3 hown3 hgrow _
        have hbel3 : Below w.heap.size w w3 := (HBEL.out.alloc HBEL.out.size _).grown hgrow (by have := HBEL.out.size; simp; omega) (fun q hq => (World.ownsRow.lt hown2 q hq).1)
        have hsn := ownPtrs_snoc (k := x) hown3
        have H3 := Lib.hid (And.intro hsn hbel3)
        clear hown3 hgrow hbel3 hsn hown2
        go_wp2
        go_roundw
        case rel => exact ⟨k + 1, done ++ [x], by go_num, by omega, by simp; omega, HKP.out, H3.out.1, H3.out.2⟩
        case measure => simp [intOf]; omega
    · obtain rfl : k = l.length := by omega
      have HO : Hid (OwnPtrs wr w.heap.size u7 (kept (amid l l2) l l.length)) := by rw [HDONE.out]; exact HOWN
      clear hlt HDONE
      go_wp2
      go_ret
      exact ⟨_, rfl, HO, HBEL⟩

set_option maxRecDepth 100000 in
set_option maxHeartbeats 1000000 in
theorem filterNodes_any {B : Nat} (s : Nat) (v v2 : Value) (l l2 : List Nat) (w : World) (hs : SelAt w s v l B) (h2 : PtrsOf w v2 l2) (a1 : ∀ i, i < l.length → Alive w (l.getD i 0)) (a2 : ∀ i, i < l2.length → Alive w (l2.getD i 0)) (hn : l.length ≤ 200) (hn2 : l2.length ≤ 200) :
    Calls Try.prog 68 #[.pointer (some ⟨s, 0, none⟩), v2] w (SelPost (kept (amid l l2) l l.length) w) := by
  have hw := winnowNodes_any s v v2 l l2 w hs h2 a1 a2 hn hn2
  obtain ⟨L, hL⟩ : ∃ L, kept (amid l l2) l l.length = L := ⟨_, rfl⟩
  rw [hL] at hw ⊢
  clear hL
  obtain ⟨d, hd⟩ := hs.doc
  have HW := Lib.hid hw
  have HD := Lib.hid hd
  clear hw hs h2 hd a1 a2
  go_enter Try.func68, Try.ntmps68
  go_wp2_with fail
  refine HW.out.mono ?_
  rintro e w1 ⟨v', rfl, ho, hb⟩
  have c1' := cell_below hb.out HD.out
  obtain ⟨a', cap', hv, _⟩ := ho.out.ptrs.nil
  rw [List.length_map] at hv
  subst hv
  clear HW HD
  go_wp2
  go_ret
  refine ⟨w1.heap.size, .slice a' L.length cap', rfl, Lib.hid ⟨?_, ⟨d, ?_⟩, ?_, hb.out.size⟩, Lib.hid ?_⟩
  · exact cell_alloc_new' _ _ _ (by simp) rfl
  · exact cell_alloc_new' _ _ _ (by simp) rfl
  · exact ho.out.alloc _
  · exact hb.out.alloc hb.out.size _

set_option maxRecDepth 100000 in
set_option maxHeartbeats 1000000 in
theorem those_any (v v2 : Value) (l l2 : List Nat) (w : World) (h1 : ReadsAs w v (l.map intV)) (h2 : ReadsAs w v2 (l2.map intV)) (hn : l.length ≤ 200) :
    Calls Try.prog 35 #[v, v2, .bool false] w (OwnPlPost (kept (amid l l2) l l.length) w) := by
  obtain ⟨a, cap, b, off, rfl, hm, ha, hc⟩ := ints_open h1
  obtain ⟨aa, cap2, hv2, hm2⟩ := h2.nil
  rw [List.length_map] at hv2 hm2
  have hcall := fun (k : Nat) (w' : World) (hb : Below w.heap.size w w') => specIn_any v2 l2 (l.getD k 0) w' (h2.below hb)
  subst hv2
  have HA := Lib.hid ha
  have HC := Lib.hid hc
  have HCALL := Lib.hid hcall
  clear h1 h2 ha hc hcall
  obtain ⟨i0, hi, hz0, hz1, hz2⟩ := info_parts Try.infoInt
  go_enter Try.func35, Try.ntmps35
  go_wp2
  go_loopw [7, 8] (fun x i wr => ∃ (k : Nat) (done : List Nat), i = .int .i64 k ∧ k ≤ l.length ∧ done.length ≤ k ∧ kept (amid l l2) l k = done ∧ OwnPl wr w.heap.size x done ∧ Below w.heap.size w wr)
    (fun _ i _ => l.length - (intOf i).toNat)
  case atStart => exact ⟨0, [], by go_num, by omega, by simp, rfl, World.ownsRow_nil _ _ _ _, Below.refl _ _⟩
  case round =>
    obtain ⟨k, done, rfl, hk, hdl, hdone, hown, hbel⟩ := hrel
    have HDONE := Lib.hid hdone
    have HOWN := Lib.hid hown
    have HBEL := Lib.hid hbel
    clear hdone hown hbel
    by_cases hlt : k < l.length
    · obtain rfl := HA.out (by omega)
      have ck := cell_below HBEL.out (HC.out k hlt)
      have hkI : (k : Int) < (l.length : Int) := by omega
      have hcall := HCALL.out k wr HBEL.out
      have hkp : kept (amid l l2) l (k + 1) = if amid l l2 k then done ++ [l.getD k 0] else done := by simp only [kept, HDONE.out]
      have ham : amid l l2 k = decide (l.getD k 0 ∈ l2) := rfl
      rw [← ham] at hcall
      obtain ⟨q, hq⟩ : ∃ q, amid l l2 k = q := ⟨_, rfl⟩
      obtain ⟨x, hxx⟩ : ∃ x, l.getD k 0 = x := ⟨_, rfl⟩
      rw [hxx] at ck hcall hkp
      rw [hq] at hcall hkp
      have HCL := Lib.hid hcall
      have HKP := Lib.hid hkp
      clear hxx hcall hkp ham hq
      go_wp2_with fail
      refine HCL.out.mono ?_
      rintro e w2 ⟨rfl, rfl⟩
      have hown2 : wr.ownsRow w.heap.size 3 1 u7 done.length (done.map intV) := HOWN.out
      cases q
      · clear hown2
        go_wp2
        go_roundw
        case rel => exact ⟨k + 1, done, by go_num, by omega, by omega, HKP.out, HOWN.out, HBEL.out⟩
        case measure => simp [intOf]; omega
      · go_wp2_with (at_builtin; refine wpList_append_own _ rfl _ _ 32 rfl w.heap.size 3 i0 (.int .i64 0) 1 8 Try.underlying32 hi hz0 hz1 hz2 rfl (by decide) _ _ _ rfl (hown2.alloc _) ⟨wr.heap.size, 0, none⟩ 1 1 [.int .i64 (x : Int)] rfl rfl ?c1 ?c2 ?c3 ?c4 ?c5 ?_)
        case c1 =>
          intro j u hj
          match j, hj with
          | 0, hj => simp at hj; subst hj; simp [Addr.add]
        case c2 => intro u hu; simp at hu; subst hu; rfl
        case c3 => unfold maxLen; omega
        case c4 => omega
        case c5 => have := HBEL.out.size; simp; omega
        intro v' w3 hown3 hgrow _
        have hbel3 : Below w.heap.size w w3 := (HBEL.out.alloc HBEL.out.size _).grown hgrow (by have := HBEL.out.size; simp; omega) (fun q hq => (World.ownsRow.lt hown2 q hq).1)
        have hsn := ownInts_any_snoc (k := x) hown3
        have H3 := Lib.hid (And.intro hsn hbel3)
        clear hown3 hgrow hbel3 hsn hown2
        go_wp2
        go_roundw
        case rel => exact ⟨k + 1, done ++ [x], by go_num, by omega, by simp; omega, HKP.out, H3.out.1, H3.out.2⟩
        case measure => simp [intOf]; omega
    · obtain rfl : k = l.length := by omega
      have HO : Hid (OwnPl wr w.heap.size u7 (kept (amid l l2) l l.length)) := by rw [HDONE.out]; exact HOWN
      clear hlt HDONE
      go_wp2
      go_ret
      exact ⟨_, rfl, HO, HBEL⟩

end Go.Proofs.Ytobnglgnoflbnaa
