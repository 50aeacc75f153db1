/- getChildrenWithSiblingType. (Printed by gen_sib.py.) -/
import Derived.Test.YtphppdbhofeagaaGreatBesideAll
import Derived.Test.YtphppdbhofeagaaGreatSibIter
import Derived.Test.YtphppdbhofeagaaGreatPtrAll
import Derived.Laws.MakeOwn
namespace Go.Proofs.YtphppdbhofeagaaGreat
open Go.RowKit
set_option linter.unusedVariables false
set_option linter.unusedSimpArgs false

def StrEqB (b : Bool) (w : World) (e : Ending) (w' : World) : Prop := e = .returned (.bool b) ∧ w = w'
/-- A link; the world is as it was. -/
def LkPost (o : Option Nat) (w : World) (e : Ending) (w' : World) : Prop := e = .returned (lk o) ∧ w = w'

set_option maxRecDepth 100000 in
set_option maxHeartbeats 8000000 in
theorem kids_2 (o2 o3 : Option Addr) (f : Value) (L : List Nat) (w w3 : World) (hL : L.length ≤ 200) (hw3 : w3 = ((w.alloc (.cells #[.pointer o2] 75)).alloc (.cells #[.int .i64 2] 103)).alloc (.cells #[.pointer o3] 75))
    (hit : ∀ w', Below w3.heap.size w3 w' → Calls Tryz.prog 110 #[.pointer none, .pointer (some ⟨w.heap.size + 1, 0, none⟩), .pointer (some ⟨w.heap.size, 0, none⟩), .pointer (some ⟨w.heap.size + 1 + 1, 0, none⟩)] w' (LkPost L[0]? w') ∧
      ∀ k, k < L.length → Calls Tryz.prog 110 #[.pointer (some ⟨L.getD k 0, 0, none⟩), .pointer (some ⟨w.heap.size + 1, 0, none⟩), .pointer (some ⟨w.heap.size, 0, none⟩), .pointer (some ⟨w.heap.size + 1 + 1, 0, none⟩)] w' (LkPost L[k + 1]? w')) :
    Calls Tryz.prog 105 #[.pointer o2, .int .i64 2, .pointer o3, f] w (OwnPtrsPost L w) := by
  obtain ⟨i0, hi, hz0, hz1, hz2⟩ := info_parts Tryz.infoPtr
  have hb3 : Below w.heap.size w w3 := by rw [hw3]; exact (((Below.refl _ _).alloc (Nat.le_refl _) _).alloc (by simp) _).alloc (by simp; omega) _
  have cst : w3.cell? ⟨w.heap.size + 1, 0, none⟩ = some (.int .i64 2) := by rw [hw3]; exact cell_alloc_old (cell_alloc_new' _ _ _ (by simp) rfl) _
  have hmf : ∀ (fn : Fn) (first cap : Array Value) (w : World), (Instr.makeFunc fn first cap).run Tryz.prog w = .ok (.func fn first cap) w := fun _ _ _ _ => rfl
  have hsz : w.heap.size + 1 < w3.heap.size := by rw [hw3]; simp
  have HIT := Lib.hid hit
  have HB3 := Lib.hid hb3
  clear hit hb3
  have hmk := fun (w' : World) => run_make (P := Tryz.prog) w' 53 75 i0 (.pointer none) Tryz.underlying53 hi hz0 .i64 .i64 0 (L.length : Int) (by omega) (by omega) (by rw [hz2]; omega) (by omega)
  simp only [hz1, Int.toNat_zero, Int.toNat_natCast, Nat.mul_one] at hmk
  go_enter Tryz.func105, Tryz.ntmps105
  go_wp2_with fail
  rw [← hw3]
  clear hw3
  refine (HIT.out w3 (Below.refl _ _)).1.mono ?_
  rintro e w4 ⟨rfl, rfl⟩
  go_wp2
  go_loopw [10, 11] (fun n c wr => ∃ k, k ≤ L.length ∧ n = .int .i64 (k : Int) ∧ c = lk L[k]? ∧ w3 = wr) (fun n _ _ => L.length - (intOf n).toNat)
  case atStart => exact ⟨0, by omega, by go_num, rfl, rfl⟩
  case round =>
    obtain ⟨k, hk, rfl, rfl, rfl⟩ := hrel
    by_cases hlt : k < L.length
    · have he : L[k]? = some (L.getD k 0) := by simp [List.getD, hlt]
      rw [he, lk_some]
      have hcl := (HIT.out w3 (Below.refl _ _)).2 k hlt
      obtain ⟨y, hy⟩ : ∃ y, L.getD k 0 = y := ⟨_, rfl⟩
      rw [hy] at hcl ⊢
      have HCL := Lib.hid hcl
      clear hy hcl he
      go_wp2_with fail
      refine HCL.out.mono ?_
      rintro e w5 ⟨rfl, rfl⟩
      go_wp2
      go_roundw
      case rel => exact ⟨k + 1, by omega, by go_num, rfl, by first | rfl | trivial⟩
      case measure => simp [intOf]; omega
    · obtain rfl : k = L.length := by omega
      rw [show L[L.length]? = none by simp, lk_none]
      have hown0 : (w3.alloc (.cells (madeCells (Value.pointer none).cells L.length) 75)).ownsRow w3.heap.size 75 1 (.slice (some ⟨w3.heap.size, 0, none⟩) 0 L.length) 0 [] := World.ownsRow_made w3 _ L.length (Nat.le_refl _) (by unfold maxLen; omega) (by simp [size_madeCells])
      have hb4 : Below w3.heap.size w3 (w3.alloc (.cells (madeCells (Value.pointer none).cells L.length) 75)) := (Below.refl _ _).alloc (Nat.le_refl _) _
      have hmk3 := hmk w3
      obtain ⟨w4, hw4⟩ : ∃ w4, w3.alloc (.cells (madeCells (Value.pointer none).cells L.length) 75) = w4 := ⟨_, rfl⟩
      rw [hw4] at hown0 hb4 hmk3
      have cst4 := cell_below hb4 cst
      have HO4 := Lib.hid (And.intro hown0 hb4)
      clear hmk hown0 hb4 hlt hw4
      go_wp2_with fail
      refine (HIT.out w4 HO4.out.2).1.mono ?_
      rintro e w5 ⟨rfl, rfl⟩
      clear hmk3
      go_wp2
      go_loopg [8, 12] L.length (fun gk r c wy => ∃ k, gk = L.length - k ∧ k ≤ L.length ∧ c = lk L[k]? ∧ OwnPtrs wy w3.heap.size r (L.take k) ∧ Below w3.heap.size w3 wy)
      case atStart => exact ⟨0, by omega, by omega, rfl, HO4.out.1, HO4.out.2⟩
      case round =>
        obtain ⟨k, rfl, hk, rfl, hown, hbel⟩ := hrel
        have cstx := cell_below hbel cst
        by_cases hlt : k < L.length
        · have he : L[k]? = some (L.getD k 0) := by simp [List.getD, hlt]
          rw [he, lk_some]
          have hcl : ∀ w', Below w3.heap.size w3 w' → Calls Tryz.prog 110 #[.pointer (some ⟨L.getD k 0, 0, none⟩), .pointer (some ⟨w.heap.size + 1, 0, none⟩), .pointer (some ⟨w.heap.size, 0, none⟩), .pointer (some ⟨w.heap.size + 1 + 1, 0, none⟩)] w' (LkPost L[k + 1]? w') := fun w' hb => (HIT.out w' hb).2 k hlt
          have htk := take_snoc hlt
          obtain ⟨y, hy⟩ : ∃ y, L.getD k 0 = y := ⟨_, rfl⟩
          obtain ⟨D, hD⟩ : ∃ D, L.take k = D := ⟨_, rfl⟩
          have hDl : D.length = k := by rw [← hD]; simp; omega
          rw [hy] at hcl htk ⊢
          rw [hD] at hown htk
          have hown' : wr.ownsRow w3.heap.size 75 1 u8 D.length (D.map ptrV) := hown
          have HCL := Lib.hid hcl
          have HTK := Lib.hid htk
          have HBEL := Lib.hid hbel
          clear hy hcl he hD htk hown hbel
          go_wp2_with (at_builtin; refine wpList_append_own _ rfl _ _ 53 rfl w3.heap.size 75 i0 (.pointer none) 1 8 Tryz.underlying53 hi hz0 hz1 hz2 rfl (by decide) _ _ _ rfl (hown'.alloc _) ⟨wr.heap.size, 0, none⟩ 1 1 [.pointer (some ⟨y, 0, none⟩)] rfl rfl ?c1 ?c2 ?c3 ?c4 ?c5 ?_)
          case c1 =>
            intro j u hj
            match j, hj with
            | 0, hj => simp at hj; subst hj; simp [Addr.add]
          case c2 => intro u hu; simp at hu; subst hu; rfl
          case c3 => unfold maxLen; omega
          case c4 => omega
          case c5 => have := HBEL.out.size; first | (simp; done) | (simp; omega)
          intro v' w1 hown2 hgrow _
          have hbel2 : Below w3.heap.size w3 w1 := (HBEL.out.alloc HBEL.out.size _).grown hgrow (by have := HBEL.out.size; first | (simp; done) | (simp; omega)) (fun q hq => (World.ownsRow.lt hown' q hq).1)
          rw [← hDl] at hown2
          have hsn := ownPtrs_snoc (k := y) hown2
          have H1 := Lib.hid (And.intro hsn hbel2)
          have cst1 := cell_below hbel2 cst
          clear hown2 hgrow hbel2 hsn hown' cstx
          go_wp2_with fail
          refine (HCL.out w1 H1.out.2).mono ?_
          rintro e w6 ⟨rfl, rfl⟩
          go_wp2
          go_roundg (L.length - (k + 1))
          case measure => omega
          case rel => exact ⟨k + 1, rfl, by omega, rfl, by rw [HTK.out]; exact H1.out.1, H1.out.2⟩
        · obtain rfl : k = L.length := by omega
          rw [show L[L.length]? = none by simp, lk_none]
          rw [List.take_length] at hown
          have HOWN : Hid (OwnPtrs wr w.heap.size u8 L) := Lib.hid (ownsRow_base hown (by omega))
          have HBEL := Lib.hid (HB3.out.trans (hbel.mono HB3.out.size))
          clear hown hbel hlt
          go_wp2
          go_ret
          exact ⟨_, rfl, HOWN, HBEL⟩

set_option maxRecDepth 100000 in
set_option maxHeartbeats 8000000 in
theorem kids_0 (o2 o3 : Option Addr) (f : Value) (L : List Nat) (w w3 : World) (hL : L.length ≤ 200) (hw3 : w3 = ((w.alloc (.cells #[.pointer o2] 75)).alloc (.cells #[.int .i64 0] 103)).alloc (.cells #[.pointer o3] 75))
    (hit : ∀ w', Below w3.heap.size w3 w' → Calls Tryz.prog 110 #[.pointer none, .pointer (some ⟨w.heap.size + 1, 0, none⟩), .pointer (some ⟨w.heap.size, 0, none⟩), .pointer (some ⟨w.heap.size + 1 + 1, 0, none⟩)] w' (LkPost L[0]? w') ∧
      ∀ k, k < L.length → Calls Tryz.prog 110 #[.pointer (some ⟨L.getD k 0, 0, none⟩), .pointer (some ⟨w.heap.size + 1, 0, none⟩), .pointer (some ⟨w.heap.size, 0, none⟩), .pointer (some ⟨w.heap.size + 1 + 1, 0, none⟩)] w' (LkPost L[k + 1]? w')) :
    Calls Tryz.prog 105 #[.pointer o2, .int .i64 0, .pointer o3, f] w (OwnPtrsPost L w) := by
  obtain ⟨i0, hi, hz0, hz1, hz2⟩ := info_parts Tryz.infoPtr
  have hb3 : Below w.heap.size w w3 := by rw [hw3]; exact (((Below.refl _ _).alloc (Nat.le_refl _) _).alloc (by simp) _).alloc (by simp; omega) _
  have cst : w3.cell? ⟨w.heap.size + 1, 0, none⟩ = some (.int .i64 0) := by rw [hw3]; exact cell_alloc_old (cell_alloc_new' _ _ _ (by simp) rfl) _
  have hmf : ∀ (fn : Fn) (first cap : Array Value) (w : World), (Instr.makeFunc fn first cap).run Tryz.prog w = .ok (.func fn first cap) w := fun _ _ _ _ => rfl
  have hsz : w.heap.size + 1 < w3.heap.size := by rw [hw3]; simp
  have HIT := Lib.hid hit
  have HB3 := Lib.hid hb3
  clear hit hb3
  have hmk := fun (w' : World) => run_make (P := Tryz.prog) w' 53 75 i0 (.pointer none) Tryz.underlying53 hi hz0 .i64 .i64 0 (L.length : Int) (by omega) (by omega) (by rw [hz2]; omega) (by omega)
  simp only [hz1, Int.toNat_zero, Int.toNat_natCast, Nat.mul_one] at hmk
  go_enter Tryz.func105, Tryz.ntmps105
  go_wp2_with fail
  rw [← hw3]
  clear hw3
  refine (HIT.out w3 (Below.refl _ _)).1.mono ?_
  rintro e w4 ⟨rfl, rfl⟩
  go_wp2
  go_loopw [10, 11] (fun n c wr => ∃ k, k ≤ L.length ∧ n = .int .i64 (k : Int) ∧ c = lk L[k]? ∧ w3 = wr) (fun n _ _ => L.length - (intOf n).toNat)
  case atStart => exact ⟨0, by omega, by go_num, rfl, rfl⟩
  case round =>
    obtain ⟨k, hk, rfl, rfl, rfl⟩ := hrel
    by_cases hlt : k < L.length
    · have he : L[k]? = some (L.getD k 0) := by simp [List.getD, hlt]
      rw [he, lk_some]
      have hcl := (HIT.out w3 (Below.refl _ _)).2 k hlt
      obtain ⟨y, hy⟩ : ∃ y, L.getD k 0 = y := ⟨_, rfl⟩
      rw [hy] at hcl ⊢
      have HCL := Lib.hid hcl
      clear hy hcl he
      go_wp2_with fail
      refine HCL.out.mono ?_
      rintro e w5 ⟨rfl, rfl⟩
      go_wp2
      go_roundw
      case rel => exact ⟨k + 1, by omega, by go_num, rfl, by first | rfl | trivial⟩
      case measure => simp [intOf]; omega
    · obtain rfl : k = L.length := by omega
      rw [show L[L.length]? = none by simp, lk_none]
      have hown0 : (w3.alloc (.cells (madeCells (Value.pointer none).cells L.length) 75)).ownsRow w3.heap.size 75 1 (.slice (some ⟨w3.heap.size, 0, none⟩) 0 L.length) 0 [] := World.ownsRow_made w3 _ L.length (Nat.le_refl _) (by unfold maxLen; omega) (by simp [size_madeCells])
      have hb4 : Below w3.heap.size w3 (w3.alloc (.cells (madeCells (Value.pointer none).cells L.length) 75)) := (Below.refl _ _).alloc (Nat.le_refl _) _
      have hmk3 := hmk w3
      obtain ⟨w4, hw4⟩ : ∃ w4, w3.alloc (.cells (madeCells (Value.pointer none).cells L.length) 75) = w4 := ⟨_, rfl⟩
      rw [hw4] at hown0 hb4 hmk3
      have cst4 := cell_below hb4 cst
      have HO4 := Lib.hid (And.intro hown0 hb4)
      clear hmk hown0 hb4 hlt hw4
      go_wp2_with fail
      refine (HIT.out w4 HO4.out.2).1.mono ?_
      rintro e w5 ⟨rfl, rfl⟩
      clear hmk3
      go_wp2
      go_loopg [8, 12] L.length (fun gk r c wy => ∃ k, gk = L.length - k ∧ k ≤ L.length ∧ c = lk L[k]? ∧ OwnPtrs wy w3.heap.size r (L.take k) ∧ Below w3.heap.size w3 wy)
      case atStart => exact ⟨0, by omega, by omega, rfl, HO4.out.1, HO4.out.2⟩
      case round =>
        obtain ⟨k, rfl, hk, rfl, hown, hbel⟩ := hrel
        have cstx := cell_below hbel cst
        by_cases hlt : k < L.length
        · have he : L[k]? = some (L.getD k 0) := by simp [List.getD, hlt]
          rw [he, lk_some]
          have hcl : ∀ w', Below w3.heap.size w3 w' → Calls Tryz.prog 110 #[.pointer (some ⟨L.getD k 0, 0, none⟩), .pointer (some ⟨w.heap.size + 1, 0, none⟩), .pointer (some ⟨w.heap.size, 0, none⟩), .pointer (some ⟨w.heap.size + 1 + 1, 0, none⟩)] w' (LkPost L[k + 1]? w') := fun w' hb => (HIT.out w' hb).2 k hlt
          have htk := take_snoc hlt
          obtain ⟨y, hy⟩ : ∃ y, L.getD k 0 = y := ⟨_, rfl⟩
          obtain ⟨D, hD⟩ : ∃ D, L.take k = D := ⟨_, rfl⟩
          have hDl : D.length = k := by rw [← hD]; simp; omega
          rw [hy] at hcl htk ⊢
          rw [hD] at hown htk
          have hown' : wr.ownsRow w3.heap.size 75 1 u8 D.length (D.map ptrV) := hown
          have HCL := Lib.hid hcl
          have HTK := Lib.hid htk
          have HBEL := Lib.hid hbel
          clear hy hcl he hD htk hown hbel
          go_wp2_with (at_builtin; refine wpList_append_own _ rfl _ _ 53 rfl w3.heap.size 75 i0 (.pointer none) 1 8 Tryz.underlying53 hi hz0 hz1 hz2 rfl (by decide) _ _ _ rfl (hown'.alloc _) ⟨wr.heap.size, 0, none⟩ 1 1 [.pointer (some ⟨y, 0, none⟩)] rfl rfl ?c1 ?c2 ?c3 ?c4 ?c5 ?_)
          case c1 =>
            intro j u hj
            match j, hj with
            | 0, hj => simp at hj; subst hj; simp [Addr.add]
          case c2 => intro u hu; simp at hu; subst hu; rfl
          case c3 => unfold maxLen; omega
          case c4 => omega
          case c5 => have := HBEL.out.size; first | (simp; done) | (simp; omega)
          intro v' w1 hown2 hgrow _
          have hbel2 : Below w3.heap.size w3 w1 := (HBEL.out.alloc HBEL.out.size _).grown hgrow (by have := HBEL.out.size; first | (simp; done) | (simp; omega)) (fun q hq => (World.ownsRow.lt hown' q hq).1)
          rw [← hDl] at hown2
          have hsn := ownPtrs_snoc (k := y) hown2
          have H1 := Lib.hid (And.intro hsn hbel2)
          have cst1 := cell_below hbel2 cst
          clear hown2 hgrow hbel2 hsn hown' cstx
          go_wp2_with fail
          refine (HCL.out w1 H1.out.2).mono ?_
          rintro e w6 ⟨rfl, rfl⟩
          go_wp2
          go_roundg (L.length - (k + 1))
          case measure => omega
          case rel => exact ⟨k + 1, rfl, by omega, rfl, by rw [HTK.out]; exact H1.out.1, H1.out.2⟩
        · obtain rfl : k = L.length := by omega
          rw [show L[L.length]? = none by simp, lk_none]
          rw [List.take_length] at hown
          have HOWN : Hid (OwnPtrs wr w.heap.size u8 L) := Lib.hid (ownsRow_base hown (by omega))
          have HBEL := Lib.hid (HB3.out.trans (hbel.mono HB3.out.size))
          clear hown hbel hlt
          go_wp2
          go_ret
          exact ⟨_, rfl, HOWN, HBEL⟩

set_option maxRecDepth 100000 in
set_option maxHeartbeats 8000000 in
theorem kids_m2 (o2 o3 : Option Addr) (f : Value) (L : List Nat) (w w3 : World) (hL : L.length ≤ 200) (hw3 : w3 = ((w.alloc (.cells #[.pointer o2] 75)).alloc (.cells #[.int .i64 (-2)] 103)).alloc (.cells #[.pointer o3] 75))
    (hit : ∀ w', Below w3.heap.size w3 w' → Calls Tryz.prog 110 #[.pointer none, .pointer (some ⟨w.heap.size + 1, 0, none⟩), .pointer (some ⟨w.heap.size, 0, none⟩), .pointer (some ⟨w.heap.size + 1 + 1, 0, none⟩)] w' (LkPost L[0]? w') ∧
      ∀ k, k < L.length → Calls Tryz.prog 110 #[.pointer (some ⟨L.getD k 0, 0, none⟩), .pointer (some ⟨w.heap.size + 1, 0, none⟩), .pointer (some ⟨w.heap.size, 0, none⟩), .pointer (some ⟨w.heap.size + 1 + 1, 0, none⟩)] w' (LkPost L[k + 1]? w')) :
    Calls Tryz.prog 105 #[.pointer o2, .int .i64 (-2), .pointer o3, f] w (OwnPtrsPost L w) := by
  obtain ⟨i0, hi, hz0, hz1, hz2⟩ := info_parts Tryz.infoPtr
  have hb3 : Below w.heap.size w w3 := by rw [hw3]; exact (((Below.refl _ _).alloc (Nat.le_refl _) _).alloc (by simp) _).alloc (by simp; omega) _
  have cst : w3.cell? ⟨w.heap.size + 1, 0, none⟩ = some (.int .i64 (-2)) := by rw [hw3]; exact cell_alloc_old (cell_alloc_new' _ _ _ (by simp) rfl) _
  have hmf : ∀ (fn : Fn) (first cap : Array Value) (w : World), (Instr.makeFunc fn first cap).run Tryz.prog w = .ok (.func fn first cap) w := fun _ _ _ _ => rfl
  have hsz : w.heap.size + 1 < w3.heap.size := by rw [hw3]; simp
  have HIT := Lib.hid hit
  have HB3 := Lib.hid hb3
  clear hit hb3
  have hmk := fun (w' : World) => run_make (P := Tryz.prog) w' 53 75 i0 (.pointer none) Tryz.underlying53 hi hz0 .i64 .i64 0 (L.length : Int) (by omega) (by omega) (by rw [hz2]; omega) (by omega)
  simp only [hz1, Int.toNat_zero, Int.toNat_natCast, Nat.mul_one] at hmk
  go_enter Tryz.func105, Tryz.ntmps105
  go_wp2_with fail
  rw [← hw3]
  clear hw3
  refine (HIT.out w3 (Below.refl _ _)).1.mono ?_
  rintro e w4 ⟨rfl, rfl⟩
  go_wp2
  go_loopw [10, 11] (fun n c wr => ∃ k, k ≤ L.length ∧ n = .int .i64 (k : Int) ∧ c = lk L[k]? ∧ w3 = wr) (fun n _ _ => L.length - (intOf n).toNat)
  case atStart => exact ⟨0, by omega, by go_num, rfl, rfl⟩
  case round =>
    obtain ⟨k, hk, rfl, rfl, rfl⟩ := hrel
    by_cases hlt : k < L.length
    · have he : L[k]? = some (L.getD k 0) := by simp [List.getD, hlt]
      rw [he, lk_some]
      have hcl := (HIT.out w3 (Below.refl _ _)).2 k hlt
      obtain ⟨y, hy⟩ : ∃ y, L.getD k 0 = y := ⟨_, rfl⟩
      rw [hy] at hcl ⊢
      have HCL := Lib.hid hcl
      clear hy hcl he
      go_wp2_with fail
      refine HCL.out.mono ?_
      rintro e w5 ⟨rfl, rfl⟩
      go_wp2
      go_roundw
      case rel => exact ⟨k + 1, by omega, by go_num, rfl, by first | rfl | trivial⟩
      case measure => simp [intOf]; omega
    · obtain rfl : k = L.length := by omega
      rw [show L[L.length]? = none by simp, lk_none]
      have hown0 : (w3.alloc (.cells (madeCells (Value.pointer none).cells L.length) 75)).ownsRow w3.heap.size 75 1 (.slice (some ⟨w3.heap.size, 0, none⟩) 0 L.length) 0 [] := World.ownsRow_made w3 _ L.length (Nat.le_refl _) (by unfold maxLen; omega) (by simp [size_madeCells])
      have hb4 : Below w3.heap.size w3 (w3.alloc (.cells (madeCells (Value.pointer none).cells L.length) 75)) := (Below.refl _ _).alloc (Nat.le_refl _) _
      have hmk3 := hmk w3
      obtain ⟨w4, hw4⟩ : ∃ w4, w3.alloc (.cells (madeCells (Value.pointer none).cells L.length) 75) = w4 := ⟨_, rfl⟩
      rw [hw4] at hown0 hb4 hmk3
      have cst4 := cell_below hb4 cst
      have HO4 := Lib.hid (And.intro hown0 hb4)
      clear hmk hown0 hb4 hlt hw4
      go_wp2_with fail
      refine (HIT.out w4 HO4.out.2).1.mono ?_
      rintro e w5 ⟨rfl, rfl⟩
      clear hmk3
      go_wp2
      go_loopg [8, 12] L.length (fun gk r c wy => ∃ k, gk = L.length - k ∧ k ≤ L.length ∧ c = lk L[k]? ∧ OwnPtrs wy w3.heap.size r (L.take k) ∧ Below w3.heap.size w3 wy)
      case atStart => exact ⟨0, by omega, by omega, rfl, HO4.out.1, HO4.out.2⟩
      case round =>
        obtain ⟨k, rfl, hk, rfl, hown, hbel⟩ := hrel
        have cstx := cell_below hbel cst
        by_cases hlt : k < L.length
        · have he : L[k]? = some (L.getD k 0) := by simp [List.getD, hlt]
          rw [he, lk_some]
          have hcl : ∀ w', Below w3.heap.size w3 w' → Calls Tryz.prog 110 #[.pointer (some ⟨L.getD k 0, 0, none⟩), .pointer (some ⟨w.heap.size + 1, 0, none⟩), .pointer (some ⟨w.heap.size, 0, none⟩), .pointer (some ⟨w.heap.size + 1 + 1, 0, none⟩)] w' (LkPost L[k + 1]? w') := fun w' hb => (HIT.out w' hb).2 k hlt
          have htk := take_snoc hlt
          obtain ⟨y, hy⟩ : ∃ y, L.getD k 0 = y := ⟨_, rfl⟩
          obtain ⟨D, hD⟩ : ∃ D, L.take k = D := ⟨_, rfl⟩
          have hDl : D.length = k := by rw [← hD]; simp; omega
          rw [hy] at hcl htk ⊢
          rw [hD] at hown htk
          have hown' : wr.ownsRow w3.heap.size 75 1 u8 D.length (D.map ptrV) := hown
          have HCL := Lib.hid hcl
          have HTK := Lib.hid htk
          have HBEL := Lib.hid hbel
          clear hy hcl he hD htk hown hbel
          go_wp2_with (at_builtin; refine wpList_append_own _ rfl _ _ 53 rfl w3.heap.size 75 i0 (.pointer none) 1 8 Tryz.underlying53 hi hz0 hz1 hz2 rfl (by decide) _ _ _ rfl (hown'.alloc _) ⟨wr.heap.size, 0, none⟩ 1 1 [.pointer (some ⟨y, 0, none⟩)] rfl rfl ?c1 ?c2 ?c3 ?c4 ?c5 ?_)
          case c1 =>
            intro j u hj
            match j, hj with
            | 0, hj => simp at hj; subst hj; simp [Addr.add]
          case c2 => intro u hu; simp at hu; subst hu; rfl
          case c3 => unfold maxLen; omega
          case c4 => omega
          case c5 => have := HBEL.out.size; first | (simp; done) | (simp; omega)
          intro v' w1 hown2 hgrow _
          have hbel2 : Below w3.heap.size w3 w1 := (HBEL.out.alloc HBEL.out.size _).grown hgrow (by have := HBEL.out.size; first | (simp; done) | (simp; omega)) (fun q hq => (World.ownsRow.lt hown' q hq).1)
          rw [← hDl] at hown2
          have hsn := ownPtrs_snoc (k := y) hown2
          have H1 := Lib.hid (And.intro hsn hbel2)
          have cst1 := cell_below hbel2 cst
          clear hown2 hgrow hbel2 hsn hown' cstx
          go_wp2_with fail
          refine (HCL.out w1 H1.out.2).mono ?_
          rintro e w6 ⟨rfl, rfl⟩
          go_wp2
          go_roundg (L.length - (k + 1))
          case measure => omega
          case rel => exact ⟨k + 1, rfl, by omega, rfl, by rw [HTK.out]; exact H1.out.1, H1.out.2⟩
        · obtain rfl : k = L.length := by omega
          rw [show L[L.length]? = none by simp, lk_none]
          rw [List.take_length] at hown
          have HOWN : Hid (OwnPtrs wr w.heap.size u8 L) := Lib.hid (ownsRow_base hown (by omega))
          have HBEL := Lib.hid (HB3.out.trans (hbel.mono HB3.out.size))
          clear hown hbel hlt
          go_wp2
          go_ret
          exact ⟨_, rfl, HOWN, HBEL⟩

set_option maxRecDepth 100000 in
set_option maxHeartbeats 8000000 in
theorem kids_1 (o2 o3 : Option Addr) (f : Value) (L : List Nat) (w w3 : World) (hL : L.length ≤ 200) (hw3 : w3 = ((w.alloc (.cells #[.pointer o2] 75)).alloc (.cells #[.int .i64 1] 103)).alloc (.cells #[.pointer o3] 75))
    (hit : ∀ w', Below w3.heap.size w3 w' → Calls Tryz.prog 110 #[.pointer none, .pointer (some ⟨w.heap.size + 1, 0, none⟩), .pointer (some ⟨w.heap.size, 0, none⟩), .pointer (some ⟨w.heap.size + 1 + 1, 0, none⟩)] w' (LkPost L[0]? w') ∧
      ∀ k, k < L.length → Calls Tryz.prog 110 #[.pointer (some ⟨L.getD k 0, 0, none⟩), .pointer (some ⟨w.heap.size + 1, 0, none⟩), .pointer (some ⟨w.heap.size, 0, none⟩), .pointer (some ⟨w.heap.size + 1 + 1, 0, none⟩)] w' (LkPost L[k + 1]? w')) :
    Calls Tryz.prog 105 #[.pointer o2, .int .i64 1, .pointer o3, f] w (OwnPtrsPost (L.take 1) w) := by
  obtain ⟨i0, hi, hz0, hz1, hz2⟩ := info_parts Tryz.infoPtr
  have hb3 : Below w.heap.size w w3 := by rw [hw3]; exact (((Below.refl _ _).alloc (Nat.le_refl _) _).alloc (by simp) _).alloc (by simp; omega) _
  have cst : w3.cell? ⟨w.heap.size + 1, 0, none⟩ = some (.int .i64 1) := by rw [hw3]; exact cell_alloc_old (cell_alloc_new' _ _ _ (by simp) rfl) _
  have hmf : ∀ (fn : Fn) (first cap : Array Value) (w : World), (Instr.makeFunc fn first cap).run Tryz.prog w = .ok (.func fn first cap) w := fun _ _ _ _ => rfl
  have hsz : w.heap.size + 1 < w3.heap.size := by rw [hw3]; simp
  have HIT := Lib.hid hit
  have HB3 := Lib.hid hb3
  clear hit hb3
  go_enter Tryz.func105, Tryz.ntmps105
  go_wp2_with fail
  rw [← hw3]
  clear hw3
  refine (HIT.out w3 (Below.refl _ _)).1.mono ?_
  rintro e w4 ⟨rfl, rfl⟩
  go_wp2
  go_loopw [8, 12] (fun r c wy => r = .slice none 0 0 ∧ c = lk L[0]? ∧ w3 = wy) (fun _ _ _ => 0)
  case atStart => exact ⟨rfl, rfl, rfl⟩
  case round =>
    obtain ⟨rfl, rfl, rfl⟩ := hrel
    have hown := World.ownsRow_nil w3 w3.heap.size 75 1
    have hbel := Below.refl w3.heap.size w3
    have cstx := cst
    by_cases hlt : 0 < L.length
    · have he : L[0]? = some (L.getD 0 0) := by simp [List.getD, hlt]
      have ht1 : L.take 1 = [L.getD 0 0] := by rw [show (1 : Nat) = 0 + 1 from rfl, take_snoc hlt]; simp
      rw [he, lk_some, ht1]
      obtain ⟨y, hy⟩ : ∃ y, L.getD 0 0 = y := ⟨_, rfl⟩
      obtain ⟨D, hD⟩ : ∃ D : List Nat, [] = D := ⟨_, rfl⟩
      have hDl : D.length = 0 := by rw [← hD]; rfl
      rw [hy]
      have hown' : w3.ownsRow w3.heap.size 75 1 (.slice none 0 0) D.length (D.map ptrV) := by rw [← hD]; exact hown
      have HBEL := Lib.hid hbel
      have HD := Lib.hid hD
      clear hy he ht1 hown hbel hD
      go_wp2_with (at_builtin; refine wpList_append_own _ rfl _ _ 53 rfl w3.heap.size 75 i0 (.pointer none) 1 8 Tryz.underlying53 hi hz0 hz1 hz2 rfl (by decide) _ _ _ rfl (hown'.alloc _) ⟨w3.heap.size, 0, none⟩ 1 1 [.pointer (some ⟨y, 0, none⟩)] rfl rfl ?c1 ?c2 ?c3 ?c4 ?c5 ?_)
      case c1 =>
        intro j u hj
        match j, hj with
        | 0, hj => simp at hj; subst hj; simp [Addr.add]
      case c2 => intro u hu; simp at hu; subst hu; rfl
      case c3 => unfold maxLen; omega
      case c4 => omega
      case c5 => have := HBEL.out.size; first | (simp; done) | (simp; omega)
      intro v' w1 hown2 hgrow _
      have hbel2 : Below w3.heap.size w3 w1 := (HBEL.out.alloc HBEL.out.size _).grown hgrow (by have := HBEL.out.size; first | (simp; done) | (simp; omega)) (fun q hq => (World.ownsRow.lt hown' q hq).1)
      have hown2 : w1.ownsRow w3.heap.size 75 1 v' (D.length + 1) (D.map ptrV ++ [.pointer (some ⟨y, 0, none⟩)]) := by first | exact hown2 | (rw [hDl]; exact hown2)
      have hsn := ownPtrs_snoc (k := y) hown2
      have H1 := Lib.hid (And.intro hsn hbel2)
      have cst1 := cell_below hbel2 cst
      clear hown2 hgrow hbel2 hsn hown' cstx
      have HF := Lib.hid (show OwnPtrs w1 w.heap.size v' [y] ∧ Below w.heap.size w w1 from ⟨by have h := H1.out.1; rw [← HD.out] at h; exact ownsRow_base h HB3.out.size, HB3.out.trans (H1.out.2.mono HB3.out.size)⟩)
      clear H1
      go_wp2
      go_ret
      exact ⟨_, rfl, Lib.hid HF.out.1, Lib.hid HF.out.2⟩
    · have h0 : L = [] := List.eq_nil_of_length_eq_zero (by omega)
      have HB := Lib.hid HB3.out
      have H0 := Lib.hid h0
      rw [show L[0]? = none by rw [h0]; rfl, lk_none]
      clear h0 hown hbel hlt
      go_wp2
      go_ret
      exact ⟨_, rfl, Lib.hid (by rw [H0.out]; exact World.ownsRow_nil _ _ _ _), HB⟩

set_option maxRecDepth 100000 in
set_option maxHeartbeats 8000000 in
theorem kids_m1 (o2 o3 : Option Addr) (f : Value) (L : List Nat) (w w3 : World) (hL : L.length ≤ 200) (hw3 : w3 = ((w.alloc (.cells #[.pointer o2] 75)).alloc (.cells #[.int .i64 (-1)] 103)).alloc (.cells #[.pointer o3] 75))
    (hit : ∀ w', Below w3.heap.size w3 w' → Calls Tryz.prog 110 #[.pointer none, .pointer (some ⟨w.heap.size + 1, 0, none⟩), .pointer (some ⟨w.heap.size, 0, none⟩), .pointer (some ⟨w.heap.size + 1 + 1, 0, none⟩)] w' (LkPost L[0]? w') ∧
      ∀ k, k < L.length → Calls Tryz.prog 110 #[.pointer (some ⟨L.getD k 0, 0, none⟩), .pointer (some ⟨w.heap.size + 1, 0, none⟩), .pointer (some ⟨w.heap.size, 0, none⟩), .pointer (some ⟨w.heap.size + 1 + 1, 0, none⟩)] w' (LkPost L[k + 1]? w')) :
    Calls Tryz.prog 105 #[.pointer o2, .int .i64 (-1), .pointer o3, f] w (OwnPtrsPost (L.take 1) w) := by
  obtain ⟨i0, hi, hz0, hz1, hz2⟩ := info_parts Tryz.infoPtr
  have hb3 : Below w.heap.size w w3 := by rw [hw3]; exact (((Below.refl _ _).alloc (Nat.le_refl _) _).alloc (by simp) _).alloc (by simp; omega) _
  have cst : w3.cell? ⟨w.heap.size + 1, 0, none⟩ = some (.int .i64 (-1)) := by rw [hw3]; exact cell_alloc_old (cell_alloc_new' _ _ _ (by simp) rfl) _
  have hmf : ∀ (fn : Fn) (first cap : Array Value) (w : World), (Instr.makeFunc fn first cap).run Tryz.prog w = .ok (.func fn first cap) w := fun _ _ _ _ => rfl
  have hsz : w.heap.size + 1 < w3.heap.size := by rw [hw3]; simp
  have HIT := Lib.hid hit
  have HB3 := Lib.hid hb3
  clear hit hb3
  go_enter Tryz.func105, Tryz.ntmps105
  go_wp2_with fail
  rw [← hw3]
  clear hw3
  refine (HIT.out w3 (Below.refl _ _)).1.mono ?_
  rintro e w4 ⟨rfl, rfl⟩
  go_wp2
  go_loopw [8, 12] (fun r c wy => r = .slice none 0 0 ∧ c = lk L[0]? ∧ w3 = wy) (fun _ _ _ => 0)
  case atStart => exact ⟨rfl, rfl, rfl⟩
  case round =>
    obtain ⟨rfl, rfl, rfl⟩ := hrel
    have hown := World.ownsRow_nil w3 w3.heap.size 75 1
    have hbel := Below.refl w3.heap.size w3
    have cstx := cst
    by_cases hlt : 0 < L.length
    · have he : L[0]? = some (L.getD 0 0) := by simp [List.getD, hlt]
      have ht1 : L.take 1 = [L.getD 0 0] := by rw [show (1 : Nat) = 0 + 1 from rfl, take_snoc hlt]; simp
      rw [he, lk_some, ht1]
      obtain ⟨y, hy⟩ : ∃ y, L.getD 0 0 = y := ⟨_, rfl⟩
      obtain ⟨D, hD⟩ : ∃ D : List Nat, [] = D := ⟨_, rfl⟩
      have hDl : D.length = 0 := by rw [← hD]; rfl
      rw [hy]
      have hown' : w3.ownsRow w3.heap.size 75 1 (.slice none 0 0) D.length (D.map ptrV) := by rw [← hD]; exact hown
      have HBEL := Lib.hid hbel
      have HD := Lib.hid hD
      clear hy he ht1 hown hbel hD
      go_wp2_with (at_builtin; refine wpList_append_own _ rfl _ _ 53 rfl w3.heap.size 75 i0 (.pointer none) 1 8 Tryz.underlying53 hi hz0 hz1 hz2 rfl (by decide) _ _ _ rfl (hown'.alloc _) ⟨w3.heap.size, 0, none⟩ 1 1 [.pointer (some ⟨y, 0, none⟩)] rfl rfl ?c1 ?c2 ?c3 ?c4 ?c5 ?_)
      case c1 =>
        intro j u hj
        match j, hj with
        | 0, hj => simp at hj; subst hj; simp [Addr.add]
      case c2 => intro u hu; simp at hu; subst hu; rfl
      case c3 => unfold maxLen; omega
      case c4 => omega
      case c5 => have := HBEL.out.size; first | (simp; done) | (simp; omega)
      intro v' w1 hown2 hgrow _
      have hbel2 : Below w3.heap.size w3 w1 := (HBEL.out.alloc HBEL.out.size _).grown hgrow (by have := HBEL.out.size; first | (simp; done) | (simp; omega)) (fun q hq => (World.ownsRow.lt hown' q hq).1)
      have hown2 : w1.ownsRow w3.heap.size 75 1 v' (D.length + 1) (D.map ptrV ++ [.pointer (some ⟨y, 0, none⟩)]) := by first | exact hown2 | (rw [hDl]; exact hown2)
      have hsn := ownPtrs_snoc (k := y) hown2
      have H1 := Lib.hid (And.intro hsn hbel2)
      have cst1 := cell_below hbel2 cst
      clear hown2 hgrow hbel2 hsn hown' cstx
      have HF := Lib.hid (show OwnPtrs w1 w.heap.size v' [y] ∧ Below w.heap.size w w1 from ⟨by have h := H1.out.1; rw [← HD.out] at h; exact ownsRow_base h HB3.out.size, HB3.out.trans (H1.out.2.mono HB3.out.size)⟩)
      clear H1
      go_wp2
      go_ret
      exact ⟨_, rfl, Lib.hid HF.out.1, Lib.hid HF.out.2⟩
    · have h0 : L = [] := List.eq_nil_of_length_eq_zero (by omega)
      have HB := Lib.hid HB3.out
      have H0 := Lib.hid h0
      rw [show L[0]? = none by rw [h0]; rfl, lk_none]
      clear h0 hown hbel hlt
      go_wp2
      go_ret
      exact ⟨_, rfl, Lib.hid (by rw [H0.out]; exact World.ownsRow_nil _ _ _ _), HB⟩

set_option maxRecDepth 100000 in
set_option maxHeartbeats 8000000 in
theorem kids_3 (o2 o3 : Option Addr) (L : List Nat) (w w3 : World) (hL : L.length ≤ 200) (hw3 : w3 = ((w.alloc (.cells #[.pointer o2] 75)).alloc (.cells #[.int .i64 3] 103)).alloc (.cells #[.pointer o3] 75)) (b4 b5 : Nat) (U : Nat → Bool)
    (hit : ∀ w', Below w3.heap.size w3 w' → Calls Tryz.prog 110 #[.pointer none, .pointer (some ⟨w.heap.size + 1, 0, none⟩), .pointer (some ⟨w.heap.size, 0, none⟩), .pointer (some ⟨w.heap.size + 1 + 1, 0, none⟩)] w' (LkPost L[0]? w') ∧
      ∀ k, k < L.length → Calls Tryz.prog 110 #[.pointer (some ⟨L.getD k 0, 0, none⟩), .pointer (some ⟨w.heap.size + 1, 0, none⟩), .pointer (some ⟨w.heap.size, 0, none⟩), .pointer (some ⟨w.heap.size + 1 + 1, 0, none⟩)] w' (LkPost L[k + 1]? w')) :
    (∀ w', Below w3.heap.size w3 w' → ∀ k, k < L.length → Calls Tryz.prog 103 #[.pointer (some ⟨L.getD k 0, 0, none⟩), .pointer (some ⟨b4, 0, none⟩), .pointer (some ⟨b5, 0, none⟩)] w' (StrEqB (U (L.getD k 0)) w')) →
    Calls Tryz.prog 105 #[.pointer o2, .int .i64 3, .pointer o3, .func (.func 103) #[] #[.pointer (some ⟨b4, 0, none⟩), .pointer (some ⟨b5, 0, none⟩)]] w (OwnPtrsPost (upToL U L) w) := by
  intro hun
  have HUN := Lib.hid hun
  clear hun
  obtain ⟨i0, hi, hz0, hz1, hz2⟩ := info_parts Tryz.infoPtr
  have hb3 : Below w.heap.size w w3 := by rw [hw3]; exact (((Below.refl _ _).alloc (Nat.le_refl _) _).alloc (by simp) _).alloc (by simp; omega) _
  have cst : w3.cell? ⟨w.heap.size + 1, 0, none⟩ = some (.int .i64 3) := by rw [hw3]; exact cell_alloc_old (cell_alloc_new' _ _ _ (by simp) rfl) _
  have hmf : ∀ (fn : Fn) (first cap : Array Value) (w : World), (Instr.makeFunc fn first cap).run Tryz.prog w = .ok (.func fn first cap) w := fun _ _ _ _ => rfl
  have hsz : w.heap.size + 1 < w3.heap.size := by rw [hw3]; simp
  have HIT := Lib.hid hit
  have HB3 := Lib.hid hb3
  clear hit hb3
  go_enter Tryz.func105, Tryz.ntmps105
  go_wp2_with fail
  rw [← hw3]
  clear hw3
  refine (HIT.out w3 (Below.refl _ _)).1.mono ?_
  rintro e w4 ⟨rfl, rfl⟩
  go_wp2
  go_loopg [8, 12] L.length (fun gk r c wy => ∃ k, gk = L.length - k ∧ k ≤ L.length ∧ c = lk L[k]? ∧ (∀ j, j < k → U (L.getD j 0) = false) ∧ OwnPtrs wy w3.heap.size r (L.take k) ∧ Below w3.heap.size w3 wy)
  case atStart => exact ⟨0, by omega, by omega, rfl, fun j hj => by omega, World.ownsRow_nil _ _ _ _, Below.refl _ _⟩
  case round =>
    obtain ⟨k, rfl, hk, rfl, hno, hown, hbel⟩ := hrel
    have HNO := Lib.hid hno
    clear hno
    have cstx := cell_below hbel cst
    by_cases hlt : k < L.length
    · have hun := HUN.out wr hbel k hlt
      have hus := fun (h : U (L.getD k 0) = true) => upTo_at hlt HNO.out h
      have hun2 := fun (h : U (L.getD k 0) = false) (j : Nat) (hj : j < k + 1) => (if e : j = k then by rw [e]; exact h else HNO.out j (by omega) : U (L.getD j 0) = false)
      have he : L[k]? = some (L.getD k 0) := by simp [List.getD, hlt]
      rw [he, lk_some]
      have hcl : ∀ w', Below w3.heap.size w3 w' → Calls Tryz.prog 110 #[.pointer (some ⟨L.getD k 0, 0, none⟩), .pointer (some ⟨w.heap.size + 1, 0, none⟩), .pointer (some ⟨w.heap.size, 0, none⟩), .pointer (some ⟨w.heap.size + 1 + 1, 0, none⟩)] w' (LkPost L[k + 1]? w') := fun w' hb => (HIT.out w' hb).2 k hlt
      have htk := take_snoc hlt
      obtain ⟨y, hy⟩ : ∃ y, L.getD k 0 = y := ⟨_, rfl⟩
      obtain ⟨D, hD⟩ : ∃ D, L.take k = D := ⟨_, rfl⟩
      have hDl : D.length = k := by rw [← hD]; simp; omega
      rw [hy] at hcl htk ⊢
      rw [hD] at hown htk
      have hown' : wr.ownsRow w3.heap.size 75 1 u8 D.length (D.map ptrV) := hown
      have HCL := Lib.hid hcl
      have HTK := Lib.hid htk
      have HBEL := Lib.hid hbel
      rw [hy] at hun hus hun2
      rw [hD] at hus
      obtain ⟨q, hq⟩ : ∃ q, U y = q := ⟨_, rfl⟩
      rw [hq] at hun hus hun2
      have HUN1 := Lib.hid hun
      have HUS := Lib.hid (And.intro hus hun2)
      clear hy hcl he hD htk hown hbel hun hus hun2 hq
      go_wp2_with fail
      refine HUN1.out.mono ?_
      rintro e w5 ⟨rfl, rfl⟩
      clear HUN1
      cases q
      rotate_left
      · have HOWN : Hid (OwnPtrs wr w.heap.size u8 (upToL U L)) := Lib.hid (by rw [HUS.out.1 rfl]; exact ownsRow_base hown' HB3.out.size)
        have HBE := Lib.hid (HB3.out.trans (HBEL.out.mono HB3.out.size))
        clear hown' hDl
        go_wp2
        go_ret
        exact ⟨_, rfl, HOWN, HBE⟩
      · go_wp2_with (at_builtin; refine wpList_append_own _ rfl _ _ 53 rfl w3.heap.size 75 i0 (.pointer none) 1 8 Tryz.underlying53 hi hz0 hz1 hz2 rfl (by decide) _ _ _ rfl (hown'.alloc _) ⟨wr.heap.size, 0, none⟩ 1 1 [.pointer (some ⟨y, 0, none⟩)] rfl rfl ?c1 ?c2 ?c3 ?c4 ?c5 ?_)
        case c1 =>
          intro j u hj
          match j, hj with
          | 0, hj => simp at hj; subst hj; simp [Addr.add]
        case c2 => intro u hu; simp at hu; subst hu; rfl
        case c3 => unfold maxLen; omega
        case c4 => omega
        case c5 => have := HBEL.out.size; first | (simp; done) | (simp; omega)
        intro v' w1 hown2 hgrow _
        have hbel2 : Below w3.heap.size w3 w1 := (HBEL.out.alloc HBEL.out.size _).grown hgrow (by have := HBEL.out.size; first | (simp; done) | (simp; omega)) (fun q hq => (World.ownsRow.lt hown' q hq).1)
        rw [← hDl] at hown2
        have hsn := ownPtrs_snoc (k := y) hown2
        have H1 := Lib.hid (And.intro hsn hbel2)
        have cst1 := cell_below hbel2 cst
        clear hown2 hgrow hbel2 hsn hown' cstx
        go_wp2_with fail
        refine (HCL.out w1 H1.out.2).mono ?_
        rintro e w6 ⟨rfl, rfl⟩
        go_wp2
        go_roundg (L.length - (k + 1))
        case measure => omega
        case rel => exact ⟨k + 1, rfl, by omega, rfl, (by first | exact HUS.out.2 rfl | exact HUS.out.2 trivial | exact HUS.out.2), by rw [HTK.out]; exact H1.out.1, H1.out.2⟩
    · obtain rfl : k = L.length := by omega
      rw [show L[L.length]? = none by simp, lk_none]
      rw [List.take_length] at hown
      have HOWN : Hid (OwnPtrs wr w.heap.size u8 (upToL U L)) := Lib.hid (by rw [upTo_all HNO.out]; exact ownsRow_base hown HB3.out.size)
      have HBEL := Lib.hid (HB3.out.trans (hbel.mono HB3.out.size))
      clear hown hbel hlt
      go_wp2
      go_ret
      exact ⟨_, rfl, HOWN, HBEL⟩

set_option maxRecDepth 100000 in
set_option maxHeartbeats 8000000 in
theorem kids_m3 (o2 o3 : Option Addr) (L : List Nat) (w w3 : World) (hL : L.length ≤ 200) (hw3 : w3 = ((w.alloc (.cells #[.pointer o2] 75)).alloc (.cells #[.int .i64 (-3)] 103)).alloc (.cells #[.pointer o3] 75)) (b4 b5 : Nat) (U : Nat → Bool)
    (hit : ∀ w', Below w3.heap.size w3 w' → Calls Tryz.prog 110 #[.pointer none, .pointer (some ⟨w.heap.size + 1, 0, none⟩), .pointer (some ⟨w.heap.size, 0, none⟩), .pointer (some ⟨w.heap.size + 1 + 1, 0, none⟩)] w' (LkPost L[0]? w') ∧
      ∀ k, k < L.length → Calls Tryz.prog 110 #[.pointer (some ⟨L.getD k 0, 0, none⟩), .pointer (some ⟨w.heap.size + 1, 0, none⟩), .pointer (some ⟨w.heap.size, 0, none⟩), .pointer (some ⟨w.heap.size + 1 + 1, 0, none⟩)] w' (LkPost L[k + 1]? w')) :
    (∀ w', Below w3.heap.size w3 w' → ∀ k, k < L.length → Calls Tryz.prog 103 #[.pointer (some ⟨L.getD k 0, 0, none⟩), .pointer (some ⟨b4, 0, none⟩), .pointer (some ⟨b5, 0, none⟩)] w' (StrEqB (U (L.getD k 0)) w')) →
    Calls Tryz.prog 105 #[.pointer o2, .int .i64 (-3), .pointer o3, .func (.func 103) #[] #[.pointer (some ⟨b4, 0, none⟩), .pointer (some ⟨b5, 0, none⟩)]] w (OwnPtrsPost (upToL U L) w) := by
  intro hun
  have HUN := Lib.hid hun
  clear hun
  obtain ⟨i0, hi, hz0, hz1, hz2⟩ := info_parts Tryz.infoPtr
  have hb3 : Below w.heap.size w w3 := by rw [hw3]; exact (((Below.refl _ _).alloc (Nat.le_refl _) _).alloc (by simp) _).alloc (by simp; omega) _
  have cst : w3.cell? ⟨w.heap.size + 1, 0, none⟩ = some (.int .i64 (-3)) := by rw [hw3]; exact cell_alloc_old (cell_alloc_new' _ _ _ (by simp) rfl) _
  have hmf : ∀ (fn : Fn) (first cap : Array Value) (w : World), (Instr.makeFunc fn first cap).run Tryz.prog w = .ok (.func fn first cap) w := fun _ _ _ _ => rfl
  have hsz : w.heap.size + 1 < w3.heap.size := by rw [hw3]; simp
  have HIT := Lib.hid hit
  have HB3 := Lib.hid hb3
  clear hit hb3
  go_enter Tryz.func105, Tryz.ntmps105
  go_wp2_with fail
  rw [← hw3]
  clear hw3
  refine (HIT.out w3 (Below.refl _ _)).1.mono ?_
  rintro e w4 ⟨rfl, rfl⟩
  go_wp2
  go_loopg [8, 12] L.length (fun gk r c wy => ∃ k, gk = L.length - k ∧ k ≤ L.length ∧ c = lk L[k]? ∧ (∀ j, j < k → U (L.getD j 0) = false) ∧ OwnPtrs wy w3.heap.size r (L.take k) ∧ Below w3.heap.size w3 wy)
  case atStart => exact ⟨0, by omega, by omega, rfl, fun j hj => by omega, World.ownsRow_nil _ _ _ _, Below.refl _ _⟩
  case round =>
    obtain ⟨k, rfl, hk, rfl, hno, hown, hbel⟩ := hrel
    have HNO := Lib.hid hno
    clear hno
    have cstx := cell_below hbel cst
    by_cases hlt : k < L.length
    · have hun := HUN.out wr hbel k hlt
      have hus := fun (h : U (L.getD k 0) = true) => upTo_at hlt HNO.out h
      have hun2 := fun (h : U (L.getD k 0) = false) (j : Nat) (hj : j < k + 1) => (if e : j = k then by rw [e]; exact h else HNO.out j (by omega) : U (L.getD j 0) = false)
      have he : L[k]? = some (L.getD k 0) := by simp [List.getD, hlt]
      rw [he, lk_some]
      have hcl : ∀ w', Below w3.heap.size w3 w' → Calls Tryz.prog 110 #[.pointer (some ⟨L.getD k 0, 0, none⟩), .pointer (some ⟨w.heap.size + 1, 0, none⟩), .pointer (some ⟨w.heap.size, 0, none⟩), .pointer (some ⟨w.heap.size + 1 + 1, 0, none⟩)] w' (LkPost L[k + 1]? w') := fun w' hb => (HIT.out w' hb).2 k hlt
      have htk := take_snoc hlt
      obtain ⟨y, hy⟩ : ∃ y, L.getD k 0 = y := ⟨_, rfl⟩
      obtain ⟨D, hD⟩ : ∃ D, L.take k = D := ⟨_, rfl⟩
      have hDl : D.length = k := by rw [← hD]; simp; omega
      rw [hy] at hcl htk ⊢
      rw [hD] at hown htk
      have hown' : wr.ownsRow w3.heap.size 75 1 u8 D.length (D.map ptrV) := hown
      have HCL := Lib.hid hcl
      have HTK := Lib.hid htk
      have HBEL := Lib.hid hbel
      rw [hy] at hun hus hun2
      rw [hD] at hus
      obtain ⟨q, hq⟩ : ∃ q, U y = q := ⟨_, rfl⟩
      rw [hq] at hun hus hun2
      have HUN1 := Lib.hid hun
      have HUS := Lib.hid (And.intro hus hun2)
      clear hy hcl he hD htk hown hbel hun hus hun2 hq
      go_wp2_with fail
      refine HUN1.out.mono ?_
      rintro e w5 ⟨rfl, rfl⟩
      clear HUN1
      cases q
      rotate_left
      · have HOWN : Hid (OwnPtrs wr w.heap.size u8 (upToL U L)) := Lib.hid (by rw [HUS.out.1 rfl]; exact ownsRow_base hown' HB3.out.size)
        have HBE := Lib.hid (HB3.out.trans (HBEL.out.mono HB3.out.size))
        clear hown' hDl
        go_wp2
        go_ret
        exact ⟨_, rfl, HOWN, HBE⟩
      · go_wp2_with (at_builtin; refine wpList_append_own _ rfl _ _ 53 rfl w3.heap.size 75 i0 (.pointer none) 1 8 Tryz.underlying53 hi hz0 hz1 hz2 rfl (by decide) _ _ _ rfl (hown'.alloc _) ⟨wr.heap.size, 0, none⟩ 1 1 [.pointer (some ⟨y, 0, none⟩)] rfl rfl ?c1 ?c2 ?c3 ?c4 ?c5 ?_)
        case c1 =>
          intro j u hj
          match j, hj with
          | 0, hj => simp at hj; subst hj; simp [Addr.add]
        case c2 => intro u hu; simp at hu; subst hu; rfl
        case c3 => unfold maxLen; omega
        case c4 => omega
        case c5 => have := HBEL.out.size; first | (simp; done) | (simp; omega)
        intro v' w1 hown2 hgrow _
        have hbel2 : Below w3.heap.size w3 w1 := (HBEL.out.alloc HBEL.out.size _).grown hgrow (by have := HBEL.out.size; first | (simp; done) | (simp; omega)) (fun q hq => (World.ownsRow.lt hown' q hq).1)
        rw [← hDl] at hown2
        have hsn := ownPtrs_snoc (k := y) hown2
        have H1 := Lib.hid (And.intro hsn hbel2)
        have cst1 := cell_below hbel2 cst
        clear hown2 hgrow hbel2 hsn hown' cstx
        go_wp2_with fail
        refine (HCL.out w1 H1.out.2).mono ?_
        rintro e w6 ⟨rfl, rfl⟩
        go_wp2
        go_roundg (L.length - (k + 1))
        case measure => omega
        case rel => exact ⟨k + 1, rfl, by omega, rfl, (by first | exact HUS.out.2 rfl | exact HUS.out.2 trivial | exact HUS.out.2), by rw [HTK.out]; exact H1.out.1, H1.out.2⟩
    · obtain rfl : k = L.length := by omega
      rw [show L[L.length]? = none by simp, lk_none]
      rw [List.take_length] at hown
      have HOWN : Hid (OwnPtrs wr w.heap.size u8 (upToL U L)) := Lib.hid (by rw [upTo_all HNO.out]; exact ownsRow_base hown HB3.out.size)
      have HBEL := Lib.hid (HB3.out.trans (hbel.mono HB3.out.size))
      clear hown hbel hlt
      go_wp2
      go_ret
      exact ⟨_, rfl, HOWN, HBEL⟩

end Go.Proofs.YtphppdbhofeagaaGreat
