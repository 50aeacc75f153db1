/- Parts of a proof: SelRight, Written9, WriteAt0, WriteAt1, WriteAt2, WriteAt3. -/
import Derived.Test.YtoanofdomhnafaaGreatDoorG16
import Derived.Test.YtoanofdomhnafaaGreatDoorG27
import Derived.Test.YtoanofdomhnafaaGreatDoorG04
import Derived.Test.YtoanofdomhnafaaGreatDoorG28
import Derived.Test.YtoanofdomhnafaaGreatDoorG43
import Derived.Test.YtoanofdomhnafaaGreatDoorG06
set_option linter.unusedVariables false
set_option linter.unusedSimpArgs false
namespace Go.Proofs.YtoanofdomhnafaaGreatDoor
open Go.RowKit
def RightPostS (l : List SelD) (w : World) (e : Ending) (w' : World) : Prop := ∃ b, (b = true → SelTree l) ∧ e = .returned (.bool b) ∧ Hid (Below w.heap.size w w')
set_option maxRecDepth 100000 in
set_option maxHeartbeats 8000000 in
theorem selRight_any (a : Option Addr) (len cap : Nat) (l : List SelD) (w : World) (h : Sels w a len l) (hlen : len ≤ 60) (hcap : len ≤ cap) (hcm : cap ≤ maxLen) (hkv : ∀ j, j < len → (l.getD j default).key.size ≤ 4000 ∧ (l.getD j default).val.size ≤ 4000) :
    Calls Tryz.prog 13 #[.slice a len cap] w (RightPostS l w) := by
  have HSL := Lib.hid h
  have hl := h.len.1
  have HKV := Lib.hid hkv
  clear hkv
  by_cases h0 : len = 0
  · have g0 : ((len : Int) == 0) = true := by rw [h0]; rfl
    clear h0 h
    go_enter Tryz.func13, Tryz.ntmps13
    go_wp2
    go_ret
    exact ⟨false, (fun h => by cases h), rfl, Lib.hid (Below.refl _ _)⟩
  have g0 : ((len : Int) == 0) = false := by simp; omega
  have hpos : 0 < len := by omega
  have hposI : (0 : Int) < (len : Int) := by omega
  obtain ⟨b, off, rfl, hc⟩ := h.at (by omega)
  have s0 := (hc 0 hpos).size
  have k0 := (hc 0 hpos).kind
  rw [Nat.zero_mul, Nat.add_zero] at s0 k0
  obtain ⟨z0, hz0⟩ : ∃ z0, (l.getD 0 default).size = z0 := ⟨_, rfl⟩
  obtain ⟨y0, hy0⟩ : ∃ y0, (l.getD 0 default).kind = y0 := ⟨_, rfl⟩
  rw [hz0] at s0
  rw [hy0] at k0
  have HZ0 := Lib.hid (And.intro hz0 (show kdS l 0 = y0 from hy0))
  have HSIZED := Lib.hid (selSized_any (some ⟨b, off, none⟩) len cap l (len + 1) 0 len w h hpos (Nat.le_refl _) (by omega) (by omega))
  clear h hc hz0 hy0 h0
  by_cases hz : z0 = (len : Int)
  · have g1 : (z0 != (len : Int)) = false := by simp [hz]
    have HZ := Lib.hid hz
    clear hz
    go_enter Tryz.func13, Tryz.ntmps13
    go_wp2_with fail
    refine HSIZED.out.mono ?_
    rintro e w2 ⟨r, hr, rfl, rfl⟩
    cases r
    · go_wp2
      go_ret
      exact ⟨false, (fun h => by cases h), rfl, Lib.hid (Below.refl _ _)⟩
    · obtain ⟨hr1, hr2, hr3⟩ := hr rfl
      have hzs : zs l 0 = len := by unfold zs; rw [HZ0.out.1, HZ.out]; simp
      have hsz : ∀ j, j < len → SzS l j := fun j hj => hr3 j (by omega) (by omega)
      have hfit : ∀ j, j < len → j + zs l j ≤ len := fun j hj => by
        have := (hsz 0 hpos).2.2 j (by omega) (by omega)
        omega
      have HZS := Lib.hid (And.intro hzs (And.intro hsz hfit))
      have HIC := Lib.hid (fun w' => isComplex_any y0 w')
      obtain ⟨cb, hcb⟩ : ∃ cb, isComplexF y0 = cb := ⟨_, rfl⟩
      rw [hcb] at HIC
      have HCB := Lib.hid hcb
      clear hr hr1 hr2 hr3 hzs hsz hfit HSIZED hcb
      go_wp2
      go_loopw [3] (fun j wr => ∃ k : Nat, k ≤ len ∧ j = .int .i64 (k : Int) ∧ Hid (∀ q, q < k → FieldsOk (l.getD q default) ∧ ShapeOk l q) ∧ Hid (Below w.heap.size w wr)) (fun j _ => len - (intOf j).toNat)
      case atStart => exact ⟨0, by omega, by go_num, Lib.hid fun q hq => absurd hq (by omega), Lib.hid (Below.refl _ _)⟩
      case round =>
        obtain ⟨k, hk, rfl, HD, HB⟩ := hrel
        have hS := HSL.out.later HB.out (Nat.le_refl _)
        by_cases hlt : k < len
        · have g3 : decide ((k : Int) < (len : Int)) = true := by simp [hlt]
          obtain ⟨b', off', hbo, hcs⟩ := hS.at (by omega)
          obtain ⟨rfl, rfl⟩ : b = b' ∧ off = off' := by simpa using hbo
          have c := hcs k hlt
          have c0 := c.kind
          have c1 := c.op
          have c2 := c.key
          have c3 := c.val
          have c4 := c.a
          have c5 := c.b
          have c6 := c.flag
          have c7 := c.size
          have HF := Lib.hid (selFields_any (l.getD k default) wr (HKV.out k hlt).1 (HKV.out k hlt).2)
          have HSH := Lib.hid (fun (w' : World) (h' : Sels w' (some ⟨b, off, none⟩) len l) => selShaped_any (some ⟨b, off, none⟩) len cap l k w' h' HZS.out.2.1 HZS.out.2.2 hlt (by omega) hcap hcm)
          obtain ⟨x, hx⟩ : ∃ x, l.getD k default = x := ⟨_, rfl⟩
          rw [hx] at c0 c1 c2 c3 c4 c5 c6 c7 HF
          have HX := Lib.hid hx
          obtain ⟨kd_, op_, key, val, a_, b_, fl_, sz_⟩ := x
          simp only at c0 c1 c2 c3 c4 c5 c6 c7 HF
          clear c hcs hbo hx hS
          go_wp2_with fail
          refine HF.out.mono ?_
          rintro e w5 ⟨r, hr, rfl, hb5⟩
          have HB5 := Lib.hid (HB.out.trans (hb5.out.mono HB.out.size))
          cases r
          · go_wp2
            go_ret
            exact ⟨false, (fun h => by cases h), rfl, HB5⟩
          · have HFO := Lib.hid (hr rfl)
            clear hr hb5
            go_wp2_with fail
            refine (HSH.out w5 (HSL.out.later HB5.out (Nat.le_refl _))).mono ?_
            rintro e w6 ⟨r, hr, rfl, hb6⟩
            have HB6 := Lib.hid (HB5.out.trans (hb6.out.mono HB5.out.size))
            cases r
            · go_wp2
              go_ret
              exact ⟨false, (fun h => by cases h), rfl, HB6⟩
            · have HSO := Lib.hid (hr rfl)
              clear hr hb6
              go_wp2
              go_roundw
              case rel =>
                refine ⟨k + 1, by omega, by go_num, Lib.hid fun q hq => ?_, HB6⟩
                rcases Nat.lt_or_ge q k with hl | hl
                · exact HD.out q hl
                · obtain rfl : q = k := by omega
                  exact ⟨by rw [HX.out]; exact HFO.out, HSO.out⟩
              case measure => simp [intOf]; omega
        · obtain rfl : k = len := by omega
          have g3 : decide ((k : Int) < (k : Int)) = false := by simp
          obtain ⟨b', off', hbo, hcs⟩ := hS.at (by omega)
          obtain ⟨rfl, rfl⟩ : b = b' ∧ off = off' := by simpa using hbo
          have d0 := (hcs 0 (by omega)).kind
          rw [Nat.zero_mul, Nat.add_zero, show (l.getD 0 default).kind = y0 from HZ0.out.2] at d0
          have htree : (kdS l 0 = 23 ∨ Complex (kdS l 0)) → SelTree l := fun ht =>
            ⟨by omega, by omega, by rw [HZS.out.1, hl], ⟨fun i hi => (HZS.out.2.1 i (by omega)).1, fun i j hi h1 h2 => (HZS.out.2.1 i (by omega)).2.2 j h1 h2, fun i hi => by have := HZS.out.2.2 i (by omega); omega⟩, fun i hi => (HD.out i (by omega)).1, fun i hi => (HD.out i (by omega)).2, ht⟩
          have HT := Lib.hid htree
          clear htree hcs hbo hS
          by_cases h23 : y0 = 23
          · have g4 : (y0 == 23) = true := by simp [h23]
            have H23 := Lib.hid h23
            clear h23
            go_wp2
            go_ret
            exact ⟨true, fun _ => HT.out (.inl (by rw [HZ0.out.2]; exact H23.out)), rfl, HB⟩
          · have g4 : (y0 == 23) = false := by simp [h23]
            clear h23
            go_wp2_with fail
            refine (HIC.out wr).mono ?_
            rintro e w5 ⟨rfl, rfl⟩
            cases cb
            · go_wp2
              go_ret
              exact ⟨false, (fun h => by cases h), rfl, HB⟩
            · go_wp2
              go_ret
              refine ⟨true, fun _ => HT.out (.inr ?_), rfl, HB⟩
              have h9 := HCB.out
              simp only [isComplexF, decide_eq_true_eq] at h9
              rw [HZ0.out.2]
              exact h9
  · have g1 : (z0 != (len : Int)) = true := by simp [hz]
    clear hz
    go_enter Tryz.func13, Tryz.ntmps13
    go_wp2
    go_ret
    exact ⟨false, (fun h => by cases h), rfl, Lib.hid (Below.refl _ _)⟩
set_option maxRecDepth 100000 in
set_option maxHeartbeats 4000000 in
theorem small9L_any (s : ByteArray) (w : World) (hs : s.size ≤ 9223372036854775807) : Calls Tryz.prog 12 #[.string s] w (SomeBool (fun _ => True) w) := by
  go_enter Tryz.func12, Tryz.ntmps12
  go_wp2
  go_loopw [3] (fun v wr => ∃ k : Nat, v = .int .i64 (k : Int) ∧ k ≤ s.size ∧ wr = w) (fun v _ => s.size - (intOf v).toNat)
  case atStart => exact ⟨0, by go_num, by omega, rfl⟩
  case round =>
    obtain ⟨k, rfl, hk, rfl⟩ := hrel
    by_cases hlt : k < s.size
    · have g0 : decide ((k : Int) < (s.size : Int)) = true := by simp [hlt]
      have g0n : decide (k < s.size) = true := by simp [hlt]
      obtain ⟨x, hx⟩ : ∃ x, (s[k].toNat : Int) = x := ⟨_, rfl⟩
      have hreg : (128 ≤ x) ∨ (x < 128 ∧ x < 65) ∨ (x < 128 ∧ 65 ≤ x ∧ x ≤ 90) ∨ (x < 128 ∧ 65 ≤ x ∧ 90 < x) := by omega
      rcases hreg with h | ⟨h, h2⟩ | ⟨h, h2, h3⟩ | ⟨h, h2, h3⟩
      · have r1 : decide ((128 : Int) ≤ x) = true := by simp; omega
        clear h
        go_wp2
        go_ret
        exact ⟨_, trivial, rfl, rfl⟩
      · have r1 : decide ((128 : Int) ≤ x) = false := by simp; omega
        have r2 : decide ((65 : Int) ≤ x) = false := by simp; omega
        clear h h2
        go_wp2
        go_roundw
        case rel => exact ⟨k + 1, by go_num, by omega, by trivial⟩
        case measure => simp [intOf]; omega
      · have r1 : decide ((128 : Int) ≤ x) = false := by simp; omega
        have r2 : decide ((65 : Int) ≤ x) = true := by simp; omega
        have r3 : decide (x ≤ (90 : Int)) = true := by simp; omega
        clear h h2 h3
        go_wp2
        go_ret
        exact ⟨_, trivial, rfl, rfl⟩
      · have r1 : decide ((128 : Int) ≤ x) = false := by simp; omega
        have r2 : decide ((65 : Int) ≤ x) = true := by simp; omega
        have r3 : decide (x ≤ (90 : Int)) = false := by simp; omega
        clear h h2 h3
        go_wp2
        go_roundw
        case rel => exact ⟨k + 1, by go_num, by omega, by trivial⟩
        case measure => simp [intOf]; omega
    · have g0 : decide ((k : Int) < (s.size : Int)) = false := by simp; omega
      have g0n : decide (k < s.size) = false := by simp; omega
      go_wp2
      go_ret
      exact ⟨_, trivial, rfl, rfl⟩
/-- The sizes of the first texts, none counted above 1000. -/
def sumM (l : List SelD) : Nat → Nat
  | 0 => 0
  | k + 1 => sumM l k + min ((l.getD k default).key.size + (l.getD k default).val.size) 1000
theorem sumM_le (l : List SelD) : ∀ k, sumM l k ≤ 1000 * k
  | 0 => by simp [sumM]
  | k + 1 => by
    have := sumM_le l k
    simp only [sumM]
    omega
theorem sumM_mono (l : List SelD) (k : Nat) : ∀ d, sumM l k ≤ sumM l (k + d)
  | 0 => Nat.le_refl _
  | d + 1 => by
    have := sumM_mono l k d
    rw [← Nat.add_assoc]
    simp only [sumM]
    omega
theorem sumM_each (l : List SelD) {n j : Nat} (hj : j < n) (h : sumM l n ≤ 500) : (l.getD j default).key.size + (l.getD j default).val.size ≤ 500 := by
  have h1 := sumM_mono l (j + 1) (n - (j + 1))
  rw [show j + 1 + (n - (j + 1)) = n by omega] at h1
  simp only [sumM] at h1
  omega
theorem sumM_cost (l : List SelD) : ∀ n, sumM l n ≤ 500 → costs l 0 n ≤ 40 * n + 4 * sumM l n
  | 0, _ => by simp [costs, sumM]
  | n + 1, h => by
    have h0 : sumM l n ≤ 500 := by simp only [sumM] at h; omega
    have ih := sumM_cost l n h0
    have h1 := sumM_each l (j := n) (by omega) h
    have e : costs l 0 (n + 1) = costs l 0 n + cost (l.getD n default) := by
      unfold costs
      rw [List.range_succ]
      simp
    rw [e]
    simp only [sumM, cost]
    omega
/-- A selector that can be written, and is small. -/
structure SmallSel (l : List SelD) : Prop where
  tree : SelTree l
  sum : sumM l l.length ≤ 500
theorem SmallSel.val {l : List SelD} (h : SmallSel l) (k : Nat) : (l.getD k default).val.size ≤ 1000 := by
  rcases Nat.lt_or_ge k l.length with hk | hk
  · have := sumM_each l hk h.sum
    omega
  · rw [List.getD_eq_getElem?_getD, List.getElem?_eq_none hk]
    show (default : SelD).val.size ≤ 1000
    decide
theorem SmallSel.text {l : List SelD} (h : SmallSel l) : (T l 0).length ≤ 9000 := by
  have h1 := T_cost h.tree (zs l 0) 0 h.tree.pos (Nat.le_refl _)
  rw [h.tree.size0] at h1
  have h2 := sumM_cost l l.length h.sum
  have h3 := h.tree.small
  have h4 := h.sum
  omega
def Written9Post (l : List SelD) (w : World) (e : Ending) (w' : World) : Prop := ∃ b, (b = true → SmallSel l) ∧ e = .returned (.bool b) ∧ Hid (Below w.heap.size w w')
set_option maxRecDepth 100000 in
set_option maxHeartbeats 8000000 in
theorem written9_any (a : Option Addr) (len cap : Nat) (l : List SelD) (w : World) (h : Sels w a len l) (hcap : len ≤ cap) (hcm : cap ≤ maxLen) (hkm : ∀ j, j < len → (l.getD j default).key.size ≤ 2147483647 ∧ (l.getD j default).val.size ≤ 2147483647) :
    Calls Tryz.prog 5 #[.slice a len cap] w (Written9Post l w) := by
  have HSL := Lib.hid h
  have HKM := Lib.hid hkm
  clear hkm
  have hl := h.len
  by_cases h60 : 60 < len
  · have g0 : decide ((60 : Int) < (len : Int)) = true := by simp; omega
    clear h60 h
    go_enter Tryz.func5, Tryz.ntmps5
    go_wp2
    go_ret
    exact ⟨false, (fun h => by cases h), rfl, Lib.hid (Below.refl _ _)⟩
  have g0 : decide ((60 : Int) < (len : Int)) = false := by simp; omega
  have hlen : len ≤ 60 := by omega
  clear h60 h
  go_enter Tryz.func5, Tryz.ntmps5
  go_wp2
  go_loopw [3, 4] (fun v j wr => ∃ k q : Nat, k ≤ len ∧ j = .int .i64 (k : Int) ∧ v = .int .i64 (q : Int) ∧ q ≤ 60000 ∧ Hid (q = sumM l k) ∧ Hid (Below w.heap.size w wr)) (fun _ j _ => len - (intOf j).toNat)
  case atStart => exact ⟨0, 0, by omega, by go_num, by go_num, by omega, Lib.hid rfl, Lib.hid (Below.refl _ _)⟩
  case round =>
    obtain ⟨k, q, hk, rfl, rfl, hq, HQ, HB⟩ := hrel
    by_cases hlt : k < len
    · have g3 : decide ((k : Int) < (len : Int)) = true := by simp [hlt]
      have hS := HSL.out.later HB.out (Nat.le_refl _)
      obtain ⟨b, off, rfl, hcs⟩ := hS.at (by omega)
      have c := hcs k hlt
      have c0 := c.kind
      have c2 := c.key
      have c3 := c.val
      obtain ⟨wk, wv⟩ := HKM.out k hlt
      obtain ⟨x, hx⟩ : ∃ x, l.getD k default = x := ⟨_, rfl⟩
      rw [hx] at c0 c2 c3 wk wv
      have HX := Lib.hid hx
      obtain ⟨kd_, op_, key, val, a_, b_, fl_, sz_⟩ := x
      simp only at c0 c2 c3 wk wv
      have hsm := sumM_le l (k + 1)
      have hsm1 : sumM l (k + 1) = sumM l k + min (key.size + val.size) 1000 := by simp only [sumM]; rw [HX.out]
      have hq9 := HQ.out
      have HSM := Lib.hid (fun w' => small9L_any val w' (by omega))
      obtain ⟨mn, hmn⟩ : ∃ mn : Nat, min (key.size + val.size) 1000 = mn := ⟨_, rfl⟩
      have hq2 : q + mn ≤ 60000 := by omega
      have HQ2 := Lib.hid (show q + mn = sumM l (k + 1) by omega)
      clear c hcs hx hS hsm hsm1 hq9 HQ
      have hm2 : ((key.size : Int) + (val.size : Int) < 1000 ∧ mn = key.size + val.size) ∨ (¬ ((key.size : Int) + (val.size : Int) < 1000) ∧ mn = 1000) := by omega
      have hkd : (kd_ = 15) ∨ (kd_ = 16) ∨ (kd_ = 17) ∨ (kd_ ≠ 15 ∧ kd_ ≠ 16 ∧ kd_ ≠ 17) := by omega
      go_wp2
      go_region
      have e9 : (q : Int) + min ((key.size : Int) + (val.size : Int)) 1000 = ((q + mn : Nat) : Int) := by omega
      rw [e9]
      obtain ⟨q2, hqq⟩ : ∃ q2, q + mn = q2 := ⟨_, rfl⟩
      rw [hqq] at HQ2 hq2 ⊢
      obtain ⟨wz, hwz⟩ : ∃ wz, wr.drew = wz := ⟨_, rfl⟩
      have HBz := Lib.hid (show Below w.heap.size w wz by rw [← hwz]; exact HB.out.drew)
      rw [hwz]
      clear hwz HB e9 hqq hm2 c2
      have hS := HSL.out.later HBz.out (Nat.le_refl _)
      obtain ⟨b', off', hbo, hcs⟩ := hS.at (by omega)
      obtain ⟨rfl, rfl⟩ : b = b' ∧ off = off' := by simpa using hbo
      have d0 := (hcs k hlt).kind
      have d3 := (hcs k hlt).val
      rw [HX.out] at d0 d3
      simp only at d0 d3
      clear hcs hbo hS c0 c3
      rcases hkd with hk9 | hk9 | hk9 | hk9
      case inr.inr.inr =>
        have x15 : (kd_ == 15) = false := by simp; omega
        have x16 : (kd_ == 16) = false := by simp; omega
        have x17 : (kd_ == 17) = false := by simp; omega
        clear hk9
        go_wp2
        go_roundw
        case rel => exact ⟨k + 1, q2, by omega, by go_num, by go_num, by omega, HQ2, HBz⟩
        case measure => simp [intOf]; omega
      all_goals
        first | (have x15 : (kd_ == 15) = true := by rw [hk9]; rfl) | (have x15 : (kd_ == 15) = false := by rw [hk9]; rfl)
        first | (have x16 : (kd_ == 16) = true := by rw [hk9]; rfl) | (have x16 : (kd_ == 16) = false := by rw [hk9]; rfl)
        first | (have x17 : (kd_ == 17) = true := by rw [hk9]; rfl) | (have x17 : (kd_ == 17) = false := by rw [hk9]; rfl)
        clear hk9
        go_wp2_with fail
        refine (HSM.out _).mono ?_
        rintro e w5 ⟨r, _, rfl, rfl⟩
        cases r
        · go_wp2
          go_ret
          exact ⟨false, (fun h => by cases h), rfl, HBz⟩
        · go_wp2
          go_roundw
          case rel => exact ⟨k + 1, q2, by omega, by go_num, by go_num, by omega, HQ2, HBz⟩
          case measure => simp [intOf]; omega
    · obtain rfl : k = len := by omega
      have g3 : decide ((k : Int) < (k : Int)) = false := by simp
      by_cases h500 : q ≤ 500
      · have g4 : decide ((q : Int) ≤ (500 : Int)) = true := by simp; omega
        have H5 := Lib.hid h500
        have hkv : ∀ j, j < k → (l.getD j default).key.size ≤ 4000 ∧ (l.getD j default).val.size ≤ 4000 := fun j hj => by
          have := sumM_each l hj (by rw [← HQ.out]; exact h500)
          omega
        have HR := Lib.hid (selRight_any a k cap l wr (HSL.out.later HB.out (Nat.le_refl _)) hlen hcap hcm hkv)
        clear h500 hkv
        go_wp2_with fail
        refine HR.out.mono ?_
        rintro e w5 ⟨r, hr, rfl, hb5⟩
        have HB5 := Lib.hid (HB.out.trans (hb5.out.mono HB.out.size))
        have HT := Lib.hid hr
        clear hr hb5
        go_wp2
        go_ret
        refine ⟨r, fun h => ⟨HT.out h, ?_⟩, by first | rfl | (cases r <;> rfl), HB5⟩
        rw [hl.1, ← HQ.out]
        exact H5.out
      · have g4 : decide ((q : Int) ≤ (500 : Int)) = false := by simp; omega
        clear h500
        go_wp2
        go_ret
        exact ⟨false, (fun h => by cases h), rfl, HB⟩
variable {l : List SelD}
theorem costs_part (l : List SelD) : ∀ (i n : Nat), costs l i n ≤ costs l 0 (n + i)
  | 0, n => Nat.le_refl _
  | i + 1, n => by
    have h1 := costs_succ (l := l) i n
    have h2 := costs_part l i (n + 1)
    rw [show n + 1 + i = n + (i + 1) by omega] at h2
    omega
theorem costs_mono (l : List SelD) (n : Nat) : ∀ d, costs l 0 n ≤ costs l 0 (n + d)
  | 0 => Nat.le_refl _
  | d + 1 => by
    have ih := costs_mono l n d
    have e : costs l 0 (n + d + 1) = costs l 0 (n + d) + cost (l.getD (n + d) default) := by
      unfold costs
      rw [List.range_succ]
      simp
    rw [← Nat.add_assoc, e]
    omega
theorem SmallSel.textAt {l : List SelD} (h : SmallSel l) {i : Nat} (hi : i < l.length) : (T l i).length ≤ 9000 := by
  have h1 := T_cost h.tree (zs l i) i hi (Nat.le_refl _)
  have h2 := sumM_cost l l.length h.sum
  have h3 := h.tree.small
  have h4 := h.sum
  have h5 := costs_part l i (zs l i)
  have h6 := h.tree.nest.fit i hi
  have h7 := costs_mono l (zs l i + i) (l.length - (zs l i + i))
  rw [show zs l i + i + (l.length - (zs l i + i)) = l.length by omega] at h7
  omega
theorem SmallSel.key {l : List SelD} (h : SmallSel l) {k : Nat} (hk : k < l.length) : (l.getD k default).key.size ≤ 1000 := by
  have := sumM_each l hk h.sum
  omega
/-- A group's text behind m kids. -/
def gjL (l : List SelD) (ks : List Nat) : Nat → List UInt8
  | 0 => []
  | m + 1 => (if 0 < m then gjL l ks m ++ [44, 32] else gjL l ks m) ++ T l (ks.getD m 0)
theorem joinL_snoc : ∀ (L : List (List UInt8)) (t : List UInt8), joinL (L ++ [t]) = if L = [] then t else joinL L ++ [44, 32] ++ t
  | [], t => by simp [joinL]
  | [u], t => by simp [joinL]
  | u :: v :: L, t => by
    have ih := joinL_snoc (v :: L) t
    rw [if_neg (by simp)] at ih
    rw [if_neg (by simp)]
    simp only [List.cons_append, joinL] at ih ⊢
    rw [ih]
    simp
theorem gjL_eq (ks : List Nat) : ∀ m, m ≤ ks.length → gjL l ks m = joinL ((ks.take m).map (T l))
  | 0, _ => by simp [gjL, joinL]
  | m + 1, hm => by
    rw [take_oneC ks m (by omega), List.map_append, List.map_singleton, joinL_snoc, ← gjL_eq ks m (by omega), gjL]
    by_cases h : m = 0
    · subst h
      simp [gjL]
    · rw [if_pos (by omega), if_neg (by
        intro e
        have := congrArg List.length e
        rw [List.length_map, List.length_take, List.length_nil] at this
        omega)]
theorem gjL_len (ks : List Nat) (h : ∀ j, j < ks.length → (T l (ks.getD j 0)).length ≤ 9000) : ∀ m, m ≤ ks.length → (gjL l ks m).length ≤ 9002 * m
  | 0, _ => by simp [gjL]
  | m + 1, hm => by
    have ih := gjL_len ks h m (by omega)
    have := h m (by omega)
    rw [gjL, List.length_append]
    split
    · simp only [List.length_append, List.length_cons, List.length_nil]
      omega
    · omega
variable {l : List SelD}
set_option maxRecDepth 100000 in
set_option maxHeartbeats 8000000 in
theorem wat_sim (hSS : SmallSel l) (hNP : NoPseudo l) (a : Option Addr) (len cap n : Nat) (ih : ∀ (i : Nat) (w : World), i < len → zs l i ≤ n → Sels w a len l → Calls Tryz.prog 16 #[.slice a len cap, .int .i64 (i : Int)] w (StrPost (bs (T l i)) w)) (i : Nat) (w : World) (hi : i < len) (hn : zs l i ≤ n + 1) (h : Sels w a len l) (hcl : kdS l i ≤ 17) :
    Calls Tryz.prog 16 #[.slice a len cap, .int .i64 (i : Int)] w (StrPost (bs (T l i)) w) := by
  have hT := hSS.tree
  have hl := h.len.1
  have hil : i < l.length := by omega
  have hlen60 : len ≤ 60 := by rw [← hl]; exact hT.small
  obtain ⟨hsz, hfit⟩ := hT.szs hl
  have HSL := Lib.hid h
  have HKID := Lib.hid (fun w' (h' : Sels w' a len l) => selKids_any a len cap l i w' h' hsz hfit hi (by omega))
  have hlt0 := kid_lt hsz hfit hi
  have hlen0 := kid_len hsz hfit hi
  have HIH := Lib.hid ih
  have HSS := Lib.hid (And.intro hSS hNP)
  have hkz : ∀ k ∈ kidsS l i, k < len ∧ zs l k ≤ n := fun k hk => by
    have := hT.kid hil hk
    exact ⟨by omega, by omega⟩
  have HKZ := Lib.hid hkz
  clear ih hkz h hsz hfit
  go_enter Tryz.func16, Tryz.ntmps16
  go_wp2_with fail
  refine (HKID.out w HSL.out).mono ?_
  rintro e w2 ⟨kv, rfl, hkv, hbk⟩
  obtain ⟨ks, hks⟩ : ∃ ks, kids (zs l) i = ks := ⟨_, rfl⟩
  rw [hks] at hkv hlt0 hlen0
  have hS2 := HSL.out.later hbk (Nat.le_refl _)
  obtain ⟨b, off, rfl, hc⟩ := hS2.at (by omega)
  have c := hc i hi
  have c0 := c.kind
  have c1 := c.op
  have c2 := c.key
  have c3 := c.val
  have c4 := c.a
  have c5 := c.b
  have c6 := c.flag
  have c7 := c.size
  have HCE := Lib.hid c
  obtain ⟨kd_, hkd⟩ : ∃ kd_, (l.getD i default).kind = kd_ := ⟨_, rfl⟩
  obtain ⟨op_, hop⟩ : ∃ op_, (l.getD i default).op = op_ := ⟨_, rfl⟩
  obtain ⟨key, hkey⟩ : ∃ key, (l.getD i default).key = key := ⟨_, rfl⟩
  obtain ⟨val, hval⟩ : ∃ val, (l.getD i default).val = val := ⟨_, rfl⟩
  obtain ⟨a_, ha_⟩ : ∃ a_, (l.getD i default).a = a_ := ⟨_, rfl⟩
  obtain ⟨b_, hb_⟩ : ∃ b_, (l.getD i default).b = b_ := ⟨_, rfl⟩
  obtain ⟨fl_, hfl⟩ : ∃ fl_, (l.getD i default).flag = fl_ := ⟨_, rfl⟩
  obtain ⟨sz_, hsz_⟩ : ∃ sz_, (l.getD i default).size = sz_ := ⟨_, rfl⟩
  rw [hkd] at c0
  rw [hop] at c1
  rw [hkey] at c2
  rw [hval] at c3
  rw [ha_] at c4
  rw [hb_] at c5
  rw [hfl] at c6
  rw [hsz_] at c7
  have HEQS := Lib.hid (show (l.getD i default) = ⟨kd_, op_, key, val, a_, b_, fl_, sz_⟩ by rw [← hkd, ← hop, ← hkey, ← hval, ← ha_, ← hb_, ← hfl, ← hsz_])
  have HX := Lib.hid (And.intro hkd (And.intro hop (And.intro hks (And.intro hlt0 hlen0))))
  have hnode := objAt_alloc_new w2 #[.int .i64 kd_, .int .i64 op_, .string key, .string val, .int .i64 a_, .int .i64 b_, .int .i64 fl_, .int .i64 sz_] 25
  have hbel3 : Below w.heap.size w (w2.alloc (.cells #[.int .i64 kd_, .int .i64 op_, .string key, .string val, .int .i64 a_, .int .i64 b_, .int .i64 fl_, .int .i64 sz_] 25)) := hbk.alloc hbk.size _
  have hkv3 := hkv.ints.below ((Below.refl w2.heap.size w2).alloc (Nat.le_refl _) (.cells #[.int .i64 kd_, .int .i64 op_, .string key, .string val, .int .i64 a_, .int .i64 b_, .int .i64 fl_, .int .i64 sz_] 25))
  obtain ⟨w3, hw3⟩ : ∃ w3, w2.alloc (.cells #[.int .i64 kd_, .int .i64 op_, .string key, .string val, .int .i64 a_, .int .i64 b_, .int .i64 fl_, .int .i64 sz_] 25) = w3 := ⟨_, rfl⟩
  obtain ⟨X, hX⟩ : ∃ X, w2.heap.size = X := ⟨_, rfl⟩
  rw [hw3] at hnode hbel3 hkv3
  rw [hX] at hnode
  have HS3 := Lib.hid (HSL.out.later hbel3 (Nat.le_refl _))
  have HN3 := Lib.hid hnode
  have HB3 := Lib.hid hbel3
  have HKV := Lib.hid hkv3
  have hkk : kdS l i = kd_ := hkd
  rw [hkk] at hcl
  have k0 : w3.cell? ⟨X, 0, none⟩ = some (.int .i64 kd_) := World.objAt.cell HN3.out (i := 0) rfl
  clear hkv hbk hS2 hc c hkd hop hkey hval ha_ hb_ hfl hsz_ hks HKID hnode hbel3 hkv3 hlt0 hlen0
  have x23 : (kd_ == 23) = false := by simp; omega
  have x22 : (kd_ == 22) = false := by simp; omega
  have x21 : (kd_ == 21) = false := by simp; omega
  have x18 : (kd_ == 18) = false := by simp; omega
  have x19 : (kd_ == 19) = false := by simp; omega
  have x20 : (kd_ == 20) = false := by simp; omega
  have hrange := (HSS.out.1.tree.shape i hil).range
  rw [hkk] at hrange
  have HTX := HEQS
  have hsim := T_sim HSS.out.1.tree hil (by rw [hkk]; omega)
  have hfi := HSS.out.1.tree.fields i hil
  have hke := HSS.out.1.key hil
  have hva := HSS.out.1.val i
  rw [HEQS.out] at hsim hfi hke hva
  have HSJ := Lib.hid (fun w' => writtenSim_any ⟨kd_, op_, key, val, a_, b_, fl_, sz_⟩ hfi (by show 1 ≤ kd_ ∧ kd_ ≤ 17; omega) hke hva w')
  rw [← hsim] at HSJ
  simp only at HSJ
  have hb23 : Below w2.heap.size w2 w3 := by rw [← hw3]; exact (Below.refl _ _).alloc (Nat.le_refl _) _
  have e0 := cell_belowS hb23 c0
  have e1 := cell_belowS hb23 c1
  have e2 := cell_belowS hb23 c2
  have e3 := cell_belowS hb23 c3
  have e4 := cell_belowS hb23 c4
  have e5 := cell_belowS hb23 c5
  have e6 := cell_belowS hb23 c6
  have e7 := cell_belowS hb23 c7
  clear hkk hsim hfi hke hva hrange hcl hb23 HTX
  go_wp2_with fail
  refine (HSJ.out _).mono ?_
  rintro e w5 ⟨rfl, hb5⟩
  have HB5 := Lib.hid (HB3.out.trans (hb5.mono HB3.out.size))
  clear hb5 HSJ
  go_wp2
  go_ret
  exact ⟨rfl, HB5.out⟩
variable {l : List SelD}
set_option maxRecDepth 100000 in
set_option maxHeartbeats 8000000 in
theorem wat_group (hSS : SmallSel l) (hNP : NoPseudo l) (a : Option Addr) (len cap n : Nat) (ih : ∀ (i : Nat) (w : World), i < len → zs l i ≤ n → Sels w a len l → Calls Tryz.prog 16 #[.slice a len cap, .int .i64 (i : Int)] w (StrPost (bs (T l i)) w)) (i : Nat) (w : World) (hi : i < len) (hn : zs l i ≤ n + 1) (h : Sels w a len l) (hcl : kdS l i = 23) :
    Calls Tryz.prog 16 #[.slice a len cap, .int .i64 (i : Int)] w (StrPost (bs (T l i)) w) := by
  have hT := hSS.tree
  have hl := h.len.1
  have hil : i < l.length := by omega
  have hlen60 : len ≤ 60 := by rw [← hl]; exact hT.small
  obtain ⟨hsz, hfit⟩ := hT.szs hl
  have HSL := Lib.hid h
  have HKID := Lib.hid (fun w' (h' : Sels w' a len l) => selKids_any a len cap l i w' h' hsz hfit hi (by omega))
  have hlt0 := kid_lt hsz hfit hi
  have hlen0 := kid_len hsz hfit hi
  have HIH := Lib.hid ih
  have HSS := Lib.hid (And.intro hSS hNP)
  have hkz : ∀ k ∈ kidsS l i, k < len ∧ zs l k ≤ n := fun k hk => by
    have := hT.kid hil hk
    exact ⟨by omega, by omega⟩
  have HKZ := Lib.hid hkz
  clear ih hkz h hsz hfit
  go_enter Tryz.func16, Tryz.ntmps16
  go_wp2_with fail
  refine (HKID.out w HSL.out).mono ?_
  rintro e w2 ⟨kv, rfl, hkv, hbk⟩
  obtain ⟨ks, hks⟩ : ∃ ks, kids (zs l) i = ks := ⟨_, rfl⟩
  rw [hks] at hkv hlt0 hlen0
  have hS2 := HSL.out.later hbk (Nat.le_refl _)
  obtain ⟨b, off, rfl, hc⟩ := hS2.at (by omega)
  have c := hc i hi
  have c0 := c.kind
  have c1 := c.op
  have c2 := c.key
  have c3 := c.val
  have c4 := c.a
  have c5 := c.b
  have c6 := c.flag
  have c7 := c.size
  have HCE := Lib.hid c
  obtain ⟨kd_, hkd⟩ : ∃ kd_, (l.getD i default).kind = kd_ := ⟨_, rfl⟩
  obtain ⟨op_, hop⟩ : ∃ op_, (l.getD i default).op = op_ := ⟨_, rfl⟩
  obtain ⟨key, hkey⟩ : ∃ key, (l.getD i default).key = key := ⟨_, rfl⟩
  obtain ⟨val, hval⟩ : ∃ val, (l.getD i default).val = val := ⟨_, rfl⟩
  obtain ⟨a_, ha_⟩ : ∃ a_, (l.getD i default).a = a_ := ⟨_, rfl⟩
  obtain ⟨b_, hb_⟩ : ∃ b_, (l.getD i default).b = b_ := ⟨_, rfl⟩
  obtain ⟨fl_, hfl⟩ : ∃ fl_, (l.getD i default).flag = fl_ := ⟨_, rfl⟩
  obtain ⟨sz_, hsz_⟩ : ∃ sz_, (l.getD i default).size = sz_ := ⟨_, rfl⟩
  rw [hkd] at c0
  rw [hop] at c1
  rw [hkey] at c2
  rw [hval] at c3
  rw [ha_] at c4
  rw [hb_] at c5
  rw [hfl] at c6
  rw [hsz_] at c7
  have HEQS := Lib.hid (show (l.getD i default) = ⟨kd_, op_, key, val, a_, b_, fl_, sz_⟩ by rw [← hkd, ← hop, ← hkey, ← hval, ← ha_, ← hb_, ← hfl, ← hsz_])
  have HX := Lib.hid (And.intro hkd (And.intro hop (And.intro hks (And.intro hlt0 hlen0))))
  have hnode := objAt_alloc_new w2 #[.int .i64 kd_, .int .i64 op_, .string key, .string val, .int .i64 a_, .int .i64 b_, .int .i64 fl_, .int .i64 sz_] 25
  have hbel3 : Below w.heap.size w (w2.alloc (.cells #[.int .i64 kd_, .int .i64 op_, .string key, .string val, .int .i64 a_, .int .i64 b_, .int .i64 fl_, .int .i64 sz_] 25)) := hbk.alloc hbk.size _
  have hkv3 := hkv.ints.below ((Below.refl w2.heap.size w2).alloc (Nat.le_refl _) (.cells #[.int .i64 kd_, .int .i64 op_, .string key, .string val, .int .i64 a_, .int .i64 b_, .int .i64 fl_, .int .i64 sz_] 25))
  obtain ⟨w3, hw3⟩ : ∃ w3, w2.alloc (.cells #[.int .i64 kd_, .int .i64 op_, .string key, .string val, .int .i64 a_, .int .i64 b_, .int .i64 fl_, .int .i64 sz_] 25) = w3 := ⟨_, rfl⟩
  obtain ⟨X, hX⟩ : ∃ X, w2.heap.size = X := ⟨_, rfl⟩
  rw [hw3] at hnode hbel3 hkv3
  rw [hX] at hnode
  have HS3 := Lib.hid (HSL.out.later hbel3 (Nat.le_refl _))
  have HN3 := Lib.hid hnode
  have HB3 := Lib.hid hbel3
  have HKV := Lib.hid hkv3
  have hkk : kdS l i = kd_ := hkd
  rw [hkk] at hcl
  have k0 : w3.cell? ⟨X, 0, none⟩ = some (.int .i64 kd_) := World.objAt.cell HN3.out (i := 0) rfl
  clear hkv hbk hS2 hc c hkd hop hkey hval ha_ hb_ hfl hsz_ hks HKID hnode hbel3 hkv3 hlt0 hlen0
  have x23 : (kd_ == 23) = true := by simp; omega
  have hks' : kidsS l i = ks := HX.out.2.2.1
  have hT' := HSS.out.1.tree
  have hkl : ∀ j, j < ks.length → ks.getD j 0 < len := fun j hj => HX.out.2.2.2.1 _ (getD_memS hj)
  have hl9 : ∀ j, j < ks.length → (T l (ks.getD j 0)).length ≤ 9000 := fun j hj => HSS.out.1.textAt (by have := hkl j hj; omega)
  have htx := T_group hT' hil (by rw [hkk]; exact hcl)
  rw [hks'] at htx
  have hgj := gjL_eq (l := l) ks ks.length (Nat.le_refl _)
  rw [List.take_length, ← htx] at hgj
  have HEQ := Lib.hid hgj
  have hgl := gjL_len (l := l) ks hl9
  have HGL := Lib.hid hgl
  have hksl : ks.length ≤ 60 := by have := HX.out.2.2.2.2; omega
  have HW := Lib.hid (fun j (hj : j < ks.length) w' (h' : Sels w' (some ⟨b, off, none⟩) len l) => HIH.out (ks.getD j 0) w' (hkl j hj) (HKZ.out _ (by rw [hks']; exact getD_memS hj)).2 h')
  have HKL := Lib.hid (And.intro hkl hl9)
  clear hkk hcl hks' hT' hkl hl9 htx hgj hgl HX
  obtain ⟨ka, kcap, rfl, hk1, hk2, hrow⟩ := id HKV.out
  clear hrow
  go_wp2
  go_loopw [7, 8] (fun f j wr => ∃ (k : Nat) (F : ByteArray), k ≤ ks.length ∧ j = .int .i64 (k : Int) ∧ f = .string F ∧ Hid (F = bs (gjL l ks k)) ∧ Hid (Below w.heap.size w wr) ∧ Hid (IntsOf wr (.slice ka ks.length kcap) ks)) (fun _ j _ => ks.length - (intOf j).toNat)
  case atStart => exact ⟨0, ⟨#[]⟩, by omega, by go_num, rfl, Lib.hid rfl, HB3, HKV⟩
  case round =>
    obtain ⟨k, F, hk, rfl, rfl, HF, HB, HI⟩ := hrel
    have hFs : F.size ≤ 9002 * k := by rw [HF.out, bs_size]; exact HGL.out k hk
    by_cases hlt : k < ks.length
    · have hS := HSL.out.later HB.out (Nat.le_refl _)
      obtain ⟨ka', kcap', hva, _, _, hrow2⟩ := HI.out
      obtain ⟨rfl, rfl⟩ : ka = ka' ∧ kcap = kcap' := by simpa using hva
      obtain ⟨g, o, rfl, hcell⟩ := hrow2.2.2 (by omega)
      have ck := hcell k (by simpa using hlt)
      rw [show (ks.map fun (n : Nat) => Value.int .i64 (n : Int)).getD k undef = .int .i64 ((ks.getD k 0 : Nat) : Int) by simp [List.getD_eq_getElem?_getD, hlt]] at ck
      obtain ⟨hzl, hz9⟩ := And.intro (HKL.out.1 k hlt) (HKL.out.2 k hlt)
      have hcall := HW.out k hlt wr hS
      have hgs : gjL l ks (k + 1) = (if 0 < k then gjL l ks k ++ [44, 32] else gjL l ks k) ++ T l (ks.getD k 0) := rfl
      obtain ⟨z, hz⟩ : ∃ z, ks.getD k 0 = z := ⟨_, rfl⟩
      rw [hz] at ck hzl hz9 hcall hgs
      obtain ⟨t, ht⟩ : ∃ t, bs (T l z) = t := ⟨_, rfl⟩
      rw [ht] at hcall
      have hts : t.size ≤ 9000 := by rw [← ht, bs_size]; exact hz9
      have HC := Lib.hid hcall
      have HT2 := Lib.hid ht
      have HGS := Lib.hid hgs
      have hc1 : F.size + 2 ≤ 9223372036854775807 := by omega
      have hc2 : F.size + t.size ≤ 9223372036854775807 := by omega
      have hc3 : F.size + 2 + t.size ≤ 9223372036854775807 := by omega
      clear hcall ht hgs hz hcell hrow2 hva hS hz9
      by_cases h0 : k = 0
      · have g0 : decide ((0 : Int) < (k : Int)) = false := by simp; omega
        have g0n : decide (0 < k) = false := by simp; omega
        have H00 := Lib.hid h0
        clear h0
        go_wp2_with fail
        refine HC.out.mono ?_
        rintro e w5 ⟨rfl, hb5⟩
        have HB5 := Lib.hid (HB.out.trans (hb5.mono HB.out.size))
        have HI5 := Lib.hid (HI.out.below hb5)
        clear hb5 HC
        go_wp2
        go_roundw
        case rel => exact ⟨k + 1, F ++ t, by omega, by go_num, rfl, Lib.hid (by rw [HGS.out, if_neg (by have := H00.out; omega), HF.out, ← HT2.out, bs_append]), HB5, HI5⟩
        case measure => simp [intOf]; omega
      · have g0 : decide ((0 : Int) < (k : Int)) = true := by simp; omega
        have g0n : decide (0 < k) = true := by simp; omega
        have H00 := Lib.hid h0
        clear h0
        go_wp2_with fail
        refine HC.out.mono ?_
        rintro e w5 ⟨rfl, hb5⟩
        have HB5 := Lib.hid (HB.out.trans (hb5.mono HB.out.size))
        have HI5 := Lib.hid (HI.out.below hb5)
        clear hb5 HC
        go_wp2
        go_roundw
        case rel =>
          refine ⟨k + 1, F ++ ⟨#[44, 32]⟩ ++ t, by omega, by go_num, rfl, Lib.hid ?_, HB5, HI5⟩
          rw [HGS.out, if_pos (by have := H00.out; omega), HF.out, ← HT2.out]
          show bs _ ++ bs [44, 32] ++ bs _ = _
          simp only [bs_append]
        case measure => simp [intOf]; omega
    · obtain rfl : k = ks.length := by omega
      have HR := Lib.hid (show F = bs (T l i) by rw [HF.out, HEQ.out])
      go_wp2
      go_ret
      exact ⟨by rw [HR.out]; rfl, HB.out⟩
variable {l : List SelD}
def comW (i : Nat) : ByteArray := bs ([[], [32], [32, 62, 32], [32, 43, 32], [32, 126, 32]].getD i [])
def combG (b off len cap g o kcap X p q f : Nat) (N O : ByteArray) (i : Nat) (v : Value) (w : World) : Prop :=
  match i with
  | 0 => v = .slice (some ⟨b, off, none⟩) len cap
  | 1 => v = .slice (some ⟨g, o, none⟩) 2 kcap
  | 2 => v = .pointer (some ⟨g, o, none⟩)
  | 3 => v = .int .i64 (p : Int)
  | 4 => v = .string N
  | 5 => RowAt w 5 comW v
  | 6 => v = .pointer (some ⟨X, 1, none⟩)
  | 7 => v = .int .i64 (f : Int)
  | 8 => SpotAt w (comW f) v
  | 9 => v = .string (comW f)
  | 10 => v = .string (N ++ comW f)
  | 11 => v = .slice (some ⟨b, off, none⟩) len cap
  | 12 => v = .slice (some ⟨g, o, none⟩) 2 kcap
  | 13 => v = .pointer (some ⟨g, o + 1, none⟩)
  | 14 => v = .int .i64 (q : Int)
  | 15 => v = .string O
  | 16 => v = .string (N ++ comW f ++ O)
  | 17 => v = .string (N ++ comW f ++ O)
  | _ => True
theorem combG_mono {b off len cap g o kcap X p q f : Nat} {N O : ByteArray} (i : Nat) (v : Value) (w w' : World) (h : combG b off len cap g o kcap X p q f N O i v w) (hb : Below w.heap.size w w') : combG b off len cap g o kcap X p q f N O i v w' := by
  unfold combG at h ⊢
  split at h
  all_goals first
    | exact h.below hb
    | exact h
set_option maxRecDepth 100000 in
set_option maxHeartbeats 8000000 in
theorem wat_comb (hSS : SmallSel l) (hNP : NoPseudo l) (a : Option Addr) (len cap n : Nat) (ih : ∀ (i : Nat) (w : World), i < len → zs l i ≤ n → Sels w a len l → Calls Tryz.prog 16 #[.slice a len cap, .int .i64 (i : Int)] w (StrPost (bs (T l i)) w)) (i : Nat) (w : World) (hi : i < len) (hn : zs l i ≤ n + 1) (h : Sels w a len l) (hcl : kdS l i = 22) :
    Calls Tryz.prog 16 #[.slice a len cap, .int .i64 (i : Int)] w (StrPost (bs (T l i)) w) := by
  have hT := hSS.tree
  have hl := h.len.1
  have hil : i < l.length := by omega
  have hlen60 : len ≤ 60 := by rw [← hl]; exact hT.small
  obtain ⟨hsz, hfit⟩ := hT.szs hl
  have HSL := Lib.hid h
  have HKID := Lib.hid (fun w' (h' : Sels w' a len l) => selKids_any a len cap l i w' h' hsz hfit hi (by omega))
  have hlt0 := kid_lt hsz hfit hi
  have hlen0 := kid_len hsz hfit hi
  have HIH := Lib.hid ih
  have HSS := Lib.hid (And.intro hSS hNP)
  have hkz : ∀ k ∈ kidsS l i, k < len ∧ zs l k ≤ n := fun k hk => by
    have := hT.kid hil hk
    exact ⟨by omega, by omega⟩
  have HKZ := Lib.hid hkz
  clear ih hkz h hsz hfit
  go_enter Tryz.func16, Tryz.ntmps16
  go_wp2_with fail
  refine (HKID.out w HSL.out).mono ?_
  rintro e w2 ⟨kv, rfl, hkv, hbk⟩
  obtain ⟨ks, hks⟩ : ∃ ks, kids (zs l) i = ks := ⟨_, rfl⟩
  rw [hks] at hkv hlt0 hlen0
  have hS2 := HSL.out.later hbk (Nat.le_refl _)
  obtain ⟨b, off, rfl, hc⟩ := hS2.at (by omega)
  have c := hc i hi
  have c0 := c.kind
  have c1 := c.op
  have c2 := c.key
  have c3 := c.val
  have c4 := c.a
  have c5 := c.b
  have c6 := c.flag
  have c7 := c.size
  have HCE := Lib.hid c
  obtain ⟨kd_, hkd⟩ : ∃ kd_, (l.getD i default).kind = kd_ := ⟨_, rfl⟩
  obtain ⟨op_, hop⟩ : ∃ op_, (l.getD i default).op = op_ := ⟨_, rfl⟩
  obtain ⟨key, hkey⟩ : ∃ key, (l.getD i default).key = key := ⟨_, rfl⟩
  obtain ⟨val, hval⟩ : ∃ val, (l.getD i default).val = val := ⟨_, rfl⟩
  obtain ⟨a_, ha_⟩ : ∃ a_, (l.getD i default).a = a_ := ⟨_, rfl⟩
  obtain ⟨b_, hb_⟩ : ∃ b_, (l.getD i default).b = b_ := ⟨_, rfl⟩
  obtain ⟨fl_, hfl⟩ : ∃ fl_, (l.getD i default).flag = fl_ := ⟨_, rfl⟩
  obtain ⟨sz_, hsz_⟩ : ∃ sz_, (l.getD i default).size = sz_ := ⟨_, rfl⟩
  rw [hkd] at c0
  rw [hop] at c1
  rw [hkey] at c2
  rw [hval] at c3
  rw [ha_] at c4
  rw [hb_] at c5
  rw [hfl] at c6
  rw [hsz_] at c7
  have HEQS := Lib.hid (show (l.getD i default) = ⟨kd_, op_, key, val, a_, b_, fl_, sz_⟩ by rw [← hkd, ← hop, ← hkey, ← hval, ← ha_, ← hb_, ← hfl, ← hsz_])
  have HX := Lib.hid (And.intro hkd (And.intro hop (And.intro hks (And.intro hlt0 hlen0))))
  have hnode := objAt_alloc_new w2 #[.int .i64 kd_, .int .i64 op_, .string key, .string val, .int .i64 a_, .int .i64 b_, .int .i64 fl_, .int .i64 sz_] 25
  have hbel3 : Below w.heap.size w (w2.alloc (.cells #[.int .i64 kd_, .int .i64 op_, .string key, .string val, .int .i64 a_, .int .i64 b_, .int .i64 fl_, .int .i64 sz_] 25)) := hbk.alloc hbk.size _
  have hkv3 := hkv.ints.below ((Below.refl w2.heap.size w2).alloc (Nat.le_refl _) (.cells #[.int .i64 kd_, .int .i64 op_, .string key, .string val, .int .i64 a_, .int .i64 b_, .int .i64 fl_, .int .i64 sz_] 25))
  obtain ⟨w3, hw3⟩ : ∃ w3, w2.alloc (.cells #[.int .i64 kd_, .int .i64 op_, .string key, .string val, .int .i64 a_, .int .i64 b_, .int .i64 fl_, .int .i64 sz_] 25) = w3 := ⟨_, rfl⟩
  obtain ⟨X, hX⟩ : ∃ X, w2.heap.size = X := ⟨_, rfl⟩
  rw [hw3] at hnode hbel3 hkv3
  rw [hX] at hnode
  have HS3 := Lib.hid (HSL.out.later hbel3 (Nat.le_refl _))
  have HN3 := Lib.hid hnode
  have HB3 := Lib.hid hbel3
  have HKV := Lib.hid hkv3
  have hkk : kdS l i = kd_ := hkd
  rw [hkk] at hcl
  have k0 : w3.cell? ⟨X, 0, none⟩ = some (.int .i64 kd_) := World.objAt.cell HN3.out (i := 0) rfl
  clear hkv hbk hS2 hc c hkd hop hkey hval ha_ hb_ hfl hsz_ hks HKID hnode hbel3 hkv3 hlt0 hlen0
  have x23 : (kd_ == 23) = false := by simp; omega
  have x22 : (kd_ == 22) = true := by simp; omega
  have hT' := HSS.out.1.tree
  have hk22 : kdS l i = 22 := by rw [hkk]; exact hcl
  obtain ⟨p, q, hpq, _, _, _, hpl, hql, hpz, hqz⟩ := hT'.comb' hil hk22
  have hks' : kidsS l i = ks := HX.out.2.2.1
  obtain rfl : ks = [p, q] := hks'.symm.trans hpq
  have htx := T_comb hT' hil hk22 hpq
  rw [HX.out.2.1] at htx
  have hcb := (hT'.fields i hil).comb hk22
  rw [HX.out.2.1] at hcb
  obtain ⟨f, hf⟩ : ∃ f : Nat, op_ = (f : Int) := ⟨op_.toNat, by omega⟩
  subst hf
  have hf5 : f < 5 := by omega
  have hf0 : 1 ≤ f := by omega
  have HP0 := Lib.hid (fun w' (h' : Sels w' (some ⟨b, off, none⟩) len l) => HIH.out p w' (by omega) (by omega) h')
  have HQ0 := Lib.hid (fun w' (h' : Sels w' (some ⟨b, off, none⟩) len l) => HIH.out q w' (by omega) (by omega) h')
  have hNl := HSS.out.1.textAt hpl
  have hOl := HSS.out.1.textAt hql
  obtain ⟨N, hN⟩ : ∃ N, bs (T l p) = N := ⟨_, rfl⟩
  obtain ⟨O, hO⟩ : ∃ O, bs (T l q) = O := ⟨_, rfl⟩
  have hNs : N.size ≤ 9000 := by rw [← hN, bs_size]; exact hNl
  have hOs : O.size ≤ 9000 := by rw [← hO, bs_size]; exact hOl
  have hWs : (comW f).size ≤ 3 := by
    unfold comW
    rw [bs_size]
    rcases (show f = 1 ∨ f = 2 ∨ f = 3 ∨ f = 4 by omega) with rfl | rfl | rfl | rfl <;> simp
  have hE : bs (T l i) = N ++ comW f ++ O := by
    rw [htx, ← hN, ← hO]
    unfold comW
    simp only [bs_append]
    congr 1
    unfold combL
    rcases (show f = 1 ∨ f = 2 ∨ f = 3 ∨ f = 4 by omega) with rfl | rfl | rfl | rfl <;> simp
  simp only [hN] at HP0
  simp only [hO] at HQ0
  have HE := Lib.hid hE
  have d1 : w3.cell? ⟨X, 1, none⟩ = some (.int .i64 (f : Int)) := World.objAt.cell HN3.out (i := 1) rfl
  clear hE htx hcb hN hO hNl hOl hpz hqz hpl hql hT' hk22 hkk hcl hks' hpq HX
  obtain ⟨ka, kcap, rfl, hk1, hk2, hrow⟩ := id HKV.out
  obtain ⟨g, o, rfl, hcell⟩ := hrow.2.2 (by simp)
  have ck0 : w3.cell? ⟨g, o, none⟩ = some (.int .i64 (p : Int)) := hcell 0 (by simp)
  have ck1 : w3.cell? ⟨g, o + 1, none⟩ = some (.int .i64 (q : Int)) := hcell 1 (by simp)
  clear hcell hrow
  simp only [List.length_cons, List.length_nil, Nat.reduceAdd] at hk1 ⊢
  go_wp2
  refine wp_plan2 (combG b off len cap g o kcap X p q f N O) (fun w1 => Below w3.heap.size w3 w1) (by kernel_rfl) (n := 87) (by kernel_rfl) (by kernel_rfl) combG_mono (Below.refl _ _).drew ?step ?done
  case step =>
    intro i o a' w1 hi hS1 hF hD
    have d1 := cell_belowS hS1 d1
    have ck0 := cell_belowS hS1 ck0
    have ck1 := cell_belowS hS1 ck1
    have x0 := hF.rest 0 (no_dst (by kernel_rfl))
    have x5 := hF.rest 5 (no_dst (by kernel_rfl))
    have x6 := hF.rest 6 (no_dst (by kernel_rfl))
    match i, hi with
    | 0, hi =>
      obtain rfl := Option.some.inj hi
      exact plan_pure rfl rfl hS1 (by go_simp; all_goals first | rfl | exact ⟨rfl, rfl⟩ | exact ⟨rfl, rfl, rfl⟩ | omega) rfl
    | 1, hi =>
      obtain rfl := Option.some.inj hi
      exact plan_pure rfl rfl hS1 (by go_simp; all_goals first | rfl | exact ⟨rfl, rfl⟩ | exact ⟨rfl, rfl, rfl⟩ | omega) rfl
    | 2, hi =>
      obtain rfl := Option.some.inj hi
      have y42 : a'.tmps.getD 42 undef = _ := hD ⟨1, .data⟩ (by simp) rfl _ _ rfl rfl
      exact plan_pure rfl rfl hS1 (by go_simp; all_goals first | rfl | exact ⟨rfl, rfl⟩ | exact ⟨rfl, rfl, rfl⟩ | omega) rfl
    | 3, hi =>
      obtain rfl := Option.some.inj hi
      have y43 : a'.tmps.getD 43 undef = _ := hD ⟨2, .data⟩ (by simp) rfl _ _ rfl rfl
      exact plan_pure rfl rfl hS1 (by go_simp; all_goals first | rfl | exact ⟨rfl, rfl⟩ | exact ⟨rfl, rfl, rfl⟩ | omega) rfl
    | 4, hi =>
      obtain rfl := Option.some.inj hi
      have y41 : a'.tmps.getD 41 undef = _ := hD ⟨0, .data⟩ (by simp) rfl _ _ rfl rfl
      have y44 : a'.tmps.getD 44 undef = _ := hD ⟨3, .data⟩ (by simp) rfl _ _ rfl rfl
      refine plan_call rfl rfl (by go_simp; all_goals first | rfl | exact ⟨rfl, rfl⟩ | exact ⟨rfl, rfl, rfl⟩ | omega) ((HP0.out _ (HS3.out.below hS1)).mono ?_)
      rintro e w5 ⟨rfl, hb5⟩
      exact ⟨_, rfl, rfl, hS1.trans (hb5.mono hS1.size), hb5⟩
    | 5, hi =>
      obtain rfl := Option.some.inj hi
      refine plan_value rfl rfl (v := .slice (some ⟨w1.heap.size, 0, none⟩) 5 5) (by go_simp; all_goals first | rfl | exact ⟨rfl, rfl⟩ | exact ⟨rfl, rfl, rfl⟩ | omega) ?h ?hs ?hb
      case h =>
        refine ⟨_, rfl, fun i hi => ?_⟩
        have hn := objAt_alloc_new w1 #[.string (comW 0), .string (comW 1), .string (comW 2), .string (comW 3), .string (comW 4)] 9
        rcases (show i = 0 ∨ i = 1 ∨ i = 2 ∨ i = 3 ∨ i = 4 by omega) with rfl | rfl | rfl | rfl | rfl
        · exact World.objAt.cell hn (i := 0) rfl
        · exact World.objAt.cell hn (i := 1) rfl
        · exact World.objAt.cell hn (i := 2) rfl
        · exact World.objAt.cell hn (i := 3) rfl
        · exact World.objAt.cell hn (i := 4) rfl
      case hs => exact hS1.alloc hS1.size _
      case hb => exact (Below.refl _ _).alloc (Nat.le_refl _) _
    | 6, hi =>
      obtain rfl := Option.some.inj hi
      exact plan_pure rfl rfl hS1 (by go_simp; all_goals first | rfl | exact ⟨rfl, rfl⟩ | exact ⟨rfl, rfl, rfl⟩ | omega) rfl
    | 7, hi =>
      obtain rfl := Option.some.inj hi
      have y47 : a'.tmps.getD 47 undef = _ := hD ⟨6, .data⟩ (by simp) rfl _ _ rfl rfl
      exact plan_pure rfl rfl hS1 (by go_simp; all_goals first | rfl | exact ⟨rfl, rfl⟩ | exact ⟨rfl, rfl, rfl⟩ | omega) rfl
    | 8, hi =>
      obtain rfl := Option.some.inj hi
      obtain ⟨gr, y46, hc⟩ : RowAt w1 5 comW (a'.tmps.getD 46 undef) := hD ⟨5, .data⟩ (by simp) rfl _ _ rfl rfl
      have y48 : a'.tmps.getD 48 undef = _ := hD ⟨7, .data⟩ (by simp) rfl _ _ rfl rfl
      exact plan_pure rfl rfl hS1 (by go_simp; all_goals first | rfl | exact ⟨rfl, rfl⟩ | exact ⟨rfl, rfl, rfl⟩ | omega) ⟨_, rfl, hc f hf5⟩
    | 9, hi =>
      obtain rfl := Option.some.inj hi
      obtain ⟨pt, y49, hc⟩ : SpotAt w1 (comW f) (a'.tmps.getD 49 undef) := hD ⟨8, .data⟩ (by simp) rfl _ _ rfl rfl
      exact plan_pure rfl rfl hS1 (by go_simp; all_goals first | rfl | exact ⟨rfl, rfl⟩ | exact ⟨rfl, rfl, rfl⟩ | omega) rfl
    | 10, hi =>
      obtain rfl := Option.some.inj hi
      have y45 : a'.tmps.getD 45 undef = _ := hD ⟨4, .data⟩ (by simp) rfl _ _ rfl rfl
      have y50 : a'.tmps.getD 50 undef = _ := hD ⟨9, .data⟩ (by simp) rfl _ _ rfl rfl
      exact plan_pure rfl rfl hS1 (by go_simp; all_goals first | rfl | exact ⟨rfl, rfl⟩ | exact ⟨rfl, rfl, rfl⟩ | omega) rfl
    | 11, hi =>
      obtain rfl := Option.some.inj hi
      exact plan_pure rfl rfl hS1 (by go_simp; all_goals first | rfl | exact ⟨rfl, rfl⟩ | exact ⟨rfl, rfl, rfl⟩ | omega) rfl
    | 12, hi =>
      obtain rfl := Option.some.inj hi
      exact plan_pure rfl rfl hS1 (by go_simp; all_goals first | rfl | exact ⟨rfl, rfl⟩ | exact ⟨rfl, rfl, rfl⟩ | omega) rfl
    | 13, hi =>
      obtain rfl := Option.some.inj hi
      have y53 : a'.tmps.getD 53 undef = _ := hD ⟨12, .data⟩ (by simp) rfl _ _ rfl rfl
      exact plan_pure rfl rfl hS1 (by go_simp; all_goals first | rfl | exact ⟨rfl, rfl⟩ | exact ⟨rfl, rfl, rfl⟩ | omega) rfl
    | 14, hi =>
      obtain rfl := Option.some.inj hi
      have y54 : a'.tmps.getD 54 undef = _ := hD ⟨13, .data⟩ (by simp) rfl _ _ rfl rfl
      exact plan_pure rfl rfl hS1 (by go_simp; all_goals first | rfl | exact ⟨rfl, rfl⟩ | exact ⟨rfl, rfl, rfl⟩ | omega) rfl
    | 15, hi =>
      obtain rfl := Option.some.inj hi
      have y52 : a'.tmps.getD 52 undef = _ := hD ⟨11, .data⟩ (by simp) rfl _ _ rfl rfl
      have y55 : a'.tmps.getD 55 undef = _ := hD ⟨14, .data⟩ (by simp) rfl _ _ rfl rfl
      refine plan_call rfl rfl (by go_simp; all_goals first | rfl | exact ⟨rfl, rfl⟩ | exact ⟨rfl, rfl, rfl⟩ | omega) ((HQ0.out _ (HS3.out.below hS1)).mono ?_)
      rintro e w5 ⟨rfl, hb5⟩
      exact ⟨_, rfl, rfl, hS1.trans (hb5.mono hS1.size), hb5⟩
    | 16, hi =>
      obtain rfl := Option.some.inj hi
      have y51 : a'.tmps.getD 51 undef = _ := hD ⟨10, .data⟩ (by simp) rfl _ _ rfl rfl
      have y56 : a'.tmps.getD 56 undef = _ := hD ⟨15, .data⟩ (by simp) rfl _ _ rfl rfl
      exact plan_pure rfl rfl hS1 (by go_simp; all_goals first | rfl | exact ⟨rfl, rfl⟩ | exact ⟨rfl, rfl, rfl⟩ | omega) rfl
    | 17, hi =>
      obtain rfl := Option.some.inj hi
      have y57 : a'.tmps.getD 57 undef = _ := hD ⟨16, .data⟩ (by simp) rfl _ _ rfl rfl
      exact plan_pure rfl rfl hS1 (by go_simp; all_goals first | rfl | exact ⟨rfl, rfl⟩ | exact ⟨rfl, rfl, rfl⟩ | omega) rfl
    | n + 18, hi => simp at hi
  case done =>
    intro a' w1 hS1 hF hD
    have y : a'.tmps.getD 4 undef = _ := hD 17 _ 4 rfl rfl
    have HY := Lib.hid (And.intro y hF.defers)
    clear y hF hD
    go_wp2
    (try simp only [Exit.inBlock, Exit.then])
    refine bodyPost_ret (results_tmp rfl _ _ _) HY.out.2 ?_
    rw [HY.out.1]
    exact ⟨by rw [HE.out], HB3.out.trans (hS1.mono HB3.out.size)⟩
end Go.Proofs.YtoanofdomhnafaaGreatDoor
