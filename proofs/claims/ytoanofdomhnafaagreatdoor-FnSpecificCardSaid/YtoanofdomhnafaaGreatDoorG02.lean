/- Parts of a proof: Point. -/
import Derived.Test.YtoanofdomhnafaaGreatDoorG01
import Derived.BigGuardPart
set_option linter.unusedVariables false
set_option linter.unusedSimpArgs false
namespace Go.Proofs.YtoanofdomhnafaaGreatDoor
open Go.RowKit
/-- What the bytes behind the first one add. -/
def contV (s : ByteArray) (p : Nat) (c0 : Int) : Nat → Int
  | 0 => c0
  | j + 1 => contV s p c0 j * 64 + nx s (p + 1 + j) - 128
/-- They are such bytes. -/
def contOk (s : ByteArray) (p : Nat) : Nat → Bool
  | 0 => true
  | j + 1 => contOk s p j && decide (128 ≤ nx s (p + 1 + j) ∧ nx s (p + 1 + j) ≤ 191)
theorem contOk_byte {s : ByteArray} {p : Nat} : ∀ {m : Nat}, contOk s p m = true → ∀ j, j < m → 128 ≤ nx s (p + 1 + j) ∧ nx s (p + 1 + j) ≤ 191
  | 0, _, j, hj => by omega
  | m + 1, h, j, hj => by
    simp only [contOk, Bool.and_eq_true, decide_eq_true_eq] at h
    by_cases hjm : j < m
    · exact contOk_byte h.1 j hjm
    · obtain rfl : j = m := by omega
      exact h.2
theorem contV_lt {s : ByteArray} {p : Nat} {c0 : Int} (h0 : 0 ≤ c0) (h1 : c0 < 32) : ∀ m, m ≤ 3 → contOk s p m = true → 0 ≤ contV s p c0 m ∧ contV s p c0 m < 32 * 64 ^ m
  | 0, _, _ => by simp [contV]; omega
  | m + 1, hm, h => by
    have hb := contOk_byte h m (by omega)
    simp only [contOk, Bool.and_eq_true] at h
    have ih := contV_lt h0 h1 m (by omega) h.1
    simp only [contV]
    have : (64 : Int) ^ (m + 1) = 64 ^ m * 64 := Int.pow_succ _ _
    rw [this]
    generalize (64 : Int) ^ m = q at *
    omega
def ptBad (c least : Int) : Bool := decide (c < least ∨ 1114111 < c ∨ (55296 ≤ c ∧ c < 57344))
/-- How many bytes the code point at a place has; 0: there is none. -/
def ptK (s : ByteArray) (p : Nat) : Nat :=
  if nx s p < 128 then 1
  else if nx s p < 194 then 0
  else if nx s p < 224 then (if p + 2 ≤ s.size ∧ contOk s p 1 = true ∧ ptBad (contV s p (nx s p - 192) 1) 128 = false then 2 else 0)
  else if nx s p < 240 then (if p + 3 ≤ s.size ∧ contOk s p 2 = true ∧ ptBad (contV s p (nx s p - 224) 2) 2048 = false then 3 else 0)
  else if nx s p < 245 then (if p + 4 ≤ s.size ∧ contOk s p 3 = true ∧ ptBad (contV s p (nx s p - 240) 3) 65536 = false then 4 else 0)
  else 0
theorem ptK_le (s : ByteArray) (p : Nat) (hp : p < s.size) : p + ptK s p ≤ s.size := by
  unfold ptK
  repeat' split
  all_goals omega
theorem ptK_cases (s : ByteArray) (p : Nat) : ptK s p ≤ 1 ∨ (194 ≤ nx s p ∧ contOk s p (ptK s p - 1) = true) := by
  unfold ptK
  repeat' split
  all_goals first | (left; omega) | (rename_i h; exact .inr ⟨by omega, h.2.1⟩)
/-- Behind the first byte of a code point of several bytes all bytes are from 128 on. -/
theorem ptK_high {s : ByteArray} {p : Nat} (h : 1 < ptK s p) : 194 ≤ nx s p ∧ ∀ j, j + 1 < ptK s p → 128 ≤ nx s (p + 1 + j) := by
  rcases ptK_cases s p with h1 | ⟨h1, h2⟩
  · omega
  · exact ⟨h1, fun j hj => (contOk_byte h2 j (by omega)).1⟩
/-- The code point itself; 0 where there is none. -/
def ptC (s : ByteArray) (p : Nat) : Int :=
  if nx s p < 128 then nx s p
  else if ptK s p = 2 then contV s p (nx s p - 192) 1
  else if ptK s p = 3 then contV s p (nx s p - 224) 2
  else if ptK s p = 4 then contV s p (nx s p - 240) 3
  else 0
theorem ptC_zero {s : ByteArray} {p : Nat} {c : Int} (hx : nx s p = c) (h : ¬ c < 128) (hk : ptK s p = 0) : ptC s p = 0 := by
  unfold ptC
  rw [hx, if_neg h, hk]
  rfl
def PtPost (s : ByteArray) (p : Nat) (w : World) (e : Ending) (w' : World) : Prop := e = .returned (.tuple #[.int .i64 (ptC s p), .int .i64 (ptK s p : Int)]) ∧ w' = w
set_option maxRecDepth 100000 in
set_option maxHeartbeats 8000000 in
theorem pt_any (s : ByteArray) (p : Nat) (w : World) (hs : s.size ≤ 4000) (hp : p < s.size) : Calls Tryz.prog 38 #[.string s, .int .i64 (p : Int)] w (PtPost s p w) := by
  have hx := nx_lt hp
  have hx0 := nx_nonneg s p
  have hx1 := nx_le s p
  obtain ⟨c, hc⟩ : ∃ c, ((s[p]'hp).toNat : Int) = c := ⟨_, rfl⟩
  have hxc : nx s p = c := by rw [hx, hc]
  rw [hxc] at hx0 hx1
  have HX := Lib.hid hxc
  clear hx hxc
  rcases (show c < 128 ∨ (128 ≤ c ∧ c < 194) ∨ (194 ≤ c ∧ c < 224) ∨ (224 ≤ c ∧ c < 240) ∨ (240 ≤ c ∧ c < 245) ∨ 245 ≤ c by omega) with h | h | h | h | h | h
  · skip
    have g1 : decide (c < (128 : Int)) = true := by simp; omega
    have e0 : decide ((194 : Int) ≤ c) = false := by simp; omega
    have e1 : decide (c < (224 : Int)) = true := by simp; omega
    have e2 : decide ((224 : Int) ≤ c) = false := by simp; omega
    have e3 : decide (c < (240 : Int)) = true := by simp; omega
    have e4 : decide ((240 : Int) ≤ c) = false := by simp; omega
    have e5 : decide (c < (245 : Int)) = true := by simp; omega
    have hk : ptK s p = 1 := by unfold ptK; rw [HX.out, if_pos h]
    have hcc : ptC s p = c := by unfold ptC; rw [HX.out, if_pos h]
    have HK := Lib.hid (And.intro hk hcc)
    clear hk hcc
    go_enter Tryz.func38, Tryz.ntmps38
    go_wp2
    go_ret2
    exact ⟨by rw [HK.out.1, HK.out.2]; rfl, rfl⟩
  · skip
    have g1 : decide (c < (128 : Int)) = false := by simp; omega
    have e0 : decide ((194 : Int) ≤ c) = false := by simp; omega
    have e1 : decide (c < (224 : Int)) = true := by simp; omega
    have e2 : decide ((224 : Int) ≤ c) = false := by simp; omega
    have e3 : decide (c < (240 : Int)) = true := by simp; omega
    have e4 : decide ((240 : Int) ≤ c) = false := by simp; omega
    have e5 : decide (c < (245 : Int)) = true := by simp; omega
    have hk : ptK s p = 0 := by unfold ptK; rw [HX.out, if_neg (by omega), if_pos h.2]
    have HK := Lib.hid hk
    clear hk
    go_enter Tryz.func38, Tryz.ntmps38
    go_wp2
    go_ret2
    exact ⟨by rw [HK.out, ptC_zero HX.out (by omega) HK.out]; rfl, rfl⟩
  · skip
    have g1 : decide (c < (128 : Int)) = false := by simp; omega
    have e0 : decide ((194 : Int) ≤ c) = true := by simp; omega
    have e1 : decide (c < (224 : Int)) = true := by simp; omega
    have e2 : decide ((224 : Int) ≤ c) = false := by simp; omega
    have e3 : decide (c < (240 : Int)) = true := by simp; omega
    have e4 : decide ((240 : Int) ≤ c) = false := by simp; omega
    have e5 : decide (c < (245 : Int)) = true := by simp; omega
    have hkk : ptK s p = if p + 2 ≤ s.size ∧ contOk s p 1 = true ∧ ptBad (contV s p (c - 192) 1) 128 = false then 2 else 0 := by unfold ptK; rw [HX.out, if_neg (by omega), if_neg (by omega), if_pos h.2]
    have HKK := Lib.hid hkk
    clear hkk
    by_cases hr : p + 2 ≤ s.size
    · have gr : decide ((s.size : Int) < (p : Int) + 2) = false := by simp; omega
      go_enter Tryz.func38, Tryz.ntmps38
      go_wp2
      go_loop [4, 5, 8] (fun v q i => ∃ j : Nat, v = .int .i64 (contV s p (c - 192) j) ∧ q = .int .i64 2 ∧ i = .int .i64 ((p + 1 + j : Nat) : Int) ∧ j ≤ 1 ∧ contOk s p j = true) (fun _ _ i => p + 2 - (intOf i).toNat)
      case atStart => exact ⟨0, rfl, rfl, by go_num, by omega, rfl⟩
      case round =>
        obtain ⟨j, rfl, rfl, rfl, hj, hok⟩ := hrel
        have hlim := contV_lt (s := s) (p := p) (c0 := c - 192) (by omega) (by omega) j (by omega) hok
        have hpow : (64 : Int) ^ j ≤ 64 ^ 3 := by
          have : j = 0 ∨ j = 1 ∨ j = 2 ∨ j = 3 := by omega
          rcases this with h' | h' | h' | h' <;> subst h' <;> decide
        have hv0 := hlim.1
        have hv1 : contV s p (c - 192) j < 8388608 := by
          have := hlim.2
          generalize (64 : Int) ^ j = q at *
          omega
        clear hlim hpow
        obtain ⟨v, hv⟩ : ∃ v, contV s p (c - 192) j = v := ⟨_, rfl⟩
        rw [hv] at hv0 hv1
        have HV := Lib.hid (And.intro hv hok)
        rw [hv]
        clear hv hok
        by_cases hjl : j < 1
        · have hq : p + 1 + j < s.size := by omega
          have g5 : decide ((p : Int) + 1 + (j : Int) < (p : Int) + 2) = true := by simp; omega
          have hkf : contOk s p (j + 1) = false → ptK s p = 0 := fun hf => by
            rw [HKK.out, if_neg]
            intro h'
            have := contOk_byte h'.2.1 j (by omega)
            simp only [contOk, HV.out.2, Bool.true_and, decide_eq_false_iff_not] at hf
            exact hf this
          have HKF := Lib.hid hkf
          clear hkf
          go_wp2
          all_goals first
            | (go_ret2
               have hk := HKF.out (by simp only [contOk, HV.out.2, Bool.true_and, decide_eq_false_iff_not, nx_lt hq]; omega)
               exact ⟨by rw [hk, ptC_zero HX.out (by omega) hk]; rfl, rfl⟩)
            | exact ⟨⟨j + 1, by simp only [contV, HV.out.1, nx_lt hq], rfl, by go_num, by omega, by simp only [contOk, HV.out.2, Bool.true_and, decide_eq_true_eq, nx_lt hq]; omega⟩, by simp [intOf]; omega⟩
        · obtain rfl : j = 1 := by omega
          have g5 : decide ((p : Int) + 1 + 1 < (p : Int) + 2) = false := by simp; omega
          go_wp2
          all_goals go_ret2
          all_goals first
            | (have hk : ptK s p = 0 := by
                 rw [HKK.out, if_neg]
                 intro h'
                 have h3 := h'.2.2
                 rw [HV.out.1] at h3
                 simp only [ptBad, decide_eq_false_iff_not] at h3
                 omega
               exact ⟨by rw [hk, ptC_zero HX.out (by omega) hk]; rfl, rfl⟩)
            | (have hk : ptK s p = 2 := by
                 rw [HKK.out, if_pos ⟨hr, HV.out.2, by rw [HV.out.1]; simp only [ptBad, decide_eq_false_iff_not]; omega⟩]
               exact ⟨by rw [hk, show ptC s p = v by (unfold ptC; rw [HX.out, if_neg (by omega), hk]; exact HV.out.1)]; rfl, rfl⟩)
    · have gr : decide ((s.size : Int) < (p : Int) + 2) = true := by simp; omega
      have hk : ptK s p = 0 := by rw [HKK.out, if_neg (fun h' => hr h'.1)]
      have HK := Lib.hid hk
      clear hk
      go_enter Tryz.func38, Tryz.ntmps38
      go_wp2
      go_ret2
      exact ⟨by rw [HK.out, ptC_zero HX.out (by omega) HK.out]; rfl, rfl⟩
  · skip
    have g1 : decide (c < (128 : Int)) = false := by simp; omega
    have e0 : decide ((194 : Int) ≤ c) = true := by simp; omega
    have e1 : decide (c < (224 : Int)) = false := by simp; omega
    have e2 : decide ((224 : Int) ≤ c) = true := by simp; omega
    have e3 : decide (c < (240 : Int)) = true := by simp; omega
    have e4 : decide ((240 : Int) ≤ c) = false := by simp; omega
    have e5 : decide (c < (245 : Int)) = true := by simp; omega
    have hkk : ptK s p = if p + 3 ≤ s.size ∧ contOk s p 2 = true ∧ ptBad (contV s p (c - 224) 2) 2048 = false then 3 else 0 := by unfold ptK; rw [HX.out, if_neg (by omega), if_neg (by omega), if_neg (by omega), if_pos h.2]
    have HKK := Lib.hid hkk
    clear hkk
    by_cases hr : p + 3 ≤ s.size
    · have gr : decide ((s.size : Int) < (p : Int) + 3) = false := by simp; omega
      go_enter Tryz.func38, Tryz.ntmps38
      go_wp2
      go_loop [4, 5, 8] (fun v q i => ∃ j : Nat, v = .int .i64 (contV s p (c - 224) j) ∧ q = .int .i64 3 ∧ i = .int .i64 ((p + 1 + j : Nat) : Int) ∧ j ≤ 2 ∧ contOk s p j = true) (fun _ _ i => p + 3 - (intOf i).toNat)
      case atStart => exact ⟨0, rfl, rfl, by go_num, by omega, rfl⟩
      case round =>
        obtain ⟨j, rfl, rfl, rfl, hj, hok⟩ := hrel
        have hlim := contV_lt (s := s) (p := p) (c0 := c - 224) (by omega) (by omega) j (by omega) hok
        have hpow : (64 : Int) ^ j ≤ 64 ^ 3 := by
          have : j = 0 ∨ j = 1 ∨ j = 2 ∨ j = 3 := by omega
          rcases this with h' | h' | h' | h' <;> subst h' <;> decide
        have hv0 := hlim.1
        have hv1 : contV s p (c - 224) j < 8388608 := by
          have := hlim.2
          generalize (64 : Int) ^ j = q at *
          omega
        clear hlim hpow
        obtain ⟨v, hv⟩ : ∃ v, contV s p (c - 224) j = v := ⟨_, rfl⟩
        rw [hv] at hv0 hv1
        have HV := Lib.hid (And.intro hv hok)
        rw [hv]
        clear hv hok
        by_cases hjl : j < 2
        · have hq : p + 1 + j < s.size := by omega
          have g5 : decide ((p : Int) + 1 + (j : Int) < (p : Int) + 3) = true := by simp; omega
          have hkf : contOk s p (j + 1) = false → ptK s p = 0 := fun hf => by
            rw [HKK.out, if_neg]
            intro h'
            have := contOk_byte h'.2.1 j (by omega)
            simp only [contOk, HV.out.2, Bool.true_and, decide_eq_false_iff_not] at hf
            exact hf this
          have HKF := Lib.hid hkf
          clear hkf
          go_wp2
          all_goals first
            | (go_ret2
               have hk := HKF.out (by simp only [contOk, HV.out.2, Bool.true_and, decide_eq_false_iff_not, nx_lt hq]; omega)
               exact ⟨by rw [hk, ptC_zero HX.out (by omega) hk]; rfl, rfl⟩)
            | exact ⟨⟨j + 1, by simp only [contV, HV.out.1, nx_lt hq], rfl, by go_num, by omega, by simp only [contOk, HV.out.2, Bool.true_and, decide_eq_true_eq, nx_lt hq]; omega⟩, by simp [intOf]; omega⟩
        · obtain rfl : j = 2 := by omega
          have g5 : decide ((p : Int) + 1 + 2 < (p : Int) + 3) = false := by simp; omega
          go_wp2
          all_goals go_ret2
          all_goals first
            | (have hk : ptK s p = 0 := by
                 rw [HKK.out, if_neg]
                 intro h'
                 have h3 := h'.2.2
                 rw [HV.out.1] at h3
                 simp only [ptBad, decide_eq_false_iff_not] at h3
                 omega
               exact ⟨by rw [hk, ptC_zero HX.out (by omega) hk]; rfl, rfl⟩)
            | (have hk : ptK s p = 3 := by
                 rw [HKK.out, if_pos ⟨hr, HV.out.2, by rw [HV.out.1]; simp only [ptBad, decide_eq_false_iff_not]; omega⟩]
               exact ⟨by rw [hk, show ptC s p = v by (unfold ptC; rw [HX.out, if_neg (by omega), hk]; exact HV.out.1)]; rfl, rfl⟩)
    · have gr : decide ((s.size : Int) < (p : Int) + 3) = true := by simp; omega
      have hk : ptK s p = 0 := by rw [HKK.out, if_neg (fun h' => hr h'.1)]
      have HK := Lib.hid hk
      clear hk
      go_enter Tryz.func38, Tryz.ntmps38
      go_wp2
      go_ret2
      exact ⟨by rw [HK.out, ptC_zero HX.out (by omega) HK.out]; rfl, rfl⟩
  · skip
    have g1 : decide (c < (128 : Int)) = false := by simp; omega
    have e0 : decide ((194 : Int) ≤ c) = true := by simp; omega
    have e1 : decide (c < (224 : Int)) = false := by simp; omega
    have e2 : decide ((224 : Int) ≤ c) = true := by simp; omega
    have e3 : decide (c < (240 : Int)) = false := by simp; omega
    have e4 : decide ((240 : Int) ≤ c) = true := by simp; omega
    have e5 : decide (c < (245 : Int)) = true := by simp; omega
    have hkk : ptK s p = if p + 4 ≤ s.size ∧ contOk s p 3 = true ∧ ptBad (contV s p (c - 240) 3) 65536 = false then 4 else 0 := by unfold ptK; rw [HX.out, if_neg (by omega), if_neg (by omega), if_neg (by omega), if_neg (by omega), if_pos h.2]
    have HKK := Lib.hid hkk
    clear hkk
    by_cases hr : p + 4 ≤ s.size
    · have gr : decide ((s.size : Int) < (p : Int) + 4) = false := by simp; omega
      go_enter Tryz.func38, Tryz.ntmps38
      go_wp2
      go_loop [4, 5, 8] (fun v q i => ∃ j : Nat, v = .int .i64 (contV s p (c - 240) j) ∧ q = .int .i64 4 ∧ i = .int .i64 ((p + 1 + j : Nat) : Int) ∧ j ≤ 3 ∧ contOk s p j = true) (fun _ _ i => p + 4 - (intOf i).toNat)
      case atStart => exact ⟨0, rfl, rfl, by go_num, by omega, rfl⟩
      case round =>
        obtain ⟨j, rfl, rfl, rfl, hj, hok⟩ := hrel
        have hlim := contV_lt (s := s) (p := p) (c0 := c - 240) (by omega) (by omega) j (by omega) hok
        have hpow : (64 : Int) ^ j ≤ 64 ^ 3 := by
          have : j = 0 ∨ j = 1 ∨ j = 2 ∨ j = 3 := by omega
          rcases this with h' | h' | h' | h' <;> subst h' <;> decide
        have hv0 := hlim.1
        have hv1 : contV s p (c - 240) j < 8388608 := by
          have := hlim.2
          generalize (64 : Int) ^ j = q at *
          omega
        clear hlim hpow
        obtain ⟨v, hv⟩ : ∃ v, contV s p (c - 240) j = v := ⟨_, rfl⟩
        rw [hv] at hv0 hv1
        have HV := Lib.hid (And.intro hv hok)
        rw [hv]
        clear hv hok
        by_cases hjl : j < 3
        · have hq : p + 1 + j < s.size := by omega
          have g5 : decide ((p : Int) + 1 + (j : Int) < (p : Int) + 4) = true := by simp; omega
          have hkf : contOk s p (j + 1) = false → ptK s p = 0 := fun hf => by
            rw [HKK.out, if_neg]
            intro h'
            have := contOk_byte h'.2.1 j (by omega)
            simp only [contOk, HV.out.2, Bool.true_and, decide_eq_false_iff_not] at hf
            exact hf this
          have HKF := Lib.hid hkf
          clear hkf
          go_wp2
          all_goals first
            | (go_ret2
               have hk := HKF.out (by simp only [contOk, HV.out.2, Bool.true_and, decide_eq_false_iff_not, nx_lt hq]; omega)
               exact ⟨by rw [hk, ptC_zero HX.out (by omega) hk]; rfl, rfl⟩)
            | exact ⟨⟨j + 1, by simp only [contV, HV.out.1, nx_lt hq], rfl, by go_num, by omega, by simp only [contOk, HV.out.2, Bool.true_and, decide_eq_true_eq, nx_lt hq]; omega⟩, by simp [intOf]; omega⟩
        · obtain rfl : j = 3 := by omega
          have g5 : decide ((p : Int) + 1 + 3 < (p : Int) + 4) = false := by simp; omega
          go_wp2
          all_goals go_ret2
          all_goals first
            | (have hk : ptK s p = 0 := by
                 rw [HKK.out, if_neg]
                 intro h'
                 have h3 := h'.2.2
                 rw [HV.out.1] at h3
                 simp only [ptBad, decide_eq_false_iff_not] at h3
                 omega
               exact ⟨by rw [hk, ptC_zero HX.out (by omega) hk]; rfl, rfl⟩)
            | (have hk : ptK s p = 4 := by
                 rw [HKK.out, if_pos ⟨hr, HV.out.2, by rw [HV.out.1]; simp only [ptBad, decide_eq_false_iff_not]; omega⟩]
               exact ⟨by rw [hk, show ptC s p = v by (unfold ptC; rw [HX.out, if_neg (by omega), hk]; exact HV.out.1)]; rfl, rfl⟩)
    · have gr : decide ((s.size : Int) < (p : Int) + 4) = true := by simp; omega
      have hk : ptK s p = 0 := by rw [HKK.out, if_neg (fun h' => hr h'.1)]
      have HK := Lib.hid hk
      clear hk
      go_enter Tryz.func38, Tryz.ntmps38
      go_wp2
      go_ret2
      exact ⟨by rw [HK.out, ptC_zero HX.out (by omega) HK.out]; rfl, rfl⟩
  · skip
    have g1 : decide (c < (128 : Int)) = false := by simp; omega
    have e0 : decide ((194 : Int) ≤ c) = true := by simp; omega
    have e1 : decide (c < (224 : Int)) = false := by simp; omega
    have e2 : decide ((224 : Int) ≤ c) = true := by simp; omega
    have e3 : decide (c < (240 : Int)) = false := by simp; omega
    have e4 : decide ((240 : Int) ≤ c) = true := by simp; omega
    have e5 : decide (c < (245 : Int)) = false := by simp; omega
    have hk : ptK s p = 0 := by unfold ptK; rw [HX.out]; repeat rw [if_neg (by omega)]
    have HK := Lib.hid hk
    clear hk
    go_enter Tryz.func38, Tryz.ntmps38
    go_wp2
    go_ret2
    exact ⟨by rw [HK.out, ptC_zero HX.out (by omega) HK.out]; rfl, rfl⟩
end Go.Proofs.YtoanofdomhnafaaGreatDoor
