/- spec.Named: a text written as a name. -/
import Derived.Test.YtbikpalfhlgnoaaDoorEscapeOf
import Derived.Test.YtbikpalfhlgnoaaDoorRest
namespace Go.Proofs.YtbikpalfhlgnoaaDoor
open Go.RowKit
set_option linter.unusedVariables false
set_option linter.unusedSimpArgs false

theorem ng_num {s : ByteArray} {k : Nat} (h : k < s.size) (hb : byNum s k = true) : bs (ng s (k + 1)) = bs (ng s k) ++ bs (esx s[k].toNat) := by
  rw [bs_append]; congr 1; simp [ng, nchunk, h, hb]
theorem ng_plain {s : ByteArray} {k : Nat} (h : k < s.size) (hb : byNum s k = false) (hn : isNc (nx s k) = true) : bs (ng s (k + 1)) = bs (ng s k) ++ s.extract k (k + 1) := by
  rw [extract_one h, bs_append]; congr 1; simp [ng, nchunk, h, hb, hn]
theorem ng_lit {s : ByteArray} {k : Nat} (h : k < s.size) (hb : byNum s k = false) (hn : isNc (nx s k) = false) : bs (ng s (k + 1)) = bs (ng s k) ++ (bs [92] ++ s.extract k (k + 1)) := by
  rw [extract_one h, bs_append, bs_append]; congr 1; simp [ng, nchunk, h, hb, hn]

set_option maxRecDepth 100000 in
set_option maxHeartbeats 40000000 in
theorem named_any (s : ByteArray) (w : World) (hs : s.size ≤ 1000) (hz : ∀ i, i < s.size → nx s i ≠ 0) : Calls Tryd.prog 12 #[.string s] w (StrPost (bs (namedF s)) w) := by
  have HZ := Lib.hid hz
  clear hz
  cases h45 : (s.toList == [45])
  · have hnf : namedF s = ng s s.size := by unfold namedF; rw [if_neg (by simp [h45])]
    have HNF := Lib.hid hnf
    clear hnf
    go_enter Tryd.func12, Tryd.ntmps12
    go_wp2
    go_loopw [3, 4] (fun o i wr => ∃ (k : Nat) (t : ByteArray), o = .string t ∧ i = .int .i64 (k : Int) ∧ k ≤ s.size ∧ Hid (t = bs (ng s k)) ∧ t.size ≤ 4 * k ∧ Below w.heap.size w wr) (fun _ i _ => s.size - (intOf i).toNat)
    case atStart => exact ⟨0, ByteArray.empty, rfl, by go_num, by omega, Lib.hid rfl, by simp, Below.refl _ _⟩
    case round =>
      obtain ⟨k, t, rfl, rfl, hk, ht, hts, hb⟩ := hrel
      have HB := Lib.hid hb
      clear hb
      by_cases hlt : k < s.size
      · have g0 : decide ((k : Int) < (s.size : Int)) = true := by simp [hlt]
        have g0n : decide (k < s.size) = true := by simp [hlt]
        have hx := nx_lt hlt
        have hzk := HZ.out k hlt
        have hx0 := nx_nonneg s k
        have hx1 := nx_le s k
        obtain ⟨n, hn⟩ : ∃ n, (s[k].toNat : Int) = n := ⟨_, rfl⟩
        rw [hn] at hx
        rw [hx] at hzk hx0 hx1
        have HX := Lib.hid hx
        have HN := Lib.hid hn
        clear hx
        have hex : (s.extract k (k + 1)).size = 1 := by rw [ByteArray.size_extract]; omega
        have hesl := esx_len s[k].toNat
        have hes1 : t.size + (bs (esx s[k].toNat)).size ≤ 9223372036854775807 := by rw [bs_size]; omega
        have hc1 : t.size + (s.extract k (k + 1)).size ≤ 9223372036854775807 := by omega
        have hc2 : 1 + (s.extract k (k + 1)).size ≤ 9223372036854775807 := by omega
        have hc3 : t.size + (1 + (s.extract k (k + 1)).size) ≤ 9223372036854775807 := by omega
        have hreg : (n ≤ 31) ∨ (((32 ≤ n ∧ n ≤ 44) ∨ (46 ≤ n ∧ n ≤ 47))) ∨ (n = 45) ∨ ((48 ≤ n ∧ n ≤ 57)) ∨ (((58 ≤ n ∧ n ≤ 64) ∨ (91 ≤ n ∧ n ≤ 94) ∨ n = 96 ∨ (123 ≤ n ∧ n ≤ 126))) ∨ (((65 ≤ n ∧ n ≤ 90) ∨ n = 95 ∨ (97 ≤ n ∧ n ≤ 122) ∨ 128 ≤ n)) ∨ (n = 127) := by omega
        rcases (show k = 0 ∨ k = 1 ∨ 2 ≤ k by omega) with hk0 | hk1 | hk2
        · have q0 : ((k : Int) == 0) = true := by simp; omega
          rcases hreg with hr | hr | hr | hr | hr | hr | hr
          · skip
            have r1 : decide ((48 : Int) ≤ n) = false := by simp; omega
            have r2 : decide (n ≤ (57 : Int)) = true := by simp; omega
            have r3 : decide (n < (32 : Int)) = true := by simp; omega
            have r4 : (n == 127) = false := by simp; omega
            have r5 : (n == 45) = false := by simp; omega
            have hbn : byNum s k = true := by unfold byNum; rw [decide_eq_true_eq, HX.out]; omega
            have hesc : ∀ w', Calls Tryd.prog 25 #[.int .i64 n] w' (StrPost (bs (esx s[k].toNat)) w') := fun w' => by rw [← HN.out]; exact escapeOf_any s[k].toNat w' (by have := HN.out; omega) (by have := HN.out; omega)
            have HES := Lib.hid (And.intro hesc hbn)
            clear hesc hbn hr hk0
            go_wp2_with (go_at_call 25; refine (HES.out.1 _).mono ?_; rintro e w' ⟨rfl, hbw⟩)
            refine ⟨?rel, ?measure⟩
            case rel => exact ⟨k + 1, t ++ bs (esx s[k].toNat), rfl, by go_num, by omega, Lib.hid (by rw [ht.out, ng_num hlt HES.out.2]), by rw [ByteArray.size_append, bs_size]; omega, HB.out.trans (hbw.mono HB.out.size)⟩
            case measure => simp [intOf]; omega
          · skip
            have r1 : decide ((48 : Int) ≤ n) = false := by simp; omega
            have r2 : decide (n ≤ (57 : Int)) = true := by simp; omega
            have r3 : decide (n < (32 : Int)) = false := by simp; omega
            have r4 : (n == 127) = false := by simp; omega
            have r5 : (n == 45) = false := by simp; omega
            have hbn : byNum s k = false := by unfold byNum; rw [decide_eq_false_iff_not, HX.out]; omega
            have hnc : isNc n = false := by simp only [isNc, decide_eq_false_iff_not]; omega
            have HNC := Lib.hid (And.intro hnc hbn)
            clear hnc hbn hr hk0
            go_wp2_with (go_at_call 26; refine (nameByte_is HNC.out.1 _).mono ?_; rintro e w' ⟨rfl, rfl⟩)
            refine ⟨?rel, ?measure⟩
            case rel => exact ⟨k + 1, t ++ (bs [92] ++ s.extract k (k + 1)), rfl, by go_num, by omega, Lib.hid (by rw [ht.out, ng_lit hlt HNC.out.2 (by rw [HX.out]; exact HNC.out.1)]), by rw [ByteArray.size_append, ByteArray.size_append, bs_size, hex]; simp; omega, HB.out⟩
            case measure => simp [intOf]; omega
          · skip
            have r1 : decide ((48 : Int) ≤ n) = false := by simp; omega
            have r2 : decide (n ≤ (57 : Int)) = true := by simp; omega
            have r3 : decide (n < (32 : Int)) = false := by simp; omega
            have r4 : (n == 127) = false := by simp; omega
            have r5 : (n == 45) = true := by simp; omega
            have hbn : byNum s k = false := by unfold byNum; rw [decide_eq_false_iff_not, HX.out]; omega
            have hnc : isNc n = true := by simp only [isNc, decide_eq_true_eq]; omega
            have HNC := Lib.hid (And.intro hnc hbn)
            clear hnc hbn hr hk0
            go_wp2_with (go_at_call 26; refine (nameByte_is HNC.out.1 _).mono ?_; rintro e w' ⟨rfl, rfl⟩)
            refine ⟨?rel, ?measure⟩
            case rel => exact ⟨k + 1, t ++ s.extract k (k + 1), rfl, by go_num, by omega, Lib.hid (by rw [ht.out, ng_plain hlt HNC.out.2 (by rw [HX.out]; exact HNC.out.1)]), by rw [ByteArray.size_append]; omega, HB.out⟩
            case measure => simp [intOf]; omega
          · skip
            have r1 : decide ((48 : Int) ≤ n) = true := by simp; omega
            have r2 : decide (n ≤ (57 : Int)) = true := by simp; omega
            have r3 : decide (n < (32 : Int)) = false := by simp; omega
            have r4 : (n == 127) = false := by simp; omega
            have r5 : (n == 45) = false := by simp; omega
            have hbn : byNum s k = true := by unfold byNum; rw [decide_eq_true_eq, HX.out]; omega
            have hesc : ∀ w', Calls Tryd.prog 25 #[.int .i64 n] w' (StrPost (bs (esx s[k].toNat)) w') := fun w' => by rw [← HN.out]; exact escapeOf_any s[k].toNat w' (by have := HN.out; omega) (by have := HN.out; omega)
            have HES := Lib.hid (And.intro hesc hbn)
            clear hesc hbn hr hk0
            go_wp2_with (go_at_call 25; refine (HES.out.1 _).mono ?_; rintro e w' ⟨rfl, hbw⟩)
            refine ⟨?rel, ?measure⟩
            case rel => exact ⟨k + 1, t ++ bs (esx s[k].toNat), rfl, by go_num, by omega, Lib.hid (by rw [ht.out, ng_num hlt HES.out.2]), by rw [ByteArray.size_append, bs_size]; omega, HB.out.trans (hbw.mono HB.out.size)⟩
            case measure => simp [intOf]; omega
          · skip
            have r1 : decide ((48 : Int) ≤ n) = true := by simp; omega
            have r2 : decide (n ≤ (57 : Int)) = false := by simp; omega
            have r3 : decide (n < (32 : Int)) = false := by simp; omega
            have r4 : (n == 127) = false := by simp; omega
            have r5 : (n == 45) = false := by simp; omega
            have hbn : byNum s k = false := by unfold byNum; rw [decide_eq_false_iff_not, HX.out]; omega
            have hnc : isNc n = false := by simp only [isNc, decide_eq_false_iff_not]; omega
            have HNC := Lib.hid (And.intro hnc hbn)
            clear hnc hbn hr hk0
            go_wp2_with (go_at_call 26; refine (nameByte_is HNC.out.1 _).mono ?_; rintro e w' ⟨rfl, rfl⟩)
            refine ⟨?rel, ?measure⟩
            case rel => exact ⟨k + 1, t ++ (bs [92] ++ s.extract k (k + 1)), rfl, by go_num, by omega, Lib.hid (by rw [ht.out, ng_lit hlt HNC.out.2 (by rw [HX.out]; exact HNC.out.1)]), by rw [ByteArray.size_append, ByteArray.size_append, bs_size, hex]; simp; omega, HB.out⟩
            case measure => simp [intOf]; omega
          · skip
            have r1 : decide ((48 : Int) ≤ n) = true := by simp; omega
            have r2 : decide (n ≤ (57 : Int)) = false := by simp; omega
            have r3 : decide (n < (32 : Int)) = false := by simp; omega
            have r4 : (n == 127) = false := by simp; omega
            have r5 : (n == 45) = false := by simp; omega
            have hbn : byNum s k = false := by unfold byNum; rw [decide_eq_false_iff_not, HX.out]; omega
            have hnc : isNc n = true := by simp only [isNc, decide_eq_true_eq]; omega
            have HNC := Lib.hid (And.intro hnc hbn)
            clear hnc hbn hr hk0
            go_wp2_with (go_at_call 26; refine (nameByte_is HNC.out.1 _).mono ?_; rintro e w' ⟨rfl, rfl⟩)
            refine ⟨?rel, ?measure⟩
            case rel => exact ⟨k + 1, t ++ s.extract k (k + 1), rfl, by go_num, by omega, Lib.hid (by rw [ht.out, ng_plain hlt HNC.out.2 (by rw [HX.out]; exact HNC.out.1)]), by rw [ByteArray.size_append]; omega, HB.out⟩
            case measure => simp [intOf]; omega
          · skip
            have r1 : decide ((48 : Int) ≤ n) = true := by simp; omega
            have r2 : decide (n ≤ (57 : Int)) = false := by simp; omega
            have r3 : decide (n < (32 : Int)) = false := by simp; omega
            have r4 : (n == 127) = true := by simp; omega
            have r5 : (n == 45) = false := by simp; omega
            have hbn : byNum s k = true := by unfold byNum; rw [decide_eq_true_eq, HX.out]; omega
            have hesc : ∀ w', Calls Tryd.prog 25 #[.int .i64 n] w' (StrPost (bs (esx s[k].toNat)) w') := fun w' => by rw [← HN.out]; exact escapeOf_any s[k].toNat w' (by have := HN.out; omega) (by have := HN.out; omega)
            have HES := Lib.hid (And.intro hesc hbn)
            clear hesc hbn hr hk0
            go_wp2_with (go_at_call 25; refine (HES.out.1 _).mono ?_; rintro e w' ⟨rfl, hbw⟩)
            refine ⟨?rel, ?measure⟩
            case rel => exact ⟨k + 1, t ++ bs (esx s[k].toNat), rfl, by go_num, by omega, Lib.hid (by rw [ht.out, ng_num hlt HES.out.2]), by rw [ByteArray.size_append, bs_size]; omega, HB.out.trans (hbw.mono HB.out.size)⟩
            case measure => simp [intOf]; omega
        · have q0 : ((k : Int) == 0) = false := by simp; omega
          have q1 : ((k : Int) == 1) = true := by simp; omega
          have hs0 : 0 < s.size := by omega
          have hy := nx_lt hs0
          obtain ⟨y, hyy⟩ : ∃ y, (s[0].toNat : Int) = y := ⟨_, rfl⟩
          rw [hyy] at hy
          by_cases hy45 : y = 45
          · have q2 : (y == 45) = true := by simp; omega
            rcases hreg with hr | hr | hr | hr | hr | hr | hr
            · skip
              have r1 : decide ((48 : Int) ≤ n) = false := by simp; omega
              have r2 : decide (n ≤ (57 : Int)) = true := by simp; omega
              have r3 : decide (n < (32 : Int)) = true := by simp; omega
              have r4 : (n == 127) = false := by simp; omega
              have r5 : (n == 45) = false := by simp; omega
              have hbn : byNum s k = true := by unfold byNum; rw [decide_eq_true_eq, HX.out]; omega
              have hesc : ∀ w', Calls Tryd.prog 25 #[.int .i64 n] w' (StrPost (bs (esx s[k].toNat)) w') := fun w' => by rw [← HN.out]; exact escapeOf_any s[k].toNat w' (by have := HN.out; omega) (by have := HN.out; omega)
              have HES := Lib.hid (And.intro hesc hbn)
              clear hesc hbn hr hk1
              go_wp2_with (go_at_call 25; refine (HES.out.1 _).mono ?_; rintro e w' ⟨rfl, hbw⟩)
              refine ⟨?rel, ?measure⟩
              case rel => exact ⟨k + 1, t ++ bs (esx s[k].toNat), rfl, by go_num, by omega, Lib.hid (by rw [ht.out, ng_num hlt HES.out.2]), by rw [ByteArray.size_append, bs_size]; omega, HB.out.trans (hbw.mono HB.out.size)⟩
              case measure => simp [intOf]; omega
            · skip
              have r1 : decide ((48 : Int) ≤ n) = false := by simp; omega
              have r2 : decide (n ≤ (57 : Int)) = true := by simp; omega
              have r3 : decide (n < (32 : Int)) = false := by simp; omega
              have r4 : (n == 127) = false := by simp; omega
              have r5 : (n == 45) = false := by simp; omega
              have hbn : byNum s k = false := by unfold byNum; rw [decide_eq_false_iff_not, HX.out]; omega
              have hnc : isNc n = false := by simp only [isNc, decide_eq_false_iff_not]; omega
              have HNC := Lib.hid (And.intro hnc hbn)
              clear hnc hbn hr hk1
              go_wp2_with (go_at_call 26; refine (nameByte_is HNC.out.1 _).mono ?_; rintro e w' ⟨rfl, rfl⟩)
              refine ⟨?rel, ?measure⟩
              case rel => exact ⟨k + 1, t ++ (bs [92] ++ s.extract k (k + 1)), rfl, by go_num, by omega, Lib.hid (by rw [ht.out, ng_lit hlt HNC.out.2 (by rw [HX.out]; exact HNC.out.1)]), by rw [ByteArray.size_append, ByteArray.size_append, bs_size, hex]; simp; omega, HB.out⟩
              case measure => simp [intOf]; omega
            · skip
              have r1 : decide ((48 : Int) ≤ n) = false := by simp; omega
              have r2 : decide (n ≤ (57 : Int)) = true := by simp; omega
              have r3 : decide (n < (32 : Int)) = false := by simp; omega
              have r4 : (n == 127) = false := by simp; omega
              have r5 : (n == 45) = true := by simp; omega
              have hbn : byNum s k = true := by unfold byNum; rw [decide_eq_true_eq, HX.out]; omega
              have hesc : ∀ w', Calls Tryd.prog 25 #[.int .i64 n] w' (StrPost (bs (esx s[k].toNat)) w') := fun w' => by rw [← HN.out]; exact escapeOf_any s[k].toNat w' (by have := HN.out; omega) (by have := HN.out; omega)
              have HES := Lib.hid (And.intro hesc hbn)
              clear hesc hbn hr hk1
              go_wp2_with (go_at_call 25; refine (HES.out.1 _).mono ?_; rintro e w' ⟨rfl, hbw⟩)
              refine ⟨?rel, ?measure⟩
              case rel => exact ⟨k + 1, t ++ bs (esx s[k].toNat), rfl, by go_num, by omega, Lib.hid (by rw [ht.out, ng_num hlt HES.out.2]), by rw [ByteArray.size_append, bs_size]; omega, HB.out.trans (hbw.mono HB.out.size)⟩
              case measure => simp [intOf]; omega
            · skip
              have r1 : decide ((48 : Int) ≤ n) = true := by simp; omega
              have r2 : decide (n ≤ (57 : Int)) = true := by simp; omega
              have r3 : decide (n < (32 : Int)) = false := by simp; omega
              have r4 : (n == 127) = false := by simp; omega
              have r5 : (n == 45) = false := by simp; omega
              have hbn : byNum s k = true := by unfold byNum; rw [decide_eq_true_eq, HX.out]; omega
              have hesc : ∀ w', Calls Tryd.prog 25 #[.int .i64 n] w' (StrPost (bs (esx s[k].toNat)) w') := fun w' => by rw [← HN.out]; exact escapeOf_any s[k].toNat w' (by have := HN.out; omega) (by have := HN.out; omega)
              have HES := Lib.hid (And.intro hesc hbn)
              clear hesc hbn hr hk1
              go_wp2_with (go_at_call 25; refine (HES.out.1 _).mono ?_; rintro e w' ⟨rfl, hbw⟩)
              refine ⟨?rel, ?measure⟩
              case rel => exact ⟨k + 1, t ++ bs (esx s[k].toNat), rfl, by go_num, by omega, Lib.hid (by rw [ht.out, ng_num hlt HES.out.2]), by rw [ByteArray.size_append, bs_size]; omega, HB.out.trans (hbw.mono HB.out.size)⟩
              case measure => simp [intOf]; omega
            · skip
              have r1 : decide ((48 : Int) ≤ n) = true := by simp; omega
              have r2 : decide (n ≤ (57 : Int)) = false := by simp; omega
              have r3 : decide (n < (32 : Int)) = false := by simp; omega
              have r4 : (n == 127) = false := by simp; omega
              have r5 : (n == 45) = false := by simp; omega
              have hbn : byNum s k = false := by unfold byNum; rw [decide_eq_false_iff_not, HX.out]; omega
              have hnc : isNc n = false := by simp only [isNc, decide_eq_false_iff_not]; omega
              have HNC := Lib.hid (And.intro hnc hbn)
              clear hnc hbn hr hk1
              go_wp2_with (go_at_call 26; refine (nameByte_is HNC.out.1 _).mono ?_; rintro e w' ⟨rfl, rfl⟩)
              refine ⟨?rel, ?measure⟩
              case rel => exact ⟨k + 1, t ++ (bs [92] ++ s.extract k (k + 1)), rfl, by go_num, by omega, Lib.hid (by rw [ht.out, ng_lit hlt HNC.out.2 (by rw [HX.out]; exact HNC.out.1)]), by rw [ByteArray.size_append, ByteArray.size_append, bs_size, hex]; simp; omega, HB.out⟩
              case measure => simp [intOf]; omega
            · skip
              have r1 : decide ((48 : Int) ≤ n) = true := by simp; omega
              have r2 : decide (n ≤ (57 : Int)) = false := by simp; omega
              have r3 : decide (n < (32 : Int)) = false := by simp; omega
              have r4 : (n == 127) = false := by simp; omega
              have r5 : (n == 45) = false := by simp; omega
              have hbn : byNum s k = false := by unfold byNum; rw [decide_eq_false_iff_not, HX.out]; omega
              have hnc : isNc n = true := by simp only [isNc, decide_eq_true_eq]; omega
              have HNC := Lib.hid (And.intro hnc hbn)
              clear hnc hbn hr hk1
              go_wp2_with (go_at_call 26; refine (nameByte_is HNC.out.1 _).mono ?_; rintro e w' ⟨rfl, rfl⟩)
              refine ⟨?rel, ?measure⟩
              case rel => exact ⟨k + 1, t ++ s.extract k (k + 1), rfl, by go_num, by omega, Lib.hid (by rw [ht.out, ng_plain hlt HNC.out.2 (by rw [HX.out]; exact HNC.out.1)]), by rw [ByteArray.size_append]; omega, HB.out⟩
              case measure => simp [intOf]; omega
            · skip
              have r1 : decide ((48 : Int) ≤ n) = true := by simp; omega
              have r2 : decide (n ≤ (57 : Int)) = false := by simp; omega
              have r3 : decide (n < (32 : Int)) = false := by simp; omega
              have r4 : (n == 127) = true := by simp; omega
              have r5 : (n == 45) = false := by simp; omega
              have hbn : byNum s k = true := by unfold byNum; rw [decide_eq_true_eq, HX.out]; omega
              have hesc : ∀ w', Calls Tryd.prog 25 #[.int .i64 n] w' (StrPost (bs (esx s[k].toNat)) w') := fun w' => by rw [← HN.out]; exact escapeOf_any s[k].toNat w' (by have := HN.out; omega) (by have := HN.out; omega)
              have HES := Lib.hid (And.intro hesc hbn)
              clear hesc hbn hr hk1
              go_wp2_with (go_at_call 25; refine (HES.out.1 _).mono ?_; rintro e w' ⟨rfl, hbw⟩)
              refine ⟨?rel, ?measure⟩
              case rel => exact ⟨k + 1, t ++ bs (esx s[k].toNat), rfl, by go_num, by omega, Lib.hid (by rw [ht.out, ng_num hlt HES.out.2]), by rw [ByteArray.size_append, bs_size]; omega, HB.out.trans (hbw.mono HB.out.size)⟩
              case measure => simp [intOf]; omega
          · have q2 : (y == 45) = false := by simp [hy45]
            rcases hreg with hr | hr | hr | hr | hr | hr | hr
            · skip
              have r1 : decide ((48 : Int) ≤ n) = false := by simp; omega
              have r2 : decide (n ≤ (57 : Int)) = true := by simp; omega
              have r3 : decide (n < (32 : Int)) = true := by simp; omega
              have r4 : (n == 127) = false := by simp; omega
              have r5 : (n == 45) = false := by simp; omega
              have hbn : byNum s k = true := by unfold byNum; rw [decide_eq_true_eq, HX.out]; omega
              have hesc : ∀ w', Calls Tryd.prog 25 #[.int .i64 n] w' (StrPost (bs (esx s[k].toNat)) w') := fun w' => by rw [← HN.out]; exact escapeOf_any s[k].toNat w' (by have := HN.out; omega) (by have := HN.out; omega)
              have HES := Lib.hid (And.intro hesc hbn)
              clear hesc hbn hr hk1
              go_wp2_with (go_at_call 25; refine (HES.out.1 _).mono ?_; rintro e w' ⟨rfl, hbw⟩)
              refine ⟨?rel, ?measure⟩
              case rel => exact ⟨k + 1, t ++ bs (esx s[k].toNat), rfl, by go_num, by omega, Lib.hid (by rw [ht.out, ng_num hlt HES.out.2]), by rw [ByteArray.size_append, bs_size]; omega, HB.out.trans (hbw.mono HB.out.size)⟩
              case measure => simp [intOf]; omega
            · skip
              have r1 : decide ((48 : Int) ≤ n) = false := by simp; omega
              have r2 : decide (n ≤ (57 : Int)) = true := by simp; omega
              have r3 : decide (n < (32 : Int)) = false := by simp; omega
              have r4 : (n == 127) = false := by simp; omega
              have r5 : (n == 45) = false := by simp; omega
              have hbn : byNum s k = false := by unfold byNum; rw [decide_eq_false_iff_not, HX.out]; omega
              have hnc : isNc n = false := by simp only [isNc, decide_eq_false_iff_not]; omega
              have HNC := Lib.hid (And.intro hnc hbn)
              clear hnc hbn hr hk1
              go_wp2_with (go_at_call 26; refine (nameByte_is HNC.out.1 _).mono ?_; rintro e w' ⟨rfl, rfl⟩)
              refine ⟨?rel, ?measure⟩
              case rel => exact ⟨k + 1, t ++ (bs [92] ++ s.extract k (k + 1)), rfl, by go_num, by omega, Lib.hid (by rw [ht.out, ng_lit hlt HNC.out.2 (by rw [HX.out]; exact HNC.out.1)]), by rw [ByteArray.size_append, ByteArray.size_append, bs_size, hex]; simp; omega, HB.out⟩
              case measure => simp [intOf]; omega
            · skip
              have r1 : decide ((48 : Int) ≤ n) = false := by simp; omega
              have r2 : decide (n ≤ (57 : Int)) = true := by simp; omega
              have r3 : decide (n < (32 : Int)) = false := by simp; omega
              have r4 : (n == 127) = false := by simp; omega
              have r5 : (n == 45) = true := by simp; omega
              have hbn : byNum s k = false := by unfold byNum; rw [decide_eq_false_iff_not, HX.out]; omega
              have hnc : isNc n = true := by simp only [isNc, decide_eq_true_eq]; omega
              have HNC := Lib.hid (And.intro hnc hbn)
              clear hnc hbn hr hk1
              go_wp2_with (go_at_call 26; refine (nameByte_is HNC.out.1 _).mono ?_; rintro e w' ⟨rfl, rfl⟩)
              refine ⟨?rel, ?measure⟩
              case rel => exact ⟨k + 1, t ++ s.extract k (k + 1), rfl, by go_num, by omega, Lib.hid (by rw [ht.out, ng_plain hlt HNC.out.2 (by rw [HX.out]; exact HNC.out.1)]), by rw [ByteArray.size_append]; omega, HB.out⟩
              case measure => simp [intOf]; omega
            · skip
              have r1 : decide ((48 : Int) ≤ n) = true := by simp; omega
              have r2 : decide (n ≤ (57 : Int)) = true := by simp; omega
              have r3 : decide (n < (32 : Int)) = false := by simp; omega
              have r4 : (n == 127) = false := by simp; omega
              have r5 : (n == 45) = false := by simp; omega
              have hbn : byNum s k = false := by unfold byNum; rw [decide_eq_false_iff_not, HX.out]; omega
              have hnc : isNc n = true := by simp only [isNc, decide_eq_true_eq]; omega
              have HNC := Lib.hid (And.intro hnc hbn)
              clear hnc hbn hr hk1
              go_wp2_with (go_at_call 26; refine (nameByte_is HNC.out.1 _).mono ?_; rintro e w' ⟨rfl, rfl⟩)
              refine ⟨?rel, ?measure⟩
              case rel => exact ⟨k + 1, t ++ s.extract k (k + 1), rfl, by go_num, by omega, Lib.hid (by rw [ht.out, ng_plain hlt HNC.out.2 (by rw [HX.out]; exact HNC.out.1)]), by rw [ByteArray.size_append]; omega, HB.out⟩
              case measure => simp [intOf]; omega
            · skip
              have r1 : decide ((48 : Int) ≤ n) = true := by simp; omega
              have r2 : decide (n ≤ (57 : Int)) = false := by simp; omega
              have r3 : decide (n < (32 : Int)) = false := by simp; omega
              have r4 : (n == 127) = false := by simp; omega
              have r5 : (n == 45) = false := by simp; omega
              have hbn : byNum s k = false := by unfold byNum; rw [decide_eq_false_iff_not, HX.out]; omega
              have hnc : isNc n = false := by simp only [isNc, decide_eq_false_iff_not]; omega
              have HNC := Lib.hid (And.intro hnc hbn)
              clear hnc hbn hr hk1
              go_wp2_with (go_at_call 26; refine (nameByte_is HNC.out.1 _).mono ?_; rintro e w' ⟨rfl, rfl⟩)
              refine ⟨?rel, ?measure⟩
              case rel => exact ⟨k + 1, t ++ (bs [92] ++ s.extract k (k + 1)), rfl, by go_num, by omega, Lib.hid (by rw [ht.out, ng_lit hlt HNC.out.2 (by rw [HX.out]; exact HNC.out.1)]), by rw [ByteArray.size_append, ByteArray.size_append, bs_size, hex]; simp; omega, HB.out⟩
              case measure => simp [intOf]; omega
            · skip
              have r1 : decide ((48 : Int) ≤ n) = true := by simp; omega
              have r2 : decide (n ≤ (57 : Int)) = false := by simp; omega
              have r3 : decide (n < (32 : Int)) = false := by simp; omega
              have r4 : (n == 127) = false := by simp; omega
              have r5 : (n == 45) = false := by simp; omega
              have hbn : byNum s k = false := by unfold byNum; rw [decide_eq_false_iff_not, HX.out]; omega
              have hnc : isNc n = true := by simp only [isNc, decide_eq_true_eq]; omega
              have HNC := Lib.hid (And.intro hnc hbn)
              clear hnc hbn hr hk1
              go_wp2_with (go_at_call 26; refine (nameByte_is HNC.out.1 _).mono ?_; rintro e w' ⟨rfl, rfl⟩)
              refine ⟨?rel, ?measure⟩
              case rel => exact ⟨k + 1, t ++ s.extract k (k + 1), rfl, by go_num, by omega, Lib.hid (by rw [ht.out, ng_plain hlt HNC.out.2 (by rw [HX.out]; exact HNC.out.1)]), by rw [ByteArray.size_append]; omega, HB.out⟩
              case measure => simp [intOf]; omega
            · skip
              have r1 : decide ((48 : Int) ≤ n) = true := by simp; omega
              have r2 : decide (n ≤ (57 : Int)) = false := by simp; omega
              have r3 : decide (n < (32 : Int)) = false := by simp; omega
              have r4 : (n == 127) = true := by simp; omega
              have r5 : (n == 45) = false := by simp; omega
              have hbn : byNum s k = true := by unfold byNum; rw [decide_eq_true_eq, HX.out]; omega
              have hesc : ∀ w', Calls Tryd.prog 25 #[.int .i64 n] w' (StrPost (bs (esx s[k].toNat)) w') := fun w' => by rw [← HN.out]; exact escapeOf_any s[k].toNat w' (by have := HN.out; omega) (by have := HN.out; omega)
              have HES := Lib.hid (And.intro hesc hbn)
              clear hesc hbn hr hk1
              go_wp2_with (go_at_call 25; refine (HES.out.1 _).mono ?_; rintro e w' ⟨rfl, hbw⟩)
              refine ⟨?rel, ?measure⟩
              case rel => exact ⟨k + 1, t ++ bs (esx s[k].toNat), rfl, by go_num, by omega, Lib.hid (by rw [ht.out, ng_num hlt HES.out.2]), by rw [ByteArray.size_append, bs_size]; omega, HB.out.trans (hbw.mono HB.out.size)⟩
              case measure => simp [intOf]; omega
        · have q0 : ((k : Int) == 0) = false := by simp; omega
          have q1 : ((k : Int) == 1) = false := by simp; omega
          rcases hreg with hr | hr | hr | hr | hr | hr | hr
          · skip
            have r1 : decide ((48 : Int) ≤ n) = false := by simp; omega
            have r2 : decide (n ≤ (57 : Int)) = true := by simp; omega
            have r3 : decide (n < (32 : Int)) = true := by simp; omega
            have r4 : (n == 127) = false := by simp; omega
            have r5 : (n == 45) = false := by simp; omega
            have hbn : byNum s k = true := by unfold byNum; rw [decide_eq_true_eq, HX.out]; omega
            have hesc : ∀ w', Calls Tryd.prog 25 #[.int .i64 n] w' (StrPost (bs (esx s[k].toNat)) w') := fun w' => by rw [← HN.out]; exact escapeOf_any s[k].toNat w' (by have := HN.out; omega) (by have := HN.out; omega)
            have HES := Lib.hid (And.intro hesc hbn)
            clear hesc hbn hr
            go_wp2_with (go_at_call 25; refine (HES.out.1 _).mono ?_; rintro e w' ⟨rfl, hbw⟩)
            refine ⟨?rel, ?measure⟩
            case rel => exact ⟨k + 1, t ++ bs (esx s[k].toNat), rfl, by go_num, by omega, Lib.hid (by rw [ht.out, ng_num hlt HES.out.2]), by rw [ByteArray.size_append, bs_size]; omega, HB.out.trans (hbw.mono HB.out.size)⟩
            case measure => simp [intOf]; omega
          · skip
            have r1 : decide ((48 : Int) ≤ n) = false := by simp; omega
            have r2 : decide (n ≤ (57 : Int)) = true := by simp; omega
            have r3 : decide (n < (32 : Int)) = false := by simp; omega
            have r4 : (n == 127) = false := by simp; omega
            have r5 : (n == 45) = false := by simp; omega
            have hbn : byNum s k = false := by unfold byNum; rw [decide_eq_false_iff_not, HX.out]; omega
            have hnc : isNc n = false := by simp only [isNc, decide_eq_false_iff_not]; omega
            have HNC := Lib.hid (And.intro hnc hbn)
            clear hnc hbn hr
            go_wp2_with (go_at_call 26; refine (nameByte_is HNC.out.1 _).mono ?_; rintro e w' ⟨rfl, rfl⟩)
            refine ⟨?rel, ?measure⟩
            case rel => exact ⟨k + 1, t ++ (bs [92] ++ s.extract k (k + 1)), rfl, by go_num, by omega, Lib.hid (by rw [ht.out, ng_lit hlt HNC.out.2 (by rw [HX.out]; exact HNC.out.1)]), by rw [ByteArray.size_append, ByteArray.size_append, bs_size, hex]; simp; omega, HB.out⟩
            case measure => simp [intOf]; omega
          · skip
            have r1 : decide ((48 : Int) ≤ n) = false := by simp; omega
            have r2 : decide (n ≤ (57 : Int)) = true := by simp; omega
            have r3 : decide (n < (32 : Int)) = false := by simp; omega
            have r4 : (n == 127) = false := by simp; omega
            have r5 : (n == 45) = true := by simp; omega
            have hbn : byNum s k = false := by unfold byNum; rw [decide_eq_false_iff_not, HX.out]; omega
            have hnc : isNc n = true := by simp only [isNc, decide_eq_true_eq]; omega
            have HNC := Lib.hid (And.intro hnc hbn)
            clear hnc hbn hr
            go_wp2_with (go_at_call 26; refine (nameByte_is HNC.out.1 _).mono ?_; rintro e w' ⟨rfl, rfl⟩)
            refine ⟨?rel, ?measure⟩
            case rel => exact ⟨k + 1, t ++ s.extract k (k + 1), rfl, by go_num, by omega, Lib.hid (by rw [ht.out, ng_plain hlt HNC.out.2 (by rw [HX.out]; exact HNC.out.1)]), by rw [ByteArray.size_append]; omega, HB.out⟩
            case measure => simp [intOf]; omega
          · skip
            have r1 : decide ((48 : Int) ≤ n) = true := by simp; omega
            have r2 : decide (n ≤ (57 : Int)) = true := by simp; omega
            have r3 : decide (n < (32 : Int)) = false := by simp; omega
            have r4 : (n == 127) = false := by simp; omega
            have r5 : (n == 45) = false := by simp; omega
            have hbn : byNum s k = false := by unfold byNum; rw [decide_eq_false_iff_not, HX.out]; omega
            have hnc : isNc n = true := by simp only [isNc, decide_eq_true_eq]; omega
            have HNC := Lib.hid (And.intro hnc hbn)
            clear hnc hbn hr
            go_wp2_with (go_at_call 26; refine (nameByte_is HNC.out.1 _).mono ?_; rintro e w' ⟨rfl, rfl⟩)
            refine ⟨?rel, ?measure⟩
            case rel => exact ⟨k + 1, t ++ s.extract k (k + 1), rfl, by go_num, by omega, Lib.hid (by rw [ht.out, ng_plain hlt HNC.out.2 (by rw [HX.out]; exact HNC.out.1)]), by rw [ByteArray.size_append]; omega, HB.out⟩
            case measure => simp [intOf]; omega
          · skip
            have r1 : decide ((48 : Int) ≤ n) = true := by simp; omega
            have r2 : decide (n ≤ (57 : Int)) = false := by simp; omega
            have r3 : decide (n < (32 : Int)) = false := by simp; omega
            have r4 : (n == 127) = false := by simp; omega
            have r5 : (n == 45) = false := by simp; omega
            have hbn : byNum s k = false := by unfold byNum; rw [decide_eq_false_iff_not, HX.out]; omega
            have hnc : isNc n = false := by simp only [isNc, decide_eq_false_iff_not]; omega
            have HNC := Lib.hid (And.intro hnc hbn)
            clear hnc hbn hr
            go_wp2_with (go_at_call 26; refine (nameByte_is HNC.out.1 _).mono ?_; rintro e w' ⟨rfl, rfl⟩)
            refine ⟨?rel, ?measure⟩
            case rel => exact ⟨k + 1, t ++ (bs [92] ++ s.extract k (k + 1)), rfl, by go_num, by omega, Lib.hid (by rw [ht.out, ng_lit hlt HNC.out.2 (by rw [HX.out]; exact HNC.out.1)]), by rw [ByteArray.size_append, ByteArray.size_append, bs_size, hex]; simp; omega, HB.out⟩
            case measure => simp [intOf]; omega
          · skip
            have r1 : decide ((48 : Int) ≤ n) = true := by simp; omega
            have r2 : decide (n ≤ (57 : Int)) = false := by simp; omega
            have r3 : decide (n < (32 : Int)) = false := by simp; omega
            have r4 : (n == 127) = false := by simp; omega
            have r5 : (n == 45) = false := by simp; omega
            have hbn : byNum s k = false := by unfold byNum; rw [decide_eq_false_iff_not, HX.out]; omega
            have hnc : isNc n = true := by simp only [isNc, decide_eq_true_eq]; omega
            have HNC := Lib.hid (And.intro hnc hbn)
            clear hnc hbn hr
            go_wp2_with (go_at_call 26; refine (nameByte_is HNC.out.1 _).mono ?_; rintro e w' ⟨rfl, rfl⟩)
            refine ⟨?rel, ?measure⟩
            case rel => exact ⟨k + 1, t ++ s.extract k (k + 1), rfl, by go_num, by omega, Lib.hid (by rw [ht.out, ng_plain hlt HNC.out.2 (by rw [HX.out]; exact HNC.out.1)]), by rw [ByteArray.size_append]; omega, HB.out⟩
            case measure => simp [intOf]; omega
          · skip
            have r1 : decide ((48 : Int) ≤ n) = true := by simp; omega
            have r2 : decide (n ≤ (57 : Int)) = false := by simp; omega
            have r3 : decide (n < (32 : Int)) = false := by simp; omega
            have r4 : (n == 127) = true := by simp; omega
            have r5 : (n == 45) = false := by simp; omega
            have hbn : byNum s k = true := by unfold byNum; rw [decide_eq_true_eq, HX.out]; omega
            have hesc : ∀ w', Calls Tryd.prog 25 #[.int .i64 n] w' (StrPost (bs (esx s[k].toNat)) w') := fun w' => by rw [← HN.out]; exact escapeOf_any s[k].toNat w' (by have := HN.out; omega) (by have := HN.out; omega)
            have HES := Lib.hid (And.intro hesc hbn)
            clear hesc hbn hr
            go_wp2_with (go_at_call 25; refine (HES.out.1 _).mono ?_; rintro e w' ⟨rfl, hbw⟩)
            refine ⟨?rel, ?measure⟩
            case rel => exact ⟨k + 1, t ++ bs (esx s[k].toNat), rfl, by go_num, by omega, Lib.hid (by rw [ht.out, ng_num hlt HES.out.2]), by rw [ByteArray.size_append, bs_size]; omega, HB.out.trans (hbw.mono HB.out.size)⟩
            case measure => simp [intOf]; omega
      · have g0 : decide ((k : Int) < (s.size : Int)) = false := by simp; omega
        have g0n : decide (k < s.size) = false := by simp; omega
        go_wp2
        go_ret
        obtain rfl : k = s.size := by omega
        exact ⟨by rw [HNF.out, ht.out]; rfl, HB.out⟩
  · have hnf : namedF s = [92, 45] := by unfold namedF; rw [if_pos h45]
    have HNF := Lib.hid hnf
    clear hnf
    go_enter Tryd.func12, Tryd.ntmps12
    go_wp2
    go_ret
    exact ⟨by rw [HNF.out]; rfl, Below.refl _ _⟩

end Go.Proofs.YtbikpalfhlgnoaaDoor
