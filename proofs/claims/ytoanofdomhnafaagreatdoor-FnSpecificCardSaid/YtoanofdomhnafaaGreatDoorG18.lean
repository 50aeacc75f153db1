/- Parts of a proof: NamedS, WriteQuo. -/
import Derived.Test.YtoanofdomhnafaaGreatDoorG04
import Derived.Test.YtoanofdomhnafaaGreatDoorG17
import Derived.Test.YtoanofdomhnafaaGreatDoorG03
set_option linter.unusedVariables false
set_option linter.unusedSimpArgs false
namespace Go.Proofs.YtoanofdomhnafaaGreatDoor
open Go.RowKit
theorem nameByte_is {n : Int} {b : Bool} (h : isNc n = b) (w : World) : Calls Tryz.prog 47 #[.int .u8 n] w (IsBool b w) :=
  (nameByte_any n w).mono fun e w' ⟨b', h', he, hw⟩ => ⟨by rw [he, h', h], hw.symm⟩
theorem ng_num {s : ByteArray} {k : Nat} (h : k < s.size) (hb : byNum s k = true) : bs (ng s (k + 1)) = bs (ng s k) ++ bs (esx s[k].toNat) := by
  rw [bs_append]; congr 1; simp [ng, nchunk, h, hb]
theorem ng_plain {s : ByteArray} {k : Nat} (h : k < s.size) (hb : byNum s k = false) (hn : isNc (nx s k) = true) : bs (ng s (k + 1)) = bs (ng s k) ++ s.extract k (k + 1) := by
  rw [extract_one h, bs_append]; congr 1; simp [ng, nchunk, h, hb, hn]
theorem ng_lit {s : ByteArray} {k : Nat} (h : k < s.size) (hb : byNum s k = false) (hn : isNc (nx s k) = false) : bs (ng s (k + 1)) = bs (ng s k) ++ (bs [92] ++ s.extract k (k + 1)) := by
  rw [extract_one h, bs_append, bs_append]; congr 1; simp [ng, nchunk, h, hb, hn]
set_option maxRecDepth 100000 in
set_option maxHeartbeats 40000000 in
theorem named_any (s : ByteArray) (w : World) (hs : s.size ≤ 1000) (hz : ∀ i, i < s.size → nx s i ≠ 0) : Calls Tryz.prog 34 #[.string s] w (StrPost (bs (namedF s)) w) := by
  have HZ := Lib.hid hz
  clear hz
  cases h45 : (s.toList == [45])
  · have hnf : namedF s = ng s s.size := by unfold namedF; rw [if_neg (by simp [h45])]
    have HNF := Lib.hid hnf
    clear hnf
    go_enter Tryz.func34, Tryz.ntmps34
    go_wp2
    go_loopw [3, 4] (fun o i wr => ∃ (k : Nat) (t : ByteArray), o = .string t ∧ i = .int .i64 (k : Int) ∧ k ≤ s.size ∧ Hid (t = bs (ng s k)) ∧ t.size ≤ 4 * k ∧ Below w.heap.size w wr) (fun _ i _ => s.size - (intOf i).toNat)
    case atStart => exact ⟨0, ByteArray.empty, rfl, by go_num, by omega, Lib.hid rfl, by simp, Below.refl _ _⟩
    case round =>
      obtain ⟨k, t, rfl, rfl, hk, ht, hts, hb⟩ := hrel
      have HB := Lib.hid hb
      clear hb
      by_cases hlt : k < s.size
      · have g0 : decide ((k : Int) < (s.size : Int)) = true := by simp [hlt]
        have g0n : decide (k < s.size) = true := by simp [hlt]
        have hx := nx_lt hlt
        have hzk := HZ.out k hlt
        have hx0 := nx_nonneg s k
        have hx1 := nx_le s k
        obtain ⟨n, hn⟩ : ∃ n, (s[k].toNat : Int) = n := ⟨_, rfl⟩
        rw [hn] at hx
        rw [hx] at hzk hx0 hx1
        have HX := Lib.hid hx
        have HN := Lib.hid hn
        clear hx
        have hex : (s.extract k (k + 1)).size = 1 := by rw [ByteArray.size_extract]; omega
        have hesl := esx_len s[k].toNat
        have hes1 : t.size + (bs (esx s[k].toNat)).size ≤ 9223372036854775807 := by rw [bs_size]; omega
        have hc1 : t.size + (s.extract k (k + 1)).size ≤ 9223372036854775807 := by omega
        have hc2 : 1 + (s.extract k (k + 1)).size ≤ 9223372036854775807 := by omega
        have hc3 : t.size + (1 + (s.extract k (k + 1)).size) ≤ 9223372036854775807 := by omega
        have hreg : (n ≤ 31) ∨ (((32 ≤ n ∧ n ≤ 44) ∨ (46 ≤ n ∧ n ≤ 47))) ∨ (n = 45) ∨ ((48 ≤ n ∧ n ≤ 57)) ∨ (((58 ≤ n ∧ n ≤ 64) ∨ (91 ≤ n ∧ n ≤ 94) ∨ n = 96 ∨ (123 ≤ n ∧ n ≤ 126))) ∨ (((65 ≤ n ∧ n ≤ 90) ∨ n = 95 ∨ (97 ≤ n ∧ n ≤ 122) ∨ 128 ≤ n)) ∨ (n = 127) := by omega
        rcases (show k = 0 ∨ k = 1 ∨ 2 ≤ k by omega) with hk0 | hk1 | hk2
        · have q0 : ((k : Int) == 0) = true := by simp; omega
          rcases hreg with hr | hr | hr | hr | hr | hr | hr
          · skip
            have r1 : decide ((48 : Int) ≤ n) = false := by simp; omega
            have r2 : decide (n ≤ (57 : Int)) = true := by simp; omega
            have r3 : decide (n < (32 : Int)) = true := by simp; omega
            have r4 : (n == 127) = false := by simp; omega
            have r5 : (n == 45) = false := by simp; omega
            have hbn : byNum s k = true := by unfold byNum; rw [decide_eq_true_eq, HX.out]; omega
            have hesc : ∀ w', Calls Tryz.prog 46 #[.int .i64 n] w' (StrPost (bs (esx s[k].toNat)) w') := fun w' => by rw [← HN.out]; exact escapeOf_any s[k].toNat w' (by have := HN.out; omega) (by have := HN.out; omega)
            have HES := Lib.hid (And.intro hesc hbn)
            clear hesc hbn hr hk0
            go_wp2_with (go_at_call 46; refine (HES.out.1 _).mono ?_; rintro e w' ⟨rfl, hbw⟩)
            refine ⟨?rel, ?measure⟩
            case rel => exact ⟨k + 1, t ++ bs (esx s[k].toNat), rfl, by go_num, by omega, Lib.hid (by rw [ht.out, ng_num hlt HES.out.2]), by rw [ByteArray.size_append, bs_size]; omega, HB.out.trans (hbw.mono HB.out.size)⟩
            case measure => simp [intOf]; omega
          · skip
            have r1 : decide ((48 : Int) ≤ n) = false := by simp; omega
            have r2 : decide (n ≤ (57 : Int)) = true := by simp; omega
            have r3 : decide (n < (32 : Int)) = false := by simp; omega
            have r4 : (n == 127) = false := by simp; omega
            have r5 : (n == 45) = false := by simp; omega
            have hbn : byNum s k = false := by unfold byNum; rw [decide_eq_false_iff_not, HX.out]; omega
            have hnc : isNc n = false := by simp only [isNc, decide_eq_false_iff_not]; omega
            have HNC := Lib.hid (And.intro hnc hbn)
            clear hnc hbn hr hk0
            go_wp2_with (go_at_call 47; refine (nameByte_is HNC.out.1 _).mono ?_; rintro e w' ⟨rfl, rfl⟩)
            refine ⟨?rel, ?measure⟩
            case rel => exact ⟨k + 1, t ++ (bs [92] ++ s.extract k (k + 1)), rfl, by go_num, by omega, Lib.hid (by rw [ht.out, ng_lit hlt HNC.out.2 (by rw [HX.out]; exact HNC.out.1)]), by rw [ByteArray.size_append, ByteArray.size_append, bs_size, hex]; simp; omega, HB.out⟩
            case measure => simp [intOf]; omega
          · skip
            have r1 : decide ((48 : Int) ≤ n) = false := by simp; omega
            have r2 : decide (n ≤ (57 : Int)) = true := by simp; omega
            have r3 : decide (n < (32 : Int)) = false := by simp; omega
            have r4 : (n == 127) = false := by simp; omega
            have r5 : (n == 45) = true := by simp; omega
            have hbn : byNum s k = false := by unfold byNum; rw [decide_eq_false_iff_not, HX.out]; omega
            have hnc : isNc n = true := by simp only [isNc, decide_eq_true_eq]; omega
            have HNC := Lib.hid (And.intro hnc hbn)
            clear hnc hbn hr hk0
            go_wp2_with (go_at_call 47; refine (nameByte_is HNC.out.1 _).mono ?_; rintro e w' ⟨rfl, rfl⟩)
            refine ⟨?rel, ?measure⟩
            case rel => exact ⟨k + 1, t ++ s.extract k (k + 1), rfl, by go_num, by omega, Lib.hid (by rw [ht.out, ng_plain hlt HNC.out.2 (by rw [HX.out]; exact HNC.out.1)]), by rw [ByteArray.size_append]; omega, HB.out⟩
            case measure => simp [intOf]; omega
          · skip
            have r1 : decide ((48 : Int) ≤ n) = true := by simp; omega
            have r2 : decide (n ≤ (57 : Int)) = true := by simp; omega
            have r3 : decide (n < (32 : Int)) = false := by simp; omega
            have r4 : (n == 127) = false := by simp; omega
            have r5 : (n == 45) = false := by simp; omega
            have hbn : byNum s k = true := by unfold byNum; rw [decide_eq_true_eq, HX.out]; omega
            have hesc : ∀ w', Calls Tryz.prog 46 #[.int .i64 n] w' (StrPost (bs (esx s[k].toNat)) w') := fun w' => by rw [← HN.out]; exact escapeOf_any s[k].toNat w' (by have := HN.out; omega) (by have := HN.out; omega)
            have HES := Lib.hid (And.intro hesc hbn)
            clear hesc hbn hr hk0
            go_wp2_with (go_at_call 46; refine (HES.out.1 _).mono ?_; rintro e w' ⟨rfl, hbw⟩)
            refine ⟨?rel, ?measure⟩
            case rel => exact ⟨k + 1, t ++ bs (esx s[k].toNat), rfl, by go_num, by omega, Lib.hid (by rw [ht.out, ng_num hlt HES.out.2]), by rw [ByteArray.size_append, bs_size]; omega, HB.out.trans (hbw.mono HB.out.size)⟩
            case measure => simp [intOf]; omega
          · skip
            have r1 : decide ((48 : Int) ≤ n) = true := by simp; omega
            have r2 : decide (n ≤ (57 : Int)) = false := by simp; omega
            have r3 : decide (n < (32 : Int)) = false := by simp; omega
            have r4 : (n == 127) = false := by simp; omega
            have r5 : (n == 45) = false := by simp; omega
            have hbn : byNum s k = false := by unfold byNum; rw [decide_eq_false_iff_not, HX.out]; omega
            have hnc : isNc n = false := by simp only [isNc, decide_eq_false_iff_not]; omega
            have HNC := Lib.hid (And.intro hnc hbn)
            clear hnc hbn hr hk0
            go_wp2_with (go_at_call 47; refine (nameByte_is HNC.out.1 _).mono ?_; rintro e w' ⟨rfl, rfl⟩)
            refine ⟨?rel, ?measure⟩
            case rel => exact ⟨k + 1, t ++ (bs [92] ++ s.extract k (k + 1)), rfl, by go_num, by omega, Lib.hid (by rw [ht.out, ng_lit hlt HNC.out.2 (by rw [HX.out]; exact HNC.out.1)]), by rw [ByteArray.size_append, ByteArray.size_append, bs_size, hex]; simp; omega, HB.out⟩
            case measure => simp [intOf]; omega
          · skip
            have r1 : decide ((48 : Int) ≤ n) = true := by simp; omega
            have r2 : decide (n ≤ (57 : Int)) = false := by simp; omega
            have r3 : decide (n < (32 : Int)) = false := by simp; omega
            have r4 : (n == 127) = false := by simp; omega
            have r5 : (n == 45) = false := by simp; omega
            have hbn : byNum s k = false := by unfold byNum; rw [decide_eq_false_iff_not, HX.out]; omega
            have hnc : isNc n = true := by simp only [isNc, decide_eq_true_eq]; omega
            have HNC := Lib.hid (And.intro hnc hbn)
            clear hnc hbn hr hk0
            go_wp2_with (go_at_call 47; refine (nameByte_is HNC.out.1 _).mono ?_; rintro e w' ⟨rfl, rfl⟩)
            refine ⟨?rel, ?measure⟩
            case rel => exact ⟨k + 1, t ++ s.extract k (k + 1), rfl, by go_num, by omega, Lib.hid (by rw [ht.out, ng_plain hlt HNC.out.2 (by rw [HX.out]; exact HNC.out.1)]), by rw [ByteArray.size_append]; omega, HB.out⟩
            case measure => simp [intOf]; omega
          · skip
            have r1 : decide ((48 : Int) ≤ n) = true := by simp; omega
            have r2 : decide (n ≤ (57 : Int)) = false := by simp; omega
            have r3 : decide (n < (32 : Int)) = false := by simp; omega
            have r4 : (n == 127) = true := by simp; omega
            have r5 : (n == 45) = false := by simp; omega
            have hbn : byNum s k = true := by unfold byNum; rw [decide_eq_true_eq, HX.out]; omega
            have hesc : ∀ w', Calls Tryz.prog 46 #[.int .i64 n] w' (StrPost (bs (esx s[k].toNat)) w') := fun w' => by rw [← HN.out]; exact escapeOf_any s[k].toNat w' (by have := HN.out; omega) (by have := HN.out; omega)
            have HES := Lib.hid (And.intro hesc hbn)
            clear hesc hbn hr hk0
            go_wp2_with (go_at_call 46; refine (HES.out.1 _).mono ?_; rintro e w' ⟨rfl, hbw⟩)
            refine ⟨?rel, ?measure⟩
            case rel => exact ⟨k + 1, t ++ bs (esx s[k].toNat), rfl, by go_num, by omega, Lib.hid (by rw [ht.out, ng_num hlt HES.out.2]), by rw [ByteArray.size_append, bs_size]; omega, HB.out.trans (hbw.mono HB.out.size)⟩
            case measure => simp [intOf]; omega
        · have q0 : ((k : Int) == 0) = false := by simp; omega
          have q1 : ((k : Int) == 1) = true := by simp; omega
          have hs0 : 0 < s.size := by omega
          have hy := nx_lt hs0
          obtain ⟨y, hyy⟩ : ∃ y, (s[0].toNat : Int) = y := ⟨_, rfl⟩
          rw [hyy] at hy
          by_cases hy45 : y = 45
          · have q2 : (y == 45) = true := by simp; omega
            rcases hreg with hr | hr | hr | hr | hr | hr | hr
            · skip
              have r1 : decide ((48 : Int) ≤ n) = false := by simp; omega
              have r2 : decide (n ≤ (57 : Int)) = true := by simp; omega
              have r3 : decide (n < (32 : Int)) = true := by simp; omega
              have r4 : (n == 127) = false := by simp; omega
              have r5 : (n == 45) = false := by simp; omega
              have hbn : byNum s k = true := by unfold byNum; rw [decide_eq_true_eq, HX.out]; omega
              have hesc : ∀ w', Calls Tryz.prog 46 #[.int .i64 n] w' (StrPost (bs (esx s[k].toNat)) w') := fun w' => by rw [← HN.out]; exact escapeOf_any s[k].toNat w' (by have := HN.out; omega) (by have := HN.out; omega)
              have HES := Lib.hid (And.intro hesc hbn)
              clear hesc hbn hr hk1
              go_wp2_with (go_at_call 46; refine (HES.out.1 _).mono ?_; rintro e w' ⟨rfl, hbw⟩)
              refine ⟨?rel, ?measure⟩
              case rel => exact ⟨k + 1, t ++ bs (esx s[k].toNat), rfl, by go_num, by omega, Lib.hid (by rw [ht.out, ng_num hlt HES.out.2]), by rw [ByteArray.size_append, bs_size]; omega, HB.out.trans (hbw.mono HB.out.size)⟩
              case measure => simp [intOf]; omega
            · skip
              have r1 : decide ((48 : Int) ≤ n) = false := by simp; omega
              have r2 : decide (n ≤ (57 : Int)) = true := by simp; omega
              have r3 : decide (n < (32 : Int)) = false := by simp; omega
              have r4 : (n == 127) = false := by simp; omega
              have r5 : (n == 45) = false := by simp; omega
              have hbn : byNum s k = false := by unfold byNum; rw [decide_eq_false_iff_not, HX.out]; omega
              have hnc : isNc n = false := by simp only [isNc, decide_eq_false_iff_not]; omega
              have HNC := Lib.hid (And.intro hnc hbn)
              clear hnc hbn hr hk1
              go_wp2_with (go_at_call 47; refine (nameByte_is HNC.out.1 _).mono ?_; rintro e w' ⟨rfl, rfl⟩)
              refine ⟨?rel, ?measure⟩
              case rel => exact ⟨k + 1, t ++ (bs [92] ++ s.extract k (k + 1)), rfl, by go_num, by omega, Lib.hid (by rw [ht.out, ng_lit hlt HNC.out.2 (by rw [HX.out]; exact HNC.out.1)]), by rw [ByteArray.size_append, ByteArray.size_append, bs_size, hex]; simp; omega, HB.out⟩
              case measure => simp [intOf]; omega
            · skip
              have r1 : decide ((48 : Int) ≤ n) = false := by simp; omega
              have r2 : decide (n ≤ (57 : Int)) = true := by simp; omega
              have r3 : decide (n < (32 : Int)) = false := by simp; omega
              have r4 : (n == 127) = false := by simp; omega
              have r5 : (n == 45) = true := by simp; omega
              have hbn : byNum s k = true := by unfold byNum; rw [decide_eq_true_eq, HX.out]; omega
              have hesc : ∀ w', Calls Tryz.prog 46 #[.int .i64 n] w' (StrPost (bs (esx s[k].toNat)) w') := fun w' => by rw [← HN.out]; exact escapeOf_any s[k].toNat w' (by have := HN.out; omega) (by have := HN.out; omega)
              have HES := Lib.hid (And.intro hesc hbn)
              clear hesc hbn hr hk1
              go_wp2_with (go_at_call 46; refine (HES.out.1 _).mono ?_; rintro e w' ⟨rfl, hbw⟩)
              refine ⟨?rel, ?measure⟩
              case rel => exact ⟨k + 1, t ++ bs (esx s[k].toNat), rfl, by go_num, by omega, Lib.hid (by rw [ht.out, ng_num hlt HES.out.2]), by rw [ByteArray.size_append, bs_size]; omega, HB.out.trans (hbw.mono HB.out.size)⟩
              case measure => simp [intOf]; omega
            · skip
              have r1 : decide ((48 : Int) ≤ n) = true := by simp; omega
              have r2 : decide (n ≤ (57 : Int)) = true := by simp; omega
              have r3 : decide (n < (32 : Int)) = false := by simp; omega
              have r4 : (n == 127) = false := by simp; omega
              have r5 : (n == 45) = false := by simp; omega
              have hbn : byNum s k = true := by unfold byNum; rw [decide_eq_true_eq, HX.out]; omega
              have hesc : ∀ w', Calls Tryz.prog 46 #[.int .i64 n] w' (StrPost (bs (esx s[k].toNat)) w') := fun w' => by rw [← HN.out]; exact escapeOf_any s[k].toNat w' (by have := HN.out; omega) (by have := HN.out; omega)
              have HES := Lib.hid (And.intro hesc hbn)
              clear hesc hbn hr hk1
              go_wp2_with (go_at_call 46; refine (HES.out.1 _).mono ?_; rintro e w' ⟨rfl, hbw⟩)
              refine ⟨?rel, ?measure⟩
              case rel => exact ⟨k + 1, t ++ bs (esx s[k].toNat), rfl, by go_num, by omega, Lib.hid (by rw [ht.out, ng_num hlt HES.out.2]), by rw [ByteArray.size_append, bs_size]; omega, HB.out.trans (hbw.mono HB.out.size)⟩
              case measure => simp [intOf]; omega
            · skip
              have r1 : decide ((48 : Int) ≤ n) = true := by simp; omega
              have r2 : decide (n ≤ (57 : Int)) = false := by simp; omega
              have r3 : decide (n < (32 : Int)) = false := by simp; omega
              have r4 : (n == 127) = false := by simp; omega
              have r5 : (n == 45) = false := by simp; omega
              have hbn : byNum s k = false := by unfold byNum; rw [decide_eq_false_iff_not, HX.out]; omega
              have hnc : isNc n = false := by simp only [isNc, decide_eq_false_iff_not]; omega
              have HNC := Lib.hid (And.intro hnc hbn)
              clear hnc hbn hr hk1
              go_wp2_with (go_at_call 47; refine (nameByte_is HNC.out.1 _).mono ?_; rintro e w' ⟨rfl, rfl⟩)
              refine ⟨?rel, ?measure⟩
              case rel => exact ⟨k + 1, t ++ (bs [92] ++ s.extract k (k + 1)), rfl, by go_num, by omega, Lib.hid (by rw [ht.out, ng_lit hlt HNC.out.2 (by rw [HX.out]; exact HNC.out.1)]), by rw [ByteArray.size_append, ByteArray.size_append, bs_size, hex]; simp; omega, HB.out⟩
              case measure => simp [intOf]; omega
            · skip
              have r1 : decide ((48 : Int) ≤ n) = true := by simp; omega
              have r2 : decide (n ≤ (57 : Int)) = false := by simp; omega
              have r3 : decide (n < (32 : Int)) = false := by simp; omega
              have r4 : (n == 127) = false := by simp; omega
              have r5 : (n == 45) = false := by simp; omega
              have hbn : byNum s k = false := by unfold byNum; rw [decide_eq_false_iff_not, HX.out]; omega
              have hnc : isNc n = true := by simp only [isNc, decide_eq_true_eq]; omega
              have HNC := Lib.hid (And.intro hnc hbn)
              clear hnc hbn hr hk1
              go_wp2_with (go_at_call 47; refine (nameByte_is HNC.out.1 _).mono ?_; rintro e w' ⟨rfl, rfl⟩)
              refine ⟨?rel, ?measure⟩
              case rel => exact ⟨k + 1, t ++ s.extract k (k + 1), rfl, by go_num, by omega, Lib.hid (by rw [ht.out, ng_plain hlt HNC.out.2 (by rw [HX.out]; exact HNC.out.1)]), by rw [ByteArray.size_append]; omega, HB.out⟩
              case measure => simp [intOf]; omega
            · skip
              have r1 : decide ((48 : Int) ≤ n) = true := by simp; omega
              have r2 : decide (n ≤ (57 : Int)) = false := by simp; omega
              have r3 : decide (n < (32 : Int)) = false := by simp; omega
              have r4 : (n == 127) = true := by simp; omega
              have r5 : (n == 45) = false := by simp; omega
              have hbn : byNum s k = true := by unfold byNum; rw [decide_eq_true_eq, HX.out]; omega
              have hesc : ∀ w', Calls Tryz.prog 46 #[.int .i64 n] w' (StrPost (bs (esx s[k].toNat)) w') := fun w' => by rw [← HN.out]; exact escapeOf_any s[k].toNat w' (by have := HN.out; omega) (by have := HN.out; omega)
              have HES := Lib.hid (And.intro hesc hbn)
              clear hesc hbn hr hk1
              go_wp2_with (go_at_call 46; refine (HES.out.1 _).mono ?_; rintro e w' ⟨rfl, hbw⟩)
              refine ⟨?rel, ?measure⟩
              case rel => exact ⟨k + 1, t ++ bs (esx s[k].toNat), rfl, by go_num, by omega, Lib.hid (by rw [ht.out, ng_num hlt HES.out.2]), by rw [ByteArray.size_append, bs_size]; omega, HB.out.trans (hbw.mono HB.out.size)⟩
              case measure => simp [intOf]; omega
          · have q2 : (y == 45) = false := by simp [hy45]
            rcases hreg with hr | hr | hr | hr | hr | hr | hr
            · skip
              have r1 : decide ((48 : Int) ≤ n) = false := by simp; omega
              have r2 : decide (n ≤ (57 : Int)) = true := by simp; omega
              have r3 : decide (n < (32 : Int)) = true := by simp; omega
              have r4 : (n == 127) = false := by simp; omega
              have r5 : (n == 45) = false := by simp; omega
              have hbn : byNum s k = true := by unfold byNum; rw [decide_eq_true_eq, HX.out]; omega
              have hesc : ∀ w', Calls Tryz.prog 46 #[.int .i64 n] w' (StrPost (bs (esx s[k].toNat)) w') := fun w' => by rw [← HN.out]; exact escapeOf_any s[k].toNat w' (by have := HN.out; omega) (by have := HN.out; omega)
              have HES := Lib.hid (And.intro hesc hbn)
              clear hesc hbn hr hk1
              go_wp2_with (go_at_call 46; refine (HES.out.1 _).mono ?_; rintro e w' ⟨rfl, hbw⟩)
              refine ⟨?rel, ?measure⟩
              case rel => exact ⟨k + 1, t ++ bs (esx s[k].toNat), rfl, by go_num, by omega, Lib.hid (by rw [ht.out, ng_num hlt HES.out.2]), by rw [ByteArray.size_append, bs_size]; omega, HB.out.trans (hbw.mono HB.out.size)⟩
              case measure => simp [intOf]; omega
            · skip
              have r1 : decide ((48 : Int) ≤ n) = false := by simp; omega
              have r2 : decide (n ≤ (57 : Int)) = true := by simp; omega
              have r3 : decide (n < (32 : Int)) = false := by simp; omega
              have r4 : (n == 127) = false := by simp; omega
              have r5 : (n == 45) = false := by simp; omega
              have hbn : byNum s k = false := by unfold byNum; rw [decide_eq_false_iff_not, HX.out]; omega
              have hnc : isNc n = false := by simp only [isNc, decide_eq_false_iff_not]; omega
              have HNC := Lib.hid (And.intro hnc hbn)
              clear hnc hbn hr hk1
              go_wp2_with (go_at_call 47; refine (nameByte_is HNC.out.1 _).mono ?_; rintro e w' ⟨rfl, rfl⟩)
              refine ⟨?rel, ?measure⟩
              case rel => exact ⟨k + 1, t ++ (bs [92] ++ s.extract k (k + 1)), rfl, by go_num, by omega, Lib.hid (by rw [ht.out, ng_lit hlt HNC.out.2 (by rw [HX.out]; exact HNC.out.1)]), by rw [ByteArray.size_append, ByteArray.size_append, bs_size, hex]; simp; omega, HB.out⟩
              case measure => simp [intOf]; omega
            · skip
              have r1 : decide ((48 : Int) ≤ n) = false := by simp; omega
              have r2 : decide (n ≤ (57 : Int)) = true := by simp; omega
              have r3 : decide (n < (32 : Int)) = false := by simp; omega
              have r4 : (n == 127) = false := by simp; omega
              have r5 : (n == 45) = true := by simp; omega
              have hbn : byNum s k = false := by unfold byNum; rw [decide_eq_false_iff_not, HX.out]; omega
              have hnc : isNc n = true := by simp only [isNc, decide_eq_true_eq]; omega
              have HNC := Lib.hid (And.intro hnc hbn)
              clear hnc hbn hr hk1
              go_wp2_with (go_at_call 47; refine (nameByte_is HNC.out.1 _).mono ?_; rintro e w' ⟨rfl, rfl⟩)
              refine ⟨?rel, ?measure⟩
              case rel => exact ⟨k + 1, t ++ s.extract k (k + 1), rfl, by go_num, by omega, Lib.hid (by rw [ht.out, ng_plain hlt HNC.out.2 (by rw [HX.out]; exact HNC.out.1)]), by rw [ByteArray.size_append]; omega, HB.out⟩
              case measure => simp [intOf]; omega
            · skip
              have r1 : decide ((48 : Int) ≤ n) = true := by simp; omega
              have r2 : decide (n ≤ (57 : Int)) = true := by simp; omega
              have r3 : decide (n < (32 : Int)) = false := by simp; omega
              have r4 : (n == 127) = false := by simp; omega
              have r5 : (n == 45) = false := by simp; omega
              have hbn : byNum s k = false := by unfold byNum; rw [decide_eq_false_iff_not, HX.out]; omega
              have hnc : isNc n = true := by simp only [isNc, decide_eq_true_eq]; omega
              have HNC := Lib.hid (And.intro hnc hbn)
              clear hnc hbn hr hk1
              go_wp2_with (go_at_call 47; refine (nameByte_is HNC.out.1 _).mono ?_; rintro e w' ⟨rfl, rfl⟩)
              refine ⟨?rel, ?measure⟩
              case rel => exact ⟨k + 1, t ++ s.extract k (k + 1), rfl, by go_num, by omega, Lib.hid (by rw [ht.out, ng_plain hlt HNC.out.2 (by rw [HX.out]; exact HNC.out.1)]), by rw [ByteArray.size_append]; omega, HB.out⟩
              case measure => simp [intOf]; omega
            · skip
              have r1 : decide ((48 : Int) ≤ n) = true := by simp; omega
              have r2 : decide (n ≤ (57 : Int)) = false := by simp; omega
              have r3 : decide (n < (32 : Int)) = false := by simp; omega
              have r4 : (n == 127) = false := by simp; omega
              have r5 : (n == 45) = false := by simp; omega
              have hbn : byNum s k = false := by unfold byNum; rw [decide_eq_false_iff_not, HX.out]; omega
              have hnc : isNc n = false := by simp only [isNc, decide_eq_false_iff_not]; omega
              have HNC := Lib.hid (And.intro hnc hbn)
              clear hnc hbn hr hk1
              go_wp2_with (go_at_call 47; refine (nameByte_is HNC.out.1 _).mono ?_; rintro e w' ⟨rfl, rfl⟩)
              refine ⟨?rel, ?measure⟩
              case rel => exact ⟨k + 1, t ++ (bs [92] ++ s.extract k (k + 1)), rfl, by go_num, by omega, Lib.hid (by rw [ht.out, ng_lit hlt HNC.out.2 (by rw [HX.out]; exact HNC.out.1)]), by rw [ByteArray.size_append, ByteArray.size_append, bs_size, hex]; simp; omega, HB.out⟩
              case measure => simp [intOf]; omega
            · skip
              have r1 : decide ((48 : Int) ≤ n) = true := by simp; omega
              have r2 : decide (n ≤ (57 : Int)) = false := by simp; omega
              have r3 : decide (n < (32 : Int)) = false := by simp; omega
              have r4 : (n == 127) = false := by simp; omega
              have r5 : (n == 45) = false := by simp; omega
              have hbn : byNum s k = false := by unfold byNum; rw [decide_eq_false_iff_not, HX.out]; omega
              have hnc : isNc n = true := by simp only [isNc, decide_eq_true_eq]; omega
              have HNC := Lib.hid (And.intro hnc hbn)
              clear hnc hbn hr hk1
              go_wp2_with (go_at_call 47; refine (nameByte_is HNC.out.1 _).mono ?_; rintro e w' ⟨rfl, rfl⟩)
              refine ⟨?rel, ?measure⟩
              case rel => exact ⟨k + 1, t ++ s.extract k (k + 1), rfl, by go_num, by omega, Lib.hid (by rw [ht.out, ng_plain hlt HNC.out.2 (by rw [HX.out]; exact HNC.out.1)]), by rw [ByteArray.size_append]; omega, HB.out⟩
              case measure => simp [intOf]; omega
            · skip
              have r1 : decide ((48 : Int) ≤ n) = true := by simp; omega
              have r2 : decide (n ≤ (57 : Int)) = false := by simp; omega
              have r3 : decide (n < (32 : Int)) = false := by simp; omega
              have r4 : (n == 127) = true := by simp; omega
              have r5 : (n == 45) = false := by simp; omega
              have hbn : byNum s k = true := by unfold byNum; rw [decide_eq_true_eq, HX.out]; omega
              have hesc : ∀ w', Calls Tryz.prog 46 #[.int .i64 n] w' (StrPost (bs (esx s[k].toNat)) w') := fun w' => by rw [← HN.out]; exact escapeOf_any s[k].toNat w' (by have := HN.out; omega) (by have := HN.out; omega)
              have HES := Lib.hid (And.intro hesc hbn)
              clear hesc hbn hr hk1
              go_wp2_with (go_at_call 46; refine (HES.out.1 _).mono ?_; rintro e w' ⟨rfl, hbw⟩)
              refine ⟨?rel, ?measure⟩
              case rel => exact ⟨k + 1, t ++ bs (esx s[k].toNat), rfl, by go_num, by omega, Lib.hid (by rw [ht.out, ng_num hlt HES.out.2]), by rw [ByteArray.size_append, bs_size]; omega, HB.out.trans (hbw.mono HB.out.size)⟩
              case measure => simp [intOf]; omega
        · have q0 : ((k : Int) == 0) = false := by simp; omega
          have q1 : ((k : Int) == 1) = false := by simp; omega
          rcases hreg with hr | hr | hr | hr | hr | hr | hr
          · skip
            have r1 : decide ((48 : Int) ≤ n) = false := by simp; omega
            have r2 : decide (n ≤ (57 : Int)) = true := by simp; omega
            have r3 : decide (n < (32 : Int)) = true := by simp; omega
            have r4 : (n == 127) = false := by simp; omega
            have r5 : (n == 45) = false := by simp; omega
            have hbn : byNum s k = true := by unfold byNum; rw [decide_eq_true_eq, HX.out]; omega
            have hesc : ∀ w', Calls Tryz.prog 46 #[.int .i64 n] w' (StrPost (bs (esx s[k].toNat)) w') := fun w' => by rw [← HN.out]; exact escapeOf_any s[k].toNat w' (by have := HN.out; omega) (by have := HN.out; omega)
            have HES := Lib.hid (And.intro hesc hbn)
            clear hesc hbn hr
            go_wp2_with (go_at_call 46; refine (HES.out.1 _).mono ?_; rintro e w' ⟨rfl, hbw⟩)
            refine ⟨?rel, ?measure⟩
            case rel => exact ⟨k + 1, t ++ bs (esx s[k].toNat), rfl, by go_num, by omega, Lib.hid (by rw [ht.out, ng_num hlt HES.out.2]), by rw [ByteArray.size_append, bs_size]; omega, HB.out.trans (hbw.mono HB.out.size)⟩
            case measure => simp [intOf]; omega
          · skip
            have r1 : decide ((48 : Int) ≤ n) = false := by simp; omega
            have r2 : decide (n ≤ (57 : Int)) = true := by simp; omega
            have r3 : decide (n < (32 : Int)) = false := by simp; omega
            have r4 : (n == 127) = false := by simp; omega
            have r5 : (n == 45) = false := by simp; omega
            have hbn : byNum s k = false := by unfold byNum; rw [decide_eq_false_iff_not, HX.out]; omega
            have hnc : isNc n = false := by simp only [isNc, decide_eq_false_iff_not]; omega
            have HNC := Lib.hid (And.intro hnc hbn)
            clear hnc hbn hr
            go_wp2_with (go_at_call 47; refine (nameByte_is HNC.out.1 _).mono ?_; rintro e w' ⟨rfl, rfl⟩)
            refine ⟨?rel, ?measure⟩
            case rel => exact ⟨k + 1, t ++ (bs [92] ++ s.extract k (k + 1)), rfl, by go_num, by omega, Lib.hid (by rw [ht.out, ng_lit hlt HNC.out.2 (by rw [HX.out]; exact HNC.out.1)]), by rw [ByteArray.size_append, ByteArray.size_append, bs_size, hex]; simp; omega, HB.out⟩
            case measure => simp [intOf]; omega
          · skip
            have r1 : decide ((48 : Int) ≤ n) = false := by simp; omega
            have r2 : decide (n ≤ (57 : Int)) = true := by simp; omega
            have r3 : decide (n < (32 : Int)) = false := by simp; omega
            have r4 : (n == 127) = false := by simp; omega
            have r5 : (n == 45) = true := by simp; omega
            have hbn : byNum s k = false := by unfold byNum; rw [decide_eq_false_iff_not, HX.out]; omega
            have hnc : isNc n = true := by simp only [isNc, decide_eq_true_eq]; omega
            have HNC := Lib.hid (And.intro hnc hbn)
            clear hnc hbn hr
            go_wp2_with (go_at_call 47; refine (nameByte_is HNC.out.1 _).mono ?_; rintro e w' ⟨rfl, rfl⟩)
            refine ⟨?rel, ?measure⟩
            case rel => exact ⟨k + 1, t ++ s.extract k (k + 1), rfl, by go_num, by omega, Lib.hid (by rw [ht.out, ng_plain hlt HNC.out.2 (by rw [HX.out]; exact HNC.out.1)]), by rw [ByteArray.size_append]; omega, HB.out⟩
            case measure => simp [intOf]; omega
          · skip
            have r1 : decide ((48 : Int) ≤ n) = true := by simp; omega
            have r2 : decide (n ≤ (57 : Int)) = true := by simp; omega
            have r3 : decide (n < (32 : Int)) = false := by simp; omega
            have r4 : (n == 127) = false := by simp; omega
            have r5 : (n == 45) = false := by simp; omega
            have hbn : byNum s k = false := by unfold byNum; rw [decide_eq_false_iff_not, HX.out]; omega
            have hnc : isNc n = true := by simp only [isNc, decide_eq_true_eq]; omega
            have HNC := Lib.hid (And.intro hnc hbn)
            clear hnc hbn hr
            go_wp2_with (go_at_call 47; refine (nameByte_is HNC.out.1 _).mono ?_; rintro e w' ⟨rfl, rfl⟩)
            refine ⟨?rel, ?measure⟩
            case rel => exact ⟨k + 1, t ++ s.extract k (k + 1), rfl, by go_num, by omega, Lib.hid (by rw [ht.out, ng_plain hlt HNC.out.2 (by rw [HX.out]; exact HNC.out.1)]), by rw [ByteArray.size_append]; omega, HB.out⟩
            case measure => simp [intOf]; omega
          · skip
            have r1 : decide ((48 : Int) ≤ n) = true := by simp; omega
            have r2 : decide (n ≤ (57 : Int)) = false := by simp; omega
            have r3 : decide (n < (32 : Int)) = false := by simp; omega
            have r4 : (n == 127) = false := by simp; omega
            have r5 : (n == 45) = false := by simp; omega
            have hbn : byNum s k = false := by unfold byNum; rw [decide_eq_false_iff_not, HX.out]; omega
            have hnc : isNc n = false := by simp only [isNc, decide_eq_false_iff_not]; omega
            have HNC := Lib.hid (And.intro hnc hbn)
            clear hnc hbn hr
            go_wp2_with (go_at_call 47; refine (nameByte_is HNC.out.1 _).mono ?_; rintro e w' ⟨rfl, rfl⟩)
            refine ⟨?rel, ?measure⟩
            case rel => exact ⟨k + 1, t ++ (bs [92] ++ s.extract k (k + 1)), rfl, by go_num, by omega, Lib.hid (by rw [ht.out, ng_lit hlt HNC.out.2 (by rw [HX.out]; exact HNC.out.1)]), by rw [ByteArray.size_append, ByteArray.size_append, bs_size, hex]; simp; omega, HB.out⟩
            case measure => simp [intOf]; omega
          · skip
            have r1 : decide ((48 : Int) ≤ n) = true := by simp; omega
            have r2 : decide (n ≤ (57 : Int)) = false := by simp; omega
            have r3 : decide (n < (32 : Int)) = false := by simp; omega
            have r4 : (n == 127) = false := by simp; omega
            have r5 : (n == 45) = false := by simp; omega
            have hbn : byNum s k = false := by unfold byNum; rw [decide_eq_false_iff_not, HX.out]; omega
            have hnc : isNc n = true := by simp only [isNc, decide_eq_true_eq]; omega
            have HNC := Lib.hid (And.intro hnc hbn)
            clear hnc hbn hr
            go_wp2_with (go_at_call 47; refine (nameByte_is HNC.out.1 _).mono ?_; rintro e w' ⟨rfl, rfl⟩)
            refine ⟨?rel, ?measure⟩
            case rel => exact ⟨k + 1, t ++ s.extract k (k + 1), rfl, by go_num, by omega, Lib.hid (by rw [ht.out, ng_plain hlt HNC.out.2 (by rw [HX.out]; exact HNC.out.1)]), by rw [ByteArray.size_append]; omega, HB.out⟩
            case measure => simp [intOf]; omega
          · skip
            have r1 : decide ((48 : Int) ≤ n) = true := by simp; omega
            have r2 : decide (n ≤ (57 : Int)) = false := by simp; omega
            have r3 : decide (n < (32 : Int)) = false := by simp; omega
            have r4 : (n == 127) = true := by simp; omega
            have r5 : (n == 45) = false := by simp; omega
            have hbn : byNum s k = true := by unfold byNum; rw [decide_eq_true_eq, HX.out]; omega
            have hesc : ∀ w', Calls Tryz.prog 46 #[.int .i64 n] w' (StrPost (bs (esx s[k].toNat)) w') := fun w' => by rw [← HN.out]; exact escapeOf_any s[k].toNat w' (by have := HN.out; omega) (by have := HN.out; omega)
            have HES := Lib.hid (And.intro hesc hbn)
            clear hesc hbn hr
            go_wp2_with (go_at_call 46; refine (HES.out.1 _).mono ?_; rintro e w' ⟨rfl, hbw⟩)
            refine ⟨?rel, ?measure⟩
            case rel => exact ⟨k + 1, t ++ bs (esx s[k].toNat), rfl, by go_num, by omega, Lib.hid (by rw [ht.out, ng_num hlt HES.out.2]), by rw [ByteArray.size_append, bs_size]; omega, HB.out.trans (hbw.mono HB.out.size)⟩
            case measure => simp [intOf]; omega
      · have g0 : decide ((k : Int) < (s.size : Int)) = false := by simp; omega
        have g0n : decide (k < s.size) = false := by simp; omega
        go_wp2
        go_ret
        obtain rfl : k = s.size := by omega
        exact ⟨by rw [HNF.out, ht.out]; rfl, HB.out⟩
  · have hnf : namedF s = [92, 45] := by unfold namedF; rw [if_pos h45]
    have HNF := Lib.hid hnf
    clear hnf
    go_enter Tryz.func34, Tryz.ntmps34
    go_wp2
    go_ret
    exact ⟨by rw [HNF.out]; rfl, Below.refl _ _⟩
theorem qg_num {s : ByteArray} {k : Nat} (h : k < s.size) (hb : nx s k < 32 ∨ nx s k = 127) : bs (34 :: qg s (k + 1)) = bs (34 :: qg s k) ++ bs (esx s[k].toNat) := by
  rw [bs_append]; congr 1; simp [qg, qchunk, h, hb]
theorem qg_lit {s : ByteArray} {k : Nat} (h : k < s.size) (hb : ¬ (nx s k < 32 ∨ nx s k = 127)) (h2 : nx s k = 34 ∨ nx s k = 92) : bs (34 :: qg s (k + 1)) = bs (34 :: qg s k) ++ (bs [92] ++ s.extract k (k + 1)) := by
  rw [extract_one h, bs_append, bs_append]; congr 1; simp [qg, qchunk, h, hb, h2]
theorem qg_plain {s : ByteArray} {k : Nat} (h : k < s.size) (hb : ¬ (nx s k < 32 ∨ nx s k = 127)) (h2 : ¬ (nx s k = 34 ∨ nx s k = 92)) : bs (34 :: qg s (k + 1)) = bs (34 :: qg s k) ++ s.extract k (k + 1) := by
  rw [extract_one h, bs_append]; congr 1; simp [qg, qchunk, h, hb, h2]
set_option maxRecDepth 100000 in
set_option maxHeartbeats 40000000 in
theorem quoted_any (s : ByteArray) (w : World) (hs : s.size ≤ 1000) (hz : ∀ i, i < s.size → nx s i ≠ 0) : Calls Tryz.prog 36 #[.string s] w (StrPost (bs (quoL s)) w) := by
  have HZ := Lib.hid hz
  clear hz
  go_enter Tryz.func36, Tryz.ntmps36
  go_wp2
  go_loopw [3, 4] (fun o i wr => ∃ (k : Nat) (t : ByteArray), o = .string t ∧ i = .int .i64 (k : Int) ∧ k ≤ s.size ∧ Hid (t = bs (34 :: qg s k)) ∧ t.size ≤ 1 + 4 * k ∧ Hid (Below w.heap.size w wr)) (fun _ i _ => s.size - (intOf i).toNat)
  case atStart => exact ⟨0, bs [34], rfl, by go_num, by omega, Lib.hid rfl, by rw [bs_size]; simp, Lib.hid (Below.refl _ _)⟩
  case round =>
    obtain ⟨k, t, rfl, rfl, hk, ht, hts, HB⟩ := hrel
    by_cases hlt : k < s.size
    · have g0 : decide ((k : Int) < (s.size : Int)) = true := by simp [hlt]
      have g0n : decide (k < s.size) = true := by simp [hlt]
      have hx := nx_lt hlt
      have hzk := HZ.out k hlt
      have hx0 := nx_nonneg s k
      have hx1 := nx_le s k
      obtain ⟨n, hn⟩ : ∃ n, (s[k].toNat : Int) = n := ⟨_, rfl⟩
      rw [hn] at hx
      rw [hx] at hzk hx0 hx1
      have HX := Lib.hid hx
      have HN := Lib.hid hn
      clear hx
      have hex : (s.extract k (k + 1)).size = 1 := by rw [ByteArray.size_extract]; omega
      have hesl := esx_len s[k].toNat
      have hes1 : t.size + (bs (esx s[k].toNat)).size ≤ 9223372036854775807 := by rw [bs_size]; omega
      have hc1 : t.size + (s.extract k (k + 1)).size ≤ 9223372036854775807 := by omega
      have hc2 : 1 + (s.extract k (k + 1)).size ≤ 9223372036854775807 := by omega
      have hc3 : t.size + (1 + (s.extract k (k + 1)).size) ≤ 9223372036854775807 := by omega
      by_cases hnum : n < 32 ∨ n = 127
      · have hesc : ∀ w', Calls Tryz.prog 46 #[.int .i64 n] w' (StrPost (bs (esx s[k].toNat)) w') := fun w' => by rw [← HN.out]; exact escapeOf_any s[k].toNat w' (by have := HN.out; omega) (by have := HN.out; omega)
        have HES := Lib.hid (And.intro hesc hnum)
        rcases hnum with hr | hr
        · have r1 : decide (n < (32 : Int)) = true := by simp; omega
          clear hesc hr
          go_wp2_with (go_at_call 46; refine (HES.out.1 _).mono ?_; rintro e w' ⟨rfl, hbw⟩)
          refine ⟨?rel, ?measure⟩
          case rel => exact ⟨k + 1, t ++ bs (esx s[k].toNat), rfl, by go_num, by omega, Lib.hid (by rw [ht.out, qg_num hlt (by rw [HX.out]; exact HES.out.2)]), by rw [ByteArray.size_append, bs_size]; omega, Lib.hid (HB.out.trans (hbw.mono HB.out.size))⟩
          case measure => simp [intOf]; omega
        · have r1 : decide (n < (32 : Int)) = false := by simp; omega
          have r2 : (n == 127) = true := by simp; omega
          clear hesc hr
          go_wp2_with (go_at_call 46; refine (HES.out.1 _).mono ?_; rintro e w' ⟨rfl, hbw⟩)
          refine ⟨?rel, ?measure⟩
          case rel => exact ⟨k + 1, t ++ bs (esx s[k].toNat), rfl, by go_num, by omega, Lib.hid (by rw [ht.out, qg_num hlt (by rw [HX.out]; exact HES.out.2)]), by rw [ByteArray.size_append, bs_size]; omega, Lib.hid (HB.out.trans (hbw.mono HB.out.size))⟩
          case measure => simp [intOf]; omega
      · have r1 : decide (n < (32 : Int)) = false := by simp; omega
        have r2 : (n == 127) = false := by simp; omega
        have HNN := Lib.hid hnum
        by_cases hlit : n = 34 ∨ n = 92
        · have HL := Lib.hid hlit
          rcases hlit with hr | hr
          · have r3 : (n == 34) = true := by simp; omega
            clear hr hnum
            go_wp2
            refine ⟨?rel, ?measure⟩
            case rel => exact ⟨k + 1, t ++ (bs [92] ++ s.extract k (k + 1)), rfl, by go_num, by omega, Lib.hid (by rw [ht.out, qg_lit hlt (by rw [HX.out]; exact HNN.out) (by rw [HX.out]; exact HL.out)]), by rw [ByteArray.size_append, ByteArray.size_append, bs_size, hex]; simp; omega, HB⟩
            case measure => simp [intOf]; omega
          · have r3 : (n == 34) = false := by simp; omega
            have r4 : (n == 92) = true := by simp; omega
            clear hr hnum
            go_wp2
            refine ⟨?rel, ?measure⟩
            case rel => exact ⟨k + 1, t ++ (bs [92] ++ s.extract k (k + 1)), rfl, by go_num, by omega, Lib.hid (by rw [ht.out, qg_lit hlt (by rw [HX.out]; exact HNN.out) (by rw [HX.out]; exact HL.out)]), by rw [ByteArray.size_append, ByteArray.size_append, bs_size, hex]; simp; omega, HB⟩
            case measure => simp [intOf]; omega
        · have r3 : (n == 34) = false := by simp; omega
          have r4 : (n == 92) = false := by simp; omega
          have HL := Lib.hid hlit
          clear hlit hnum
          go_wp2
          refine ⟨?rel, ?measure⟩
          case rel => exact ⟨k + 1, t ++ s.extract k (k + 1), rfl, by go_num, by omega, Lib.hid (by rw [ht.out, qg_plain hlt (by rw [HX.out]; exact HNN.out) (by rw [HX.out]; exact HL.out)]), by rw [ByteArray.size_append]; omega, HB⟩
          case measure => simp [intOf]; omega
    · obtain rfl : k = s.size := by omega
      have hc1 : t.size + 1 ≤ 9223372036854775807 := by omega
      have g0 : decide ((s.size : Int) < (s.size : Int)) = false := by simp
      go_wp2
      go_ret
      refine ⟨?_, HB.out⟩
      rw [ht.out]
      show Ending.returned (.string (bs _ ++ bs [34])) = _
      rw [bs_append]
      rfl
end Go.Proofs.YtoanofdomhnafaaGreatDoor
