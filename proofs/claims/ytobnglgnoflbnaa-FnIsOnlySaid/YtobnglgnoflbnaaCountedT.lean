/- spec.Reached, spec.counted at a = 0 and b = 1. -/
import Derived.Test.YtobnglgnoflbnaaSameCount
import Derived.Test.YtobnglgnoflbnaaSimpleId
import Derived.LoopN
namespace Go.Proofs.Ytobnglgnoflbnaa
open Go.RowKit
set_option linter.unusedVariables false
set_option linter.unusedSimpArgs false

set_option maxRecDepth 100000 in
set_option maxHeartbeats 1000000 in
theorem reached_any (n : Nat) (hn : n ≤ 200) (w : World) : Calls Try.prog 151 #[.int .i64 0, .int .i64 1, .int .i64 (n : Int)] w (BoolPost (decide (n = 1)) w) := by
  by_cases h1 : n = 1
  · subst h1
    have hd : decide ((1 : Nat) = 1) = true := by simp
    rw [hd]
    clear hd
    go_enter Try.func151, Try.ntmps151
    go_wp2
    refine wp_loop_rounds 1 ?_
    rw [rounds_succ]
    go_wp2
    go_ret
    exact ⟨rfl, rfl⟩
  · have hd : decide (n = 1) = false := by simp [h1]
    rw [hd]
    clear hd
    have g1 : ((1 : Int) == (n : Int)) = false := by simp; omega
    have g2 : ((n : Int) == 1) = false := by simp; omega
    clear h1
    go_enter Try.func151, Try.ntmps151
    go_wp2
    go_loopw [7] (fun k wr => ∃ (j : Nat), k = .int .i64 (j : Int) ∧ j ≤ 3000 ∧ wr = w) (fun k _ => 3000 - (intOf k).toNat)
    case atStart => exact ⟨0, by go_num, by omega, rfl⟩
    case round =>
      obtain ⟨j, rfl, hj, rfl⟩ := hrel
      by_cases hlt : (j : Int) ≤ 1200
      · have g0 : decide ((j : Int) ≤ 1200) = true := by simp; omega
        go_wp2
        go_roundw
        case rel => exact ⟨j + 1, by go_num, by omega, by first | trivial | rfl⟩
        case measure => simp [intOf]; omega
      · have g0 : decide ((j : Int) ≤ 1200) = false := by simp; omega
        go_wp2
        go_ret
        exact ⟨rfl, rfl⟩

set_option maxRecDepth 100000 in
set_option maxHeartbeats 4000000 in
theorem counted_false_false (a : Option Addr) (len cap : Nat) (ts : List NodeD) (hR : RightT ts len) (w : World) (hN : Nodes w a len ts) (x : Nat) (hx : x < len) (p : Nat) (hp : par (sz ts) x = some p) (hpk : kd ts p = 3) :
    Calls Try.prog 124 #[.slice a len cap, .int .i64 (x : Int), .int .i64 0, .int .i64 1, .int .i64 0] w (TruthPostB (decide (cntL (cntP ts x false false) (lb (elKid ts p) len) (lb (elKid ts p) len).length = 1)) w) := by
  have hlen := hR.le
  have hpx := (par_some hp).1
  have hpl : p < len := by omega
  have hpar := parent_any a len cap ts x w hN hR.sizes (fun j hj => hR.nest.fit j hj) hx
  rw [hp] at hpar
  have hel := fun w' (h : Nodes w' a len ts) => elements_any a len cap ts p w' h hR hpl
  obtain ⟨L, hL⟩ : ∃ L, lb (elKid ts p) len = L := ⟨_, rfl⟩
  have hLl : L.length ≤ 200 := by rw [← hL]; exact Nat.le_trans (lb_length_le _) hlen
  have hLm : ∀ i ∈ L, i < len := fun i hi => by rw [← hL] at hi; exact (lb_mem hi).1
  rw [hL] at hel ⊢
  have HN := Lib.hid hN
  have HEL := Lib.hid (hel w hN)
  have HPAR := Lib.hid hpar
  have HLM := Lib.hid hLm
  have hpos := hR.pos
  obtain ⟨b, off, rfl, hc⟩ := hN.at hpos
  have cp := (hc p hpl).kind
  rw [show (ts.getD p default).kind = 3 from hpk] at cp
  have hplI : (p : Int) < (len : Int) := by omega
  have hxI : (x : Int) < (len : Int) := by omega
  have gp : decide ((p : Int) < 0) = false := by simp
  have hb2 : bits BinOp.and IntKind.i64 0 2 = 0 := by decide
  have hb1 : bits BinOp.and IntKind.i64 0 1 = 0 := by decide
  have HC := Lib.hid hc
  clear hN hel hpar hLm hc hL hp hpk hR
  go_enter Try.func124, Try.ntmps124
  go_wp2_with fail
  refine HPAR.out.mono ?_
  rintro e w0 ⟨rfl, rfl⟩
  simp only [parI]
  clear HPAR
  go_wp2_with fail
  refine HEL.out.mono ?_
  rintro e w1 ⟨vk, rfl, hown, hb1⟩
  have hrd : ReadsAs w1 vk (L.map intV) := OwnPl.reads (B := w.heap.size) hown.out
  obtain ⟨ka, kcap, kb, koff, rfl, hkm, hka, hkc⟩ := ints_open hrd
  have HKA := Lib.hid hka
  have HKC := Lib.hid hkc
  have HB1 := Lib.hid hb1.out
  have HC1 : Hid (∀ y, y < len → w1.cell? ⟨b, off + y * 5 + 1, none⟩ = some (.string (ts.getD y default).tag)) := Lib.hid (fun y hy => cell_below hb1.out (HC.out y hy).tag)
  clear hrd hka hkc hown hb1 HEL cp HC
  go_wp2
  go_loopw [13, 14] (fun n i wr => ∃ k : Nat, k ≤ L.length ∧ i = .int .i64 k ∧ n = .int .i64 (cntL (cntP ts x false false) L k : Int) ∧ ∃ d, wr = w1.drewN d) (fun _ i _ => L.length - (intOf i).toNat)
  case atStart => exact ⟨0, by omega, rfl, by rw [cntL_zero]; rfl, 0, rfl⟩
  case round =>
    obtain ⟨k, hk, rfl, rfl, d, rfl⟩ := hrel
    by_cases hlt : k < L.length
    · obtain rfl := HKA.out (by omega)
      have ck := HKC.out k hlt
      have hyl := HLM.out _ (getD_mem' (d := 0) hlt)
      have hcl := cntL_le (P := (cntP ts x false false)) (l := L) (i := k)
      have hy1 := cntL_yes (P := (cntP ts x false false)) hlt
      have hn1 := cntL_no (P := (cntP ts x false false)) hlt
      obtain ⟨y, hyy⟩ : ∃ y, L.getD k 0 = y := ⟨_, rfl⟩
      rw [hyy] at ck hyl hy1 hn1
      have cy := HC1.out y hyl
      have cx := HC1.out x hx
      have hq : (cntP ts x false false) y = ((!false || ((ts.getD y default).tag.toList == (ts.getD x default).tag.toList)) && decide (y ≤ x)) := by simp [cntP]
      have hkI : (k : Int) < (L.length : Int) := by omega
      have hyI : (y : Int) < (len : Int) := by omega
      generalize (ts.getD y default).tag = s at cy hq
      generalize (ts.getD x default).tag = t at cx hq
      clear hyy
      by_cases hle : y ≤ x
      · have g0 : decide ((y : Int) ≤ (x : Int)) = true := by simp; omega
        have g0n : decide (y ≤ x) = true := by simp; omega
        have hc1 := hy1 (by rw [hq]; simp [*])
        have HC1' := Lib.hid hc1
        clear hc1 hq hy1 hn1
        go_wp2
        go_quiet (fail)
        go_wp2
        go_roundw
        case rel => exact ⟨k + 1, by omega, by go_num, by rw [HC1'.out]; go_num, _, rfl⟩
        case measure => simp [intOf]; omega
      · have g0 : decide ((y : Int) ≤ (x : Int)) = false := by simp; omega
        have g0n : decide (y ≤ x) = false := by simp; omega
        have hc1 := hn1 (by rw [hq]; simp [*])
        have HC1' := Lib.hid hc1
        clear hc1 hq hy1 hn1
        go_wp2
        go_quiet (fail)
        go_wp2
        go_roundw
        case rel => exact ⟨k + 1, by omega, by go_num, by rw [HC1'.out], _, rfl⟩
        case measure => simp [intOf]; omega
    · obtain rfl : k = L.length := by omega
      have hcl := cntL_le (P := (cntP ts x false false)) (l := L) (i := L.length)
      obtain ⟨n, hn⟩ : ∃ n, cntL (cntP ts x false false) L L.length = n := ⟨_, rfl⟩
      have HNN := Lib.hid hn
      rw [hn] at hcl ⊢
      obtain ⟨wz, hwz⟩ : ∃ wz, w1.drewN d = wz := ⟨_, rfl⟩
      have hfin : Hid (Below w.heap.size w wz) := Lib.hid (by rw [← hwz]; exact below_drewN HB1.out _)
      have HREA := Lib.hid (reached_any n (by omega) wz)
      rw [hwz]
      clear hn hwz
      go_wp2_with fail
      refine HREA.out.mono ?_
      rintro e w3 ⟨rfl, rfl⟩
      clear HREA
      go_wp2_with fail
      refine (truth_any _ _).mono ?_
      rintro e w4 ⟨rfl, rfl⟩
      go_wp2
      go_ret
      exact ⟨by rw [HNN.out]; rfl, hfin⟩

set_option maxRecDepth 100000 in
set_option maxHeartbeats 4000000 in
theorem counted_false_true (a : Option Addr) (len cap : Nat) (ts : List NodeD) (hR : RightT ts len) (w : World) (hN : Nodes w a len ts) (x : Nat) (hx : x < len) (p : Nat) (hp : par (sz ts) x = some p) (hpk : kd ts p = 3) :
    Calls Try.prog 124 #[.slice a len cap, .int .i64 (x : Int), .int .i64 0, .int .i64 1, .int .i64 1] w (TruthPostB (decide (cntL (cntP ts x false true) (lb (elKid ts p) len) (lb (elKid ts p) len).length = 1)) w) := by
  have hlen := hR.le
  have hpx := (par_some hp).1
  have hpl : p < len := by omega
  have hpar := parent_any a len cap ts x w hN hR.sizes (fun j hj => hR.nest.fit j hj) hx
  rw [hp] at hpar
  have hel := fun w' (h : Nodes w' a len ts) => elements_any a len cap ts p w' h hR hpl
  obtain ⟨L, hL⟩ : ∃ L, lb (elKid ts p) len = L := ⟨_, rfl⟩
  have hLl : L.length ≤ 200 := by rw [← hL]; exact Nat.le_trans (lb_length_le _) hlen
  have hLm : ∀ i ∈ L, i < len := fun i hi => by rw [← hL] at hi; exact (lb_mem hi).1
  rw [hL] at hel ⊢
  have HN := Lib.hid hN
  have HEL := Lib.hid (hel w hN)
  have HPAR := Lib.hid hpar
  have HLM := Lib.hid hLm
  have hpos := hR.pos
  obtain ⟨b, off, rfl, hc⟩ := hN.at hpos
  have cp := (hc p hpl).kind
  rw [show (ts.getD p default).kind = 3 from hpk] at cp
  have hplI : (p : Int) < (len : Int) := by omega
  have hxI : (x : Int) < (len : Int) := by omega
  have gp : decide ((p : Int) < 0) = false := by simp
  have hb2 : bits BinOp.and IntKind.i64 1 2 = 0 := by decide
  have hb1 : bits BinOp.and IntKind.i64 1 1 = 1 := by decide
  have HC := Lib.hid hc
  clear hN hel hpar hLm hc hL hp hpk hR
  go_enter Try.func124, Try.ntmps124
  go_wp2_with fail
  refine HPAR.out.mono ?_
  rintro e w0 ⟨rfl, rfl⟩
  simp only [parI]
  clear HPAR
  go_wp2_with fail
  refine HEL.out.mono ?_
  rintro e w1 ⟨vk, rfl, hown, hb1⟩
  have hrd : ReadsAs w1 vk (L.map intV) := OwnPl.reads (B := w.heap.size) hown.out
  obtain ⟨ka, kcap, kb, koff, rfl, hkm, hka, hkc⟩ := ints_open hrd
  have HKA := Lib.hid hka
  have HKC := Lib.hid hkc
  have HB1 := Lib.hid hb1.out
  have HC1 : Hid (∀ y, y < len → w1.cell? ⟨b, off + y * 5 + 1, none⟩ = some (.string (ts.getD y default).tag)) := Lib.hid (fun y hy => cell_below hb1.out (HC.out y hy).tag)
  clear hrd hka hkc hown hb1 HEL cp HC
  go_wp2
  go_loopw [13, 14] (fun n i wr => ∃ k : Nat, k ≤ L.length ∧ i = .int .i64 k ∧ n = .int .i64 (cntL (cntP ts x false true) L k : Int) ∧ ∃ d, wr = w1.drewN d) (fun _ i _ => L.length - (intOf i).toNat)
  case atStart => exact ⟨0, by omega, rfl, by rw [cntL_zero]; rfl, 0, rfl⟩
  case round =>
    obtain ⟨k, hk, rfl, rfl, d, rfl⟩ := hrel
    by_cases hlt : k < L.length
    · obtain rfl := HKA.out (by omega)
      have ck := HKC.out k hlt
      have hyl := HLM.out _ (getD_mem' (d := 0) hlt)
      have hcl := cntL_le (P := (cntP ts x false true)) (l := L) (i := k)
      have hy1 := cntL_yes (P := (cntP ts x false true)) hlt
      have hn1 := cntL_no (P := (cntP ts x false true)) hlt
      obtain ⟨y, hyy⟩ : ∃ y, L.getD k 0 = y := ⟨_, rfl⟩
      rw [hyy] at ck hyl hy1 hn1
      have cy := HC1.out y hyl
      have cx := HC1.out x hx
      have hq : (cntP ts x false true) y = ((!false || ((ts.getD y default).tag.toList == (ts.getD x default).tag.toList)) && decide (x ≤ y)) := by simp [cntP]
      have hkI : (k : Int) < (L.length : Int) := by omega
      have hyI : (y : Int) < (len : Int) := by omega
      generalize (ts.getD y default).tag = s at cy hq
      generalize (ts.getD x default).tag = t at cx hq
      clear hyy
      by_cases hle : x ≤ y
      · have g0 : decide ((x : Int) ≤ (y : Int)) = true := by simp; omega
        have g0n : decide (x ≤ y) = true := by simp; omega
        have hc1 := hy1 (by rw [hq]; simp [*])
        have HC1' := Lib.hid hc1
        clear hc1 hq hy1 hn1
        go_wp2
        go_quiet (fail)
        go_wp2
        go_roundw
        case rel => exact ⟨k + 1, by omega, by go_num, by rw [HC1'.out]; go_num, _, rfl⟩
        case measure => simp [intOf]; omega
      · have g0 : decide ((x : Int) ≤ (y : Int)) = false := by simp; omega
        have g0n : decide (x ≤ y) = false := by simp; omega
        have hc1 := hn1 (by rw [hq]; simp [*])
        have HC1' := Lib.hid hc1
        clear hc1 hq hy1 hn1
        go_wp2
        go_quiet (fail)
        go_wp2
        go_roundw
        case rel => exact ⟨k + 1, by omega, by go_num, by rw [HC1'.out], _, rfl⟩
        case measure => simp [intOf]; omega
    · obtain rfl : k = L.length := by omega
      have hcl := cntL_le (P := (cntP ts x false true)) (l := L) (i := L.length)
      obtain ⟨n, hn⟩ : ∃ n, cntL (cntP ts x false true) L L.length = n := ⟨_, rfl⟩
      have HNN := Lib.hid hn
      rw [hn] at hcl ⊢
      obtain ⟨wz, hwz⟩ : ∃ wz, w1.drewN d = wz := ⟨_, rfl⟩
      have hfin : Hid (Below w.heap.size w wz) := Lib.hid (by rw [← hwz]; exact below_drewN HB1.out _)
      have HREA := Lib.hid (reached_any n (by omega) wz)
      rw [hwz]
      clear hn hwz
      go_wp2_with fail
      refine HREA.out.mono ?_
      rintro e w3 ⟨rfl, rfl⟩
      clear HREA
      go_wp2_with fail
      refine (truth_any _ _).mono ?_
      rintro e w4 ⟨rfl, rfl⟩
      go_wp2
      go_ret
      exact ⟨by rw [HNN.out]; rfl, hfin⟩

set_option maxRecDepth 100000 in
set_option maxHeartbeats 4000000 in
theorem counted_true_false (a : Option Addr) (len cap : Nat) (ts : List NodeD) (hR : RightT ts len) (w : World) (hN : Nodes w a len ts) (x : Nat) (hx : x < len) (p : Nat) (hp : par (sz ts) x = some p) (hpk : kd ts p = 3) :
    Calls Try.prog 124 #[.slice a len cap, .int .i64 (x : Int), .int .i64 0, .int .i64 1, .int .i64 2] w (TruthPostB (decide (cntL (cntP ts x true false) (lb (elKid ts p) len) (lb (elKid ts p) len).length = 1)) w) := by
  have hlen := hR.le
  have hpx := (par_some hp).1
  have hpl : p < len := by omega
  have hpar := parent_any a len cap ts x w hN hR.sizes (fun j hj => hR.nest.fit j hj) hx
  rw [hp] at hpar
  have hel := fun w' (h : Nodes w' a len ts) => elements_any a len cap ts p w' h hR hpl
  obtain ⟨L, hL⟩ : ∃ L, lb (elKid ts p) len = L := ⟨_, rfl⟩
  have hLl : L.length ≤ 200 := by rw [← hL]; exact Nat.le_trans (lb_length_le _) hlen
  have hLm : ∀ i ∈ L, i < len := fun i hi => by rw [← hL] at hi; exact (lb_mem hi).1
  rw [hL] at hel ⊢
  have HN := Lib.hid hN
  have HEL := Lib.hid (hel w hN)
  have HPAR := Lib.hid hpar
  have HLM := Lib.hid hLm
  have hpos := hR.pos
  obtain ⟨b, off, rfl, hc⟩ := hN.at hpos
  have cp := (hc p hpl).kind
  rw [show (ts.getD p default).kind = 3 from hpk] at cp
  have hplI : (p : Int) < (len : Int) := by omega
  have hxI : (x : Int) < (len : Int) := by omega
  have gp : decide ((p : Int) < 0) = false := by simp
  have hb2 : bits BinOp.and IntKind.i64 2 2 = 2 := by decide
  have hb1 : bits BinOp.and IntKind.i64 2 1 = 0 := by decide
  have HC := Lib.hid hc
  clear hN hel hpar hLm hc hL hp hpk hR
  go_enter Try.func124, Try.ntmps124
  go_wp2_with fail
  refine HPAR.out.mono ?_
  rintro e w0 ⟨rfl, rfl⟩
  simp only [parI]
  clear HPAR
  go_wp2_with fail
  refine HEL.out.mono ?_
  rintro e w1 ⟨vk, rfl, hown, hb1⟩
  have hrd : ReadsAs w1 vk (L.map intV) := OwnPl.reads (B := w.heap.size) hown.out
  obtain ⟨ka, kcap, kb, koff, rfl, hkm, hka, hkc⟩ := ints_open hrd
  have HKA := Lib.hid hka
  have HKC := Lib.hid hkc
  have HB1 := Lib.hid hb1.out
  have HC1 : Hid (∀ y, y < len → w1.cell? ⟨b, off + y * 5 + 1, none⟩ = some (.string (ts.getD y default).tag)) := Lib.hid (fun y hy => cell_below hb1.out (HC.out y hy).tag)
  clear hrd hka hkc hown hb1 HEL cp HC
  go_wp2
  go_loopw [13, 14] (fun n i wr => ∃ k : Nat, k ≤ L.length ∧ i = .int .i64 k ∧ n = .int .i64 (cntL (cntP ts x true false) L k : Int) ∧ ∃ d, wr = w1.drewN d) (fun _ i _ => L.length - (intOf i).toNat)
  case atStart => exact ⟨0, by omega, rfl, by rw [cntL_zero]; rfl, 0, rfl⟩
  case round =>
    obtain ⟨k, hk, rfl, rfl, d, rfl⟩ := hrel
    by_cases hlt : k < L.length
    · obtain rfl := HKA.out (by omega)
      have ck := HKC.out k hlt
      have hyl := HLM.out _ (getD_mem' (d := 0) hlt)
      have hcl := cntL_le (P := (cntP ts x true false)) (l := L) (i := k)
      have hy1 := cntL_yes (P := (cntP ts x true false)) hlt
      have hn1 := cntL_no (P := (cntP ts x true false)) hlt
      obtain ⟨y, hyy⟩ : ∃ y, L.getD k 0 = y := ⟨_, rfl⟩
      rw [hyy] at ck hyl hy1 hn1
      have cy := HC1.out y hyl
      have cx := HC1.out x hx
      have hq : (cntP ts x true false) y = ((!true || ((ts.getD y default).tag.toList == (ts.getD x default).tag.toList)) && decide (y ≤ x)) := by simp [cntP]
      have hkI : (k : Int) < (L.length : Int) := by omega
      have hyI : (y : Int) < (len : Int) := by omega
      generalize (ts.getD y default).tag = s at cy hq
      generalize (ts.getD x default).tag = t at cx hq
      clear hyy
      by_cases hst : (s.toList == t.toList) = true
      · by_cases hle : y ≤ x
        · have g0 : decide ((y : Int) ≤ (x : Int)) = true := by simp; omega
          have g0n : decide (y ≤ x) = true := by simp; omega
          have hc1 := hy1 (by rw [hq]; simp [*])
          have HC1' := Lib.hid hc1
          clear hc1 hq hy1 hn1
          go_wp2
          go_quiet (fail)
          go_wp2
          go_roundw
          case rel => exact ⟨k + 1, by omega, by go_num, by rw [HC1'.out]; go_num, _, rfl⟩
          case measure => simp [intOf]; omega
        · have g0 : decide ((y : Int) ≤ (x : Int)) = false := by simp; omega
          have g0n : decide (y ≤ x) = false := by simp; omega
          have hc1 := hn1 (by rw [hq]; simp [*])
          have HC1' := Lib.hid hc1
          clear hc1 hq hy1 hn1
          go_wp2
          go_quiet (fail)
          go_wp2
          go_roundw
          case rel => exact ⟨k + 1, by omega, by go_num, by rw [HC1'.out], _, rfl⟩
          case measure => simp [intOf]; omega
      · have hst' : (s.toList == t.toList) = false := by simpa using hst
        have hc1 := hn1 (by rw [hq, hst']; simp)
        have HC1' := Lib.hid hc1
        clear hc1 hq hy1 hn1 hst
        go_wp2
        go_quiet (fail)
        go_wp2
        go_roundw
        case rel => exact ⟨k + 1, by omega, by go_num, by rw [HC1'.out], _, rfl⟩
        case measure => simp [intOf]; omega
    · obtain rfl : k = L.length := by omega
      have hcl := cntL_le (P := (cntP ts x true false)) (l := L) (i := L.length)
      obtain ⟨n, hn⟩ : ∃ n, cntL (cntP ts x true false) L L.length = n := ⟨_, rfl⟩
      have HNN := Lib.hid hn
      rw [hn] at hcl ⊢
      obtain ⟨wz, hwz⟩ : ∃ wz, w1.drewN d = wz := ⟨_, rfl⟩
      have hfin : Hid (Below w.heap.size w wz) := Lib.hid (by rw [← hwz]; exact below_drewN HB1.out _)
      have HREA := Lib.hid (reached_any n (by omega) wz)
      rw [hwz]
      clear hn hwz
      go_wp2_with fail
      refine HREA.out.mono ?_
      rintro e w3 ⟨rfl, rfl⟩
      clear HREA
      go_wp2_with fail
      refine (truth_any _ _).mono ?_
      rintro e w4 ⟨rfl, rfl⟩
      go_wp2
      go_ret
      exact ⟨by rw [HNN.out]; rfl, hfin⟩

set_option maxRecDepth 100000 in
set_option maxHeartbeats 4000000 in
theorem counted_true_true (a : Option Addr) (len cap : Nat) (ts : List NodeD) (hR : RightT ts len) (w : World) (hN : Nodes w a len ts) (x : Nat) (hx : x < len) (p : Nat) (hp : par (sz ts) x = some p) (hpk : kd ts p = 3) :
    Calls Try.prog 124 #[.slice a len cap, .int .i64 (x : Int), .int .i64 0, .int .i64 1, .int .i64 3] w (TruthPostB (decide (cntL (cntP ts x true true) (lb (elKid ts p) len) (lb (elKid ts p) len).length = 1)) w) := by
  have hlen := hR.le
  have hpx := (par_some hp).1
  have hpl : p < len := by omega
  have hpar := parent_any a len cap ts x w hN hR.sizes (fun j hj => hR.nest.fit j hj) hx
  rw [hp] at hpar
  have hel := fun w' (h : Nodes w' a len ts) => elements_any a len cap ts p w' h hR hpl
  obtain ⟨L, hL⟩ : ∃ L, lb (elKid ts p) len = L := ⟨_, rfl⟩
  have hLl : L.length ≤ 200 := by rw [← hL]; exact Nat.le_trans (lb_length_le _) hlen
  have hLm : ∀ i ∈ L, i < len := fun i hi => by rw [← hL] at hi; exact (lb_mem hi).1
  rw [hL] at hel ⊢
  have HN := Lib.hid hN
  have HEL := Lib.hid (hel w hN)
  have HPAR := Lib.hid hpar
  have HLM := Lib.hid hLm
  have hpos := hR.pos
  obtain ⟨b, off, rfl, hc⟩ := hN.at hpos
  have cp := (hc p hpl).kind
  rw [show (ts.getD p default).kind = 3 from hpk] at cp
  have hplI : (p : Int) < (len : Int) := by omega
  have hxI : (x : Int) < (len : Int) := by omega
  have gp : decide ((p : Int) < 0) = false := by simp
  have hb2 : bits BinOp.and IntKind.i64 3 2 = 2 := by decide
  have hb1 : bits BinOp.and IntKind.i64 3 1 = 1 := by decide
  have HC := Lib.hid hc
  clear hN hel hpar hLm hc hL hp hpk hR
  go_enter Try.func124, Try.ntmps124
  go_wp2_with fail
  refine HPAR.out.mono ?_
  rintro e w0 ⟨rfl, rfl⟩
  simp only [parI]
  clear HPAR
  go_wp2_with fail
  refine HEL.out.mono ?_
  rintro e w1 ⟨vk, rfl, hown, hb1⟩
  have hrd : ReadsAs w1 vk (L.map intV) := OwnPl.reads (B := w.heap.size) hown.out
  obtain ⟨ka, kcap, kb, koff, rfl, hkm, hka, hkc⟩ := ints_open hrd
  have HKA := Lib.hid hka
  have HKC := Lib.hid hkc
  have HB1 := Lib.hid hb1.out
  have HC1 : Hid (∀ y, y < len → w1.cell? ⟨b, off + y * 5 + 1, none⟩ = some (.string (ts.getD y default).tag)) := Lib.hid (fun y hy => cell_below hb1.out (HC.out y hy).tag)
  clear hrd hka hkc hown hb1 HEL cp HC
  go_wp2
  go_loopw [13, 14] (fun n i wr => ∃ k : Nat, k ≤ L.length ∧ i = .int .i64 k ∧ n = .int .i64 (cntL (cntP ts x true true) L k : Int) ∧ ∃ d, wr = w1.drewN d) (fun _ i _ => L.length - (intOf i).toNat)
  case atStart => exact ⟨0, by omega, rfl, by rw [cntL_zero]; rfl, 0, rfl⟩
  case round =>
    obtain ⟨k, hk, rfl, rfl, d, rfl⟩ := hrel
    by_cases hlt : k < L.length
    · obtain rfl := HKA.out (by omega)
      have ck := HKC.out k hlt
      have hyl := HLM.out _ (getD_mem' (d := 0) hlt)
      have hcl := cntL_le (P := (cntP ts x true true)) (l := L) (i := k)
      have hy1 := cntL_yes (P := (cntP ts x true true)) hlt
      have hn1 := cntL_no (P := (cntP ts x true true)) hlt
      obtain ⟨y, hyy⟩ : ∃ y, L.getD k 0 = y := ⟨_, rfl⟩
      rw [hyy] at ck hyl hy1 hn1
      have cy := HC1.out y hyl
      have cx := HC1.out x hx
      have hq : (cntP ts x true true) y = ((!true || ((ts.getD y default).tag.toList == (ts.getD x default).tag.toList)) && decide (x ≤ y)) := by simp [cntP]
      have hkI : (k : Int) < (L.length : Int) := by omega
      have hyI : (y : Int) < (len : Int) := by omega
      generalize (ts.getD y default).tag = s at cy hq
      generalize (ts.getD x default).tag = t at cx hq
      clear hyy
      by_cases hst : (s.toList == t.toList) = true
      · by_cases hle : x ≤ y
        · have g0 : decide ((x : Int) ≤ (y : Int)) = true := by simp; omega
          have g0n : decide (x ≤ y) = true := by simp; omega
          have hc1 := hy1 (by rw [hq]; simp [*])
          have HC1' := Lib.hid hc1
          clear hc1 hq hy1 hn1
          go_wp2
          go_quiet (fail)
          go_wp2
          go_roundw
          case rel => exact ⟨k + 1, by omega, by go_num, by rw [HC1'.out]; go_num, _, rfl⟩
          case measure => simp [intOf]; omega
        · have g0 : decide ((x : Int) ≤ (y : Int)) = false := by simp; omega
          have g0n : decide (x ≤ y) = false := by simp; omega
          have hc1 := hn1 (by rw [hq]; simp [*])
          have HC1' := Lib.hid hc1
          clear hc1 hq hy1 hn1
          go_wp2
          go_quiet (fail)
          go_wp2
          go_roundw
          case rel => exact ⟨k + 1, by omega, by go_num, by rw [HC1'.out], _, rfl⟩
          case measure => simp [intOf]; omega
      · have hst' : (s.toList == t.toList) = false := by simpa using hst
        have hc1 := hn1 (by rw [hq, hst']; simp)
        have HC1' := Lib.hid hc1
        clear hc1 hq hy1 hn1 hst
        go_wp2
        go_quiet (fail)
        go_wp2
        go_roundw
        case rel => exact ⟨k + 1, by omega, by go_num, by rw [HC1'.out], _, rfl⟩
        case measure => simp [intOf]; omega
    · obtain rfl : k = L.length := by omega
      have hcl := cntL_le (P := (cntP ts x true true)) (l := L) (i := L.length)
      obtain ⟨n, hn⟩ : ∃ n, cntL (cntP ts x true true) L L.length = n := ⟨_, rfl⟩
      have HNN := Lib.hid hn
      rw [hn] at hcl ⊢
      obtain ⟨wz, hwz⟩ : ∃ wz, w1.drewN d = wz := ⟨_, rfl⟩
      have hfin : Hid (Below w.heap.size w wz) := Lib.hid (by rw [← hwz]; exact below_drewN HB1.out _)
      have HREA := Lib.hid (reached_any n (by omega) wz)
      rw [hwz]
      clear hn hwz
      go_wp2_with fail
      refine HREA.out.mono ?_
      rintro e w3 ⟨rfl, rfl⟩
      clear HREA
      go_wp2_with fail
      refine (truth_any _ _).mono ?_
      rintro e w4 ⟨rfl, rfl⟩
      go_wp2
      go_ret
      exact ⟨by rw [HNN.out]; rfl, hfin⟩

end Go.Proofs.Ytobnglgnoflbnaa
