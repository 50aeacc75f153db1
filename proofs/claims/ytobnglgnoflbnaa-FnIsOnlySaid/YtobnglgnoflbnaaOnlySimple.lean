/- spec.simple at a selector of an only child. -/
import Derived.Test.YtobnglgnoflbnaaOnlyBare
import Derived.Deep.RegionWith
namespace Go.Proofs.Ytobnglgnoflbnaa
open Go.RowKit
set_option linter.unusedVariables false
set_option linter.unusedSimpArgs false

set_option maxRecDepth 100000 in
set_option maxHeartbeats 2000000 in
theorem simpleOnly_false (a : Option Addr) (len cap : Nat) (ts : List NodeD) (hR : RightT ts len) (w : World) (hN : Nodes w a len ts) (x : Nat) (hx : x < len) (hk : kd ts x = 3) (p : Nat) (hp : par (sz ts) x = some p) :
    Calls Try.prog 89 #[.slice a len cap, .int .i64 (x : Int), .agg #[.int .i64 7, .int .i64 0, .string ByteArray.empty, .string ByteArray.empty, .int .i64 0, .int .i64 0, .int .i64 0, .int .i64 1]] w (IntIsB (onlyV ts len p x false) w) := by
  have hbor : bits BinOp.or IntKind.i64 0 1 = 1 := by decide
  have hxI : (x : Int) < (len : Int) := by omega
  have hb0 : Below w.heap.size w (w.alloc (.cells #[.int .i64 7, .int .i64 0, .string ByteArray.empty, .string ByteArray.empty, .int .i64 0, .int .i64 0, .int .i64 0, .int .i64 1] 27)) := (Below.refl _ _).alloc (Nat.le_refl _) _
  have s0 : SelAtC (w.alloc (.cells #[.int .i64 7, .int .i64 0, .string ByteArray.empty, .string ByteArray.empty, .int .i64 0, .int .i64 0, .int .i64 0, .int .i64 1] 27)) w.heap.size #[.int .i64 7, .int .i64 0, .string ByteArray.empty, .string ByteArray.empty, .int .i64 0, .int .i64 0, .int .i64 0, .int .i64 1] := fun i u h => cell_alloc_new' _ _ _ rfl h
  obtain ⟨w0, hw0⟩ : ∃ w0, w.alloc (.cells #[.int .i64 7, .int .i64 0, .string ByteArray.empty, .string ByteArray.empty, .int .i64 0, .int .i64 0, .int .i64 0, .int .i64 1] 27) = w0 := ⟨_, rfl⟩
  rw [hw0] at hb0 s0
  have hN0 := hN.below hb0
  have hcn := hN0
  obtain ⟨b, off, rfl, hc⟩ := hN.at hR.pos
  have cn := (hc x hx).below hb0
  have c0 := cn.kind
  have c1 := cn.tag
  have c2 := cn.text
  have c3 := cn.attrs
  have c4 := cn.size
  obtain ⟨n, hn⟩ : ∃ n, ts.getD x default = n := ⟨_, rfl⟩
  rw [hn] at c0 c1 c2 c3 c4
  have k0 : w0.cell? ⟨w.heap.size, 0, none⟩ = some (.int .i64 7) := s0 0 _ rfl
  have k1 : w0.cell? ⟨w.heap.size, 1, none⟩ = some (.int .i64 0) := s0 1 _ rfl
  have k2 : w0.cell? ⟨w.heap.size, 2, none⟩ = some (.string ByteArray.empty) := s0 2 _ rfl
  have k3 : w0.cell? ⟨w.heap.size, 3, none⟩ = some (.string ByteArray.empty) := s0 3 _ rfl
  have k4 : w0.cell? ⟨w.heap.size, 4, none⟩ = some (.int .i64 0) := s0 4 _ rfl
  have k5 : w0.cell? ⟨w.heap.size, 5, none⟩ = some (.int .i64 0) := s0 5 _ rfl
  have k6 : w0.cell? ⟨w.heap.size, 6, none⟩ = some (.int .i64 0) := s0 6 _ rfl
  have k7 : w0.cell? ⟨w.heap.size, 7, none⟩ = some (.int .i64 1) := s0 7 _ rfl
  have HS := Lib.hid s0
  have HB := Lib.hid hb0
  have HN := Lib.hid hN0
  have hlt8 : w.heap.size < w0.heap.size := World.block_lt_of_cell? _ _ k0
  have hba := (Below.refl w0.heap.size w0).alloc (Nat.le_refl _) (.cells #[.int .i64 n.kind, .string n.tag, .string n.text, .slice n.aa n.al n.ac, .int .i64 n.size] 64)
  obtain ⟨wn, hwn⟩ : ∃ wn, w0.alloc (.cells #[.int .i64 n.kind, .string n.tag, .string n.text, .slice n.aa n.al n.ac, .int .i64 n.size] 64) = wn := ⟨_, rfl⟩
  rw [hwn] at hba
  have hbd : Below w0.heap.size w0 wn.drew := below_drewN hba 1
  have m0 := cell_below hba k0
  have m6 := cell_below hba k6
  have HBD := Lib.hid hbd
  have hltn : w.heap.size < wn.heap.size := Nat.lt_of_lt_of_le hlt8 hba.size
  clear hba hbd
  by_cases hpk : kd ts p = 3
  · rw [show onlyV ts len p x false = truthI (decide ((lb (sameKid ts p x false) len).length = 1)) from if_pos hpk, ← only_law hx hk hp]
    have h1 := fun w' (h : Nodes w' (some ⟨b, off, none⟩) len ts) => counted_false_false (some ⟨b, off, none⟩) len cap ts hR w' h x hx p hp hpk
    have h2 := fun w' (h : Nodes w' (some ⟨b, off, none⟩) len ts) => counted_false_true (some ⟨b, off, none⟩) len cap ts hR w' h x hx p hp hpk
    obtain ⟨q1, hq1⟩ : ∃ q, decide (cntL (cntP ts x false false) (lb (elKid ts p) len) (lb (elKid ts p) len).length = 1) = q := ⟨_, rfl⟩
    obtain ⟨q2, hq2⟩ : ∃ q, decide (cntL (cntP ts x false true) (lb (elKid ts p) len) (lb (elKid ts p) len).length = 1) = q := ⟨_, rfl⟩
    rw [hq1] at h1 ⊢
    rw [hq2] at h2 ⊢
    obtain ⟨gv, hg1, hg2⟩ : ∃ gv : Int → Int, gv 0 = truthI q1 ∧ gv 1 = truthI q2 := ⟨fun z => if z = 0 then truthI q1 else truthI q2, by simp, by simp⟩
    have H : Hid (∀ (fl : Int), (fl = 0 ∨ fl = 1) → ∀ w', Nodes w' (some ⟨b, off, none⟩) len ts → Calls Try.prog 124 #[.slice (some ⟨b, off, none⟩) len cap, .int .i64 (x : Int), .int .i64 0, .int .i64 1, .int .i64 fl] w' (IntIsB (gv fl) w')) := Lib.hid (fun fl hfl w' hn' => by
      rcases hfl with rfl | rfl
      · rw [hg1]; exact h1 w' hn'
      · rw [hg2]; exact h2 w' hn')
    have HBOTH : Hid (∀ w', Calls Try.prog 85 #[.int .i64 (gv 0), .int .i64 (gv 1)] w' (TruthPost (q1 && q2) w')) := Lib.hid (fun w' => by rw [hg1, hg2]; exact both_any q1 q2 w')
    clear h1 h2 hg1 hg2 hq1 hq2 hN hN0 hcn hc cn s0 hb0 hn hp hk hpk hR
    go_enter Try.func89, Try.ntmps89
    go_wp2_with fail
    go_region_with (first
      | (have hz := hh1; go_at_call 124; refine (H.out _ ?hf _ ?hn).mono ?_; (case hf => (first | exact .inl rfl | exact .inr rfl)); (case hn => exact HN.out.below hh1.out); rintro e w2 ⟨rfl, hb2⟩; have HZ := Lib.hid (hh1.out.trans (hb2.out.mono hh1.out.size)); have k6b := cell_below HZ.out k6)
      | (go_at_call 124; refine (H.out _ ?hf _ ?hn).mono ?_; (case hf => (first | exact .inl rfl | exact .inr rfl)); (case hn => exact HN.out.below HBD.out); rintro e w1 ⟨rfl, hb1⟩; have hh1 := Lib.hid (HBD.out.trans (hb1.out.mono HBD.out.size)); have k6a := cell_below hh1.out k6)
      | (go_at_call 85; refine (HBOTH.out _).mono ?_; rintro e w3 ⟨rfl, rfl⟩))
    all_goals have hfin := Lib.hid (HB.out.trans (HZ.out.mono HB.out.size))
    all_goals clear HZ
    all_goals go_wp2
    all_goals go_ret
    all_goals exact ⟨rfl, hfin⟩
  · rw [show onlyV ts len p x false = 2 from if_neg hpk]
    have h1 := fun (fl : Int) w' (h : Nodes w' (some ⟨b, off, none⟩) len ts) => counted_open fl (some ⟨b, off, none⟩) len cap ts hR w' h x hx p hp hpk
    have H1 := Lib.hid h1
    clear h1 hN hN0 hcn hc cn s0 hb0 hn hp hk hpk hR
    go_enter Try.func89, Try.ntmps89
    go_wp2_with fail
    go_region_with (first
      | (go_at_call 124; refine Calls.mono (H1.out _ _ (HN.out.below HBD.out)) ?_; rintro e w1 ⟨rfl, rfl⟩)
      | (go_at_call 85; refine (both_open _).mono ?_; rintro e w3 ⟨rfl, rfl⟩))
    all_goals have hfin := Lib.hid (HB.out.trans (HBD.out.mono HB.out.size))
    all_goals go_wp2
    all_goals go_ret
    all_goals exact ⟨rfl, hfin⟩

set_option maxRecDepth 100000 in
set_option maxHeartbeats 2000000 in
theorem simpleOnly_true (a : Option Addr) (len cap : Nat) (ts : List NodeD) (hR : RightT ts len) (w : World) (hN : Nodes w a len ts) (x : Nat) (hx : x < len) (hk : kd ts x = 3) (p : Nat) (hp : par (sz ts) x = some p) :
    Calls Try.prog 89 #[.slice a len cap, .int .i64 (x : Int), .agg #[.int .i64 7, .int .i64 0, .string ByteArray.empty, .string ByteArray.empty, .int .i64 0, .int .i64 0, .int .i64 2, .int .i64 1]] w (IntIsB (onlyV ts len p x true) w) := by
  have hbor : bits BinOp.or IntKind.i64 2 1 = 3 := by decide
  have hxI : (x : Int) < (len : Int) := by omega
  have hb0 : Below w.heap.size w (w.alloc (.cells #[.int .i64 7, .int .i64 0, .string ByteArray.empty, .string ByteArray.empty, .int .i64 0, .int .i64 0, .int .i64 2, .int .i64 1] 27)) := (Below.refl _ _).alloc (Nat.le_refl _) _
  have s0 : SelAtC (w.alloc (.cells #[.int .i64 7, .int .i64 0, .string ByteArray.empty, .string ByteArray.empty, .int .i64 0, .int .i64 0, .int .i64 2, .int .i64 1] 27)) w.heap.size #[.int .i64 7, .int .i64 0, .string ByteArray.empty, .string ByteArray.empty, .int .i64 0, .int .i64 0, .int .i64 2, .int .i64 1] := fun i u h => cell_alloc_new' _ _ _ rfl h
  obtain ⟨w0, hw0⟩ : ∃ w0, w.alloc (.cells #[.int .i64 7, .int .i64 0, .string ByteArray.empty, .string ByteArray.empty, .int .i64 0, .int .i64 0, .int .i64 2, .int .i64 1] 27) = w0 := ⟨_, rfl⟩
  rw [hw0] at hb0 s0
  have hN0 := hN.below hb0
  have hcn := hN0
  obtain ⟨b, off, rfl, hc⟩ := hN.at hR.pos
  have cn := (hc x hx).below hb0
  have c0 := cn.kind
  have c1 := cn.tag
  have c2 := cn.text
  have c3 := cn.attrs
  have c4 := cn.size
  obtain ⟨n, hn⟩ : ∃ n, ts.getD x default = n := ⟨_, rfl⟩
  rw [hn] at c0 c1 c2 c3 c4
  have k0 : w0.cell? ⟨w.heap.size, 0, none⟩ = some (.int .i64 7) := s0 0 _ rfl
  have k1 : w0.cell? ⟨w.heap.size, 1, none⟩ = some (.int .i64 0) := s0 1 _ rfl
  have k2 : w0.cell? ⟨w.heap.size, 2, none⟩ = some (.string ByteArray.empty) := s0 2 _ rfl
  have k3 : w0.cell? ⟨w.heap.size, 3, none⟩ = some (.string ByteArray.empty) := s0 3 _ rfl
  have k4 : w0.cell? ⟨w.heap.size, 4, none⟩ = some (.int .i64 0) := s0 4 _ rfl
  have k5 : w0.cell? ⟨w.heap.size, 5, none⟩ = some (.int .i64 0) := s0 5 _ rfl
  have k6 : w0.cell? ⟨w.heap.size, 6, none⟩ = some (.int .i64 2) := s0 6 _ rfl
  have k7 : w0.cell? ⟨w.heap.size, 7, none⟩ = some (.int .i64 1) := s0 7 _ rfl
  have HS := Lib.hid s0
  have HB := Lib.hid hb0
  have HN := Lib.hid hN0
  have hlt8 : w.heap.size < w0.heap.size := World.block_lt_of_cell? _ _ k0
  have hba := (Below.refl w0.heap.size w0).alloc (Nat.le_refl _) (.cells #[.int .i64 n.kind, .string n.tag, .string n.text, .slice n.aa n.al n.ac, .int .i64 n.size] 64)
  obtain ⟨wn, hwn⟩ : ∃ wn, w0.alloc (.cells #[.int .i64 n.kind, .string n.tag, .string n.text, .slice n.aa n.al n.ac, .int .i64 n.size] 64) = wn := ⟨_, rfl⟩
  rw [hwn] at hba
  have hbd : Below w0.heap.size w0 wn.drew := below_drewN hba 1
  have m0 := cell_below hba k0
  have m6 := cell_below hba k6
  have HBD := Lib.hid hbd
  have hltn : w.heap.size < wn.heap.size := Nat.lt_of_lt_of_le hlt8 hba.size
  clear hba hbd
  by_cases hpk : kd ts p = 3
  · rw [show onlyV ts len p x true = truthI (decide ((lb (sameKid ts p x true) len).length = 1)) from if_pos hpk, ← only_law hx hk hp]
    have h1 := fun w' (h : Nodes w' (some ⟨b, off, none⟩) len ts) => counted_true_false (some ⟨b, off, none⟩) len cap ts hR w' h x hx p hp hpk
    have h2 := fun w' (h : Nodes w' (some ⟨b, off, none⟩) len ts) => counted_true_true (some ⟨b, off, none⟩) len cap ts hR w' h x hx p hp hpk
    obtain ⟨q1, hq1⟩ : ∃ q, decide (cntL (cntP ts x true false) (lb (elKid ts p) len) (lb (elKid ts p) len).length = 1) = q := ⟨_, rfl⟩
    obtain ⟨q2, hq2⟩ : ∃ q, decide (cntL (cntP ts x true true) (lb (elKid ts p) len) (lb (elKid ts p) len).length = 1) = q := ⟨_, rfl⟩
    rw [hq1] at h1 ⊢
    rw [hq2] at h2 ⊢
    obtain ⟨gv, hg1, hg2⟩ : ∃ gv : Int → Int, gv 2 = truthI q1 ∧ gv 3 = truthI q2 := ⟨fun z => if z = 2 then truthI q1 else truthI q2, by simp, by simp⟩
    have H : Hid (∀ (fl : Int), (fl = 2 ∨ fl = 3) → ∀ w', Nodes w' (some ⟨b, off, none⟩) len ts → Calls Try.prog 124 #[.slice (some ⟨b, off, none⟩) len cap, .int .i64 (x : Int), .int .i64 0, .int .i64 1, .int .i64 fl] w' (IntIsB (gv fl) w')) := Lib.hid (fun fl hfl w' hn' => by
      rcases hfl with rfl | rfl
      · rw [hg1]; exact h1 w' hn'
      · rw [hg2]; exact h2 w' hn')
    have HBOTH : Hid (∀ w', Calls Try.prog 85 #[.int .i64 (gv 2), .int .i64 (gv 3)] w' (TruthPost (q1 && q2) w')) := Lib.hid (fun w' => by rw [hg1, hg2]; exact both_any q1 q2 w')
    clear h1 h2 hg1 hg2 hq1 hq2 hN hN0 hcn hc cn s0 hb0 hn hp hk hpk hR
    go_enter Try.func89, Try.ntmps89
    go_wp2_with fail
    go_region_with (first
      | (have hz := hh1; go_at_call 124; refine (H.out _ ?hf _ ?hn).mono ?_; (case hf => (first | exact .inl rfl | exact .inr rfl)); (case hn => exact HN.out.below hh1.out); rintro e w2 ⟨rfl, hb2⟩; have HZ := Lib.hid (hh1.out.trans (hb2.out.mono hh1.out.size)); have k6b := cell_below HZ.out k6)
      | (go_at_call 124; refine (H.out _ ?hf _ ?hn).mono ?_; (case hf => (first | exact .inl rfl | exact .inr rfl)); (case hn => exact HN.out.below HBD.out); rintro e w1 ⟨rfl, hb1⟩; have hh1 := Lib.hid (HBD.out.trans (hb1.out.mono HBD.out.size)); have k6a := cell_below hh1.out k6)
      | (go_at_call 85; refine (HBOTH.out _).mono ?_; rintro e w3 ⟨rfl, rfl⟩))
    all_goals have hfin := Lib.hid (HB.out.trans (HZ.out.mono HB.out.size))
    all_goals clear HZ
    all_goals go_wp2
    all_goals go_ret
    all_goals exact ⟨rfl, hfin⟩
  · rw [show onlyV ts len p x true = 2 from if_neg hpk]
    have h1 := fun (fl : Int) w' (h : Nodes w' (some ⟨b, off, none⟩) len ts) => counted_open fl (some ⟨b, off, none⟩) len cap ts hR w' h x hx p hp hpk
    have H1 := Lib.hid h1
    clear h1 hN hN0 hcn hc cn s0 hb0 hn hp hk hpk hR
    go_enter Try.func89, Try.ntmps89
    go_wp2_with fail
    go_region_with (first
      | (go_at_call 124; refine Calls.mono (H1.out _ _ (HN.out.below HBD.out)) ?_; rintro e w1 ⟨rfl, rfl⟩)
      | (go_at_call 85; refine (both_open _).mono ?_; rintro e w3 ⟨rfl, rfl⟩))
    all_goals have hfin := Lib.hid (HB.out.trans (HBD.out.mono HB.out.size))
    all_goals go_wp2
    all_goals go_ret
    all_goals exact ⟨rfl, hfin⟩

end Go.Proofs.Ytobnglgnoflbnaa
