/- Parts of a proof: PdSeq1. -/
import Derived.Test.YtoanofdomhnafaaGreatDoorG30
import Derived.Test.YtoanofdomhnafaaGreatDoorG25
import Derived.Test.YtoanofdomhnafaaGreatDoorG03
set_option linter.unusedVariables false
set_option linter.unusedSimpArgs false
namespace Go.Proofs.YtoanofdomhnafaaGreatDoor
open Go.RowKit
variable {d : Int}
theorem no_bar {s : ByteArray} {q : Nat} (hq : q < s.size) (h : nx s q ≠ 124) : ((s.extract q (q + 2)).toList == [124, 42]) = false := by
  cases hb : ((s.extract q (q + 2)).toList == [124, 42])
  · rfl
  · exfalso
    have h1 : (s.extract q (q + 2)).toList = [124, 42] := by simpa using hb
    rw [ByteArray.toList_eq, ByteArray.data_extract] at h1
    have h2 : (s.data.extract q (q + 2)).toList[0]? = some 124 := by rw [h1]; rfl
    rw [nx_lt hq] at h
    have hq' : q < s.data.size := hq
    have h3 : s.data[q]? = some 124 := by
      rw [Array.getElem?_toList, Array.getElem?_extract] at h2
      split at h2
      · simpa using h2
      · cases h2
    rw [Array.getElem?_eq_getElem hq'] at h3
    have h4 : s[q] = 124 := Option.some.inj h3
    rw [h4] at h
    exact h rfl
set_option maxRecDepth 100000 in
set_option maxHeartbeats 800000000 in
theorem seqStar (s : ByteArray) (B i N : Nat) (pos : Nat → Nat) (f : Nat → Tri) (w : World) (hs : s.size ≤ 9000) (h : Prs d w B s i) (hN : N ≤ 60)
    (hpart : ∀ m, 0 ≤ m → m < N → pos m < s.size ∧ PartCalls d s B (pos m) (pos (m + 1)) (f m)) (hstop : StopSel s (pos N)) (hf : ∀ j, j < N → Tri9 (f j)) (hps : ∀ j, j ≤ N → Tri9 (psum f j)) (h42 : nx s i = 42) (hi : i < s.size) (h124 : nx s (i + 1) ≠ 124) (hpos : pos 0 = i + 1) :
    Calls Tryz.prog 33 #[.pointer (some ⟨B, 0, none⟩)] w (SelRead d s B (pos N) (psum f N) w) := by
  have hBw := World.objAt.lt h
  obtain ⟨i0, hinf, hz0, hz1, hz2⟩ := info_parts Tryz.infoSel
  have hN0 : 0 ≤ N := by omega
  obtain ⟨q, hq⟩ : ∃ q, i + 1 = q := ⟨_, rfl⟩
  have hqI : (i : Int) + 1 = (q : Int) := by omega
  rw [hq] at hpos h124
  have HPART := Lib.hid (show ∀ m, 0 ≤ m → m < N → pos m < s.size ∧ PartCalls d s B (pos m) (pos (m + 1)) (f m) from fun m _ h2 => hpart m (by omega) h2)
  have HST := Lib.hid hstop
  have HF := Lib.hid (And.intro hf hps)
  have HP0 := Lib.hid (PK.start h)
  have fia : decide ((s.size : Int) ≤ ((i : Nat) : Int)) = false := by simp; omega
  have fib : decide (s.size ≤ i) = false := by simp; omega
  obtain ⟨x0, hx00⟩ : ∃ x0, (s[i].toNat : Int) = x0 := ⟨_, rfl⟩
  rw [nx_lt hi, hx00] at h42
  have e42 : (x0 == 42) = true := by rw [h42]; rfl
  have HX := Lib.hid h124
  clear h hpart hstop hf hps h42 h124
  have c0 : w.cell? ⟨B, 0, none⟩ = some (.string s) := World.objAt.cell HP0.out.prs (i := 0) rfl
  have c1 : w.cell? ⟨B, 1, none⟩ = some (.int .i64 ((i : Nat) : Int)) := World.objAt.cell HP0.out.prs (i := 1) rfl
  go_enter Tryz.func33, Tryz.ntmps33
  go_wp2
  go_step3
  go_wp2
  go_quiet (fail)
  obtain ⟨wa, hwq⟩ : ∃ wa, (w.drewN nq) = wa := ⟨_, rfl⟩
  have HPa := Lib.hid (show PK d w wa B s i by rw [← hwq]; exact HP0.out.drew nq)
  rw [hwq]
  clear hwq HP0 nq
  try clear c0 c1 f1
  have c0 : wa.cell? ⟨B, 0, none⟩ = some (.string s) := World.objAt.cell HPa.out.prs (i := 0) rfl
  have c1 : wa.cell? ⟨B, 1, none⟩ = some (.int .i64 ((i : Nat) : Int)) := World.objAt.cell HPa.out.prs (i := 1) rfl
  go_wp2
  go_quiet (fail)
  obtain ⟨wb, hwq⟩ : ∃ wb, (wa.drewN nq) = wb := ⟨_, rfl⟩
  have HPb := Lib.hid (show PK d w wb B s i by rw [← hwq]; exact HPa.out.drew nq)
  rw [hwq]
  clear hwq HPa nq
  try clear c0 c1 f1
  have c0 : wb.cell? ⟨B, 0, none⟩ = some (.string s) := World.objAt.cell HPb.out.prs (i := 0) rfl
  have c1 : wb.cell? ⟨B, 1, none⟩ = some (.int .i64 ((i : Nat) : Int)) := World.objAt.cell HPb.out.prs (i := 1) rfl
  have f1 : wb.frozen? ⟨B, 1, none⟩ = false := World.objAt.free HPb.out.prs 1
  go_wp2
  have HPc := Lib.hid (HPb.out.at q)
  obtain ⟨wc, hwc⟩ : ∃ wc, (wb.setCell ⟨B, 1, none⟩ (.int .i64 (q : Int))) = wc := ⟨_, rfl⟩
  have HPd := Lib.hid (show PK d w wc B s q by rw [← hwc]; exact HPc.out)
  rw [hwc]
  clear hwc HPc HPb c0 c1 f1
  have c0 : wc.cell? ⟨B, 0, none⟩ = some (.string s) := World.objAt.cell HPd.out.prs (i := 0) rfl
  have c1 : wc.cell? ⟨B, 1, none⟩ = some (.int .i64 ((q : Nat) : Int)) := World.objAt.cell HPd.out.prs (i := 1) rfl
  by_cases hg : q + 2 < s.size
  · have g2 : decide ((q : Int) + 2 < (s.size : Int)) = true := by simp; omega
    have g3 : (q : Int) + 2 ≤ (s.size : Int) := by omega
    have g4 : ((s.extract q (q + 2)).toList == [124, 42]) = false := no_bar (by omega) HX.out
    go_quiet (fail)
    obtain ⟨wd, hwq⟩ : ∃ wd, (wc.drewN nq) = wd := ⟨_, rfl⟩
    have HPe := Lib.hid (show PK d w wd B s q by rw [← hwq]; exact HPd.out.drew nq)
    rw [hwq]
    clear hwq HPd nq c0 c1
    have HR0 := Lib.hid (RowS.nil wd w.heap.size f)
    have HPS := Lib.hid (show PK d w wd B s (pos 0) by rw [hpos]; exact HPe.out)
    clear HPe
    go_wp2
    go_step3
    go_wp2
    go_loopw [4, 7] (fun v p wr => p = .string ⟨#[]⟩ ∧ ∃ (m : Nat) (vs : List Value), 0 ≤ m ∧ m ≤ N ∧ Hid (PK d w wr B s (pos m)) ∧ Hid (RowS wr w.heap.size v m vs f)) (fun v _ _ => N - sliceLen v)
    case atStart => exact ⟨rfl, _, _, Nat.le_refl _, hN0, HPS, HR0⟩
    case round =>
      obtain ⟨rfl, m, vs, hm0, hmN, HP, HR⟩ := hrel
      have hlen := HR.out.len
      obtain ⟨p, hp⟩ : ∃ p, pos m = p := ⟨_, rfl⟩
      rw [hp] at HP
      by_cases hlt : m < N
      · obtain ⟨hps, HC⟩ := HPART.out m hm0 hlt
        rw [hp] at hps HC
        obtain ⟨pn, hpn⟩ : ∃ pn, pos (m + 1) = pn := ⟨_, rfl⟩
        rw [hpn] at HC
        have g0 : decide ((p : Int) < (s.size : Int)) = true := by simp [hps]
        have g0n : decide (p < s.size) = true := by simp [hps]
        obtain ⟨x, hxs⟩ : ∃ x, (s[p].toNat : Int) = x := ⟨_, rfl⟩
        have hxn : nx s p = x := by rw [nx_lt hps, hxs]
        unfold PartCalls at HC
        rw [hxn] at HC
        clear hxn
        have c0 : wr.cell? ⟨B, 0, none⟩ = some (.string s) := World.objAt.cell HP.out.prs (i := 0) rfl
        have c1 : wr.cell? ⟨B, 1, none⟩ = some (.int .i64 ((p : Nat) : Int)) := World.objAt.cell HP.out.prs (i := 1) rfl
        go_wp2
        go_quiet (fail)
        obtain ⟨w1, hwq⟩ : ∃ w1, (wr.drewN nq) = w1 := ⟨_, rfl⟩
        have HP1 := Lib.hid (show PK d w w1 B s p by rw [← hwq]; exact HP.out.drew nq)
        have HR1 := Lib.hid (show RowS w1 w.heap.size u4 m vs f by rw [← hwq]; exact HR.out.drew nq)
        rw [hwq]
        clear hwq HP nq HR
        try clear c0 c1 f1
        have c0 : w1.cell? ⟨B, 0, none⟩ = some (.string s) := World.objAt.cell HP1.out.prs (i := 0) rfl
        have c1 : w1.cell? ⟨B, 1, none⟩ = some (.int .i64 ((p : Nat) : Int)) := World.objAt.cell HP1.out.prs (i := 1) rfl
        go_wp2
        go_quiet (fail)
        obtain ⟨w2, hwq⟩ : ∃ w2, (w1.drewN nq) = w2 := ⟨_, rfl⟩
        have HP2 := Lib.hid (show PK d w w2 B s p by rw [← hwq]; exact HP1.out.drew nq)
        have HR2 := Lib.hid (show RowS w2 w.heap.size u4 m vs f by rw [← hwq]; exact HR1.out.drew nq)
        rw [hwq]
        clear hwq HP1 nq HR1
        try clear c0 c1 f1
        have c0 : w2.cell? ⟨B, 0, none⟩ = some (.string s) := World.objAt.cell HP2.out.prs (i := 0) rfl
        have c1 : w2.cell? ⟨B, 1, none⟩ = some (.int .i64 ((p : Nat) : Int)) := World.objAt.cell HP2.out.prs (i := 1) rfl
        rcases HC with ⟨hx, hfm, HC⟩ | ⟨hx, hfm, HC⟩ | ⟨hx, hfm, HC⟩ | ⟨hx, HC⟩
        all_goals replace HC := Lib.hid HC
        · have e1 : (x == 35) = true := by rw [hx]; rfl
          clear hx
          go_wp2_with fail
          refine (HC.out _ HP2.out.prs).mono ?_
          rintro e w3 ⟨z, rfl, hp3, hk3⟩
          have HS3 := Lib.hid (show SelSem w3 (fun _ => False) (.iface 77 (.agg #[.string z])) (f m) ∧ ∀ b, (fun _ => False) b → w2.heap.size ≤ b from ⟨by rw [hfm]; exact selId z w3, fun b hb => hb.elim⟩)
          have HP3 := Lib.hid (HP2.out.to hp3.out hk3.out)
          have HR3 := Lib.hid (HR2.out.keep hk3.out hBw)
          have hs2 := HP2.out.keep.below.size
          have hs3 := hk3.out.below.size
          clear HP2 c0 c1 hp3 hk3
          go_wp2_with (at_builtin; (refine wpList_append_own_at _ rfl _ _ 71 rfl w.heap.size 36 i0 .nilIface 1 16 Tryz.underlying71 hinf hz0 hz1 hz2 rfl (by decide) _ _ _ rfl (HR3.out.alloc _).own ⟨w3.heap.size, 0, none⟩ 1 1 [(.iface 77 (.agg #[.string z]))] rfl rfl (cell_one_new _ _ _) ?c2 ?c3 ?c4 ?c5 ?_))
          case c2 => intro u hu; simp at hu; subst hu; rfl
          case c3 => unfold maxLen; omega
          case c4 => omega
          case c5 => simp; omega
          intro v' w4 hown hgrow _ hat
          have hal : Below w3.heap.size w3 (w3.alloc (.cells #[(.iface 77 (.agg #[.string z]))] 36)) := (Below.refl _ _).alloc (Nat.le_refl _) _
          have hrow := RowS.snoc (HR3.out.alloc _) (HS3.out.1.below hal) (fun b hb => ⟨by have := HS3.out.2 b hb; omega, fun e => by
            have h1 := World.ownsRow.lt HR3.out.own b e.symm
            have h2 := HS3.out.2 b hb
            have h3 := World.ownsRow.lt HR2.out.own b e.symm
            omega⟩) hown hgrow (by simpa using hat)
          have HP4 := Lib.hid ((HP3.out.alloc _).grown (HR3.out.alloc _).own hBw rfl hgrow)
          have HR4 := Lib.hid hrow
          clear hown hgrow hat hal hrow HP3 HR3 HS3
          go_wp2
          go_roundw
          case rel => exact ⟨rfl, m + 1, _, by omega, by omega, by rw [hpn]; exact HP4, HR4⟩
          case measure =>
            rw [HR4.out.len, hlen]
            omega
        · have e1 : (x == 35) = false := by rw [hx]; rfl
          have e2 : (x == 46) = true := by rw [hx]; rfl
          clear hx
          go_wp2_with fail
          refine (HC.out _ HP2.out.prs).mono ?_
          rintro e w3 ⟨z, rfl, hp3, hk3⟩
          have HS3 := Lib.hid (show SelSem w3 (fun _ => False) (.iface 81 (.agg #[.string z])) (f m) ∧ ∀ b, (fun _ => False) b → w2.heap.size ≤ b from ⟨by rw [hfm]; exact selClass z w3, fun b hb => hb.elim⟩)
          have HP3 := Lib.hid (HP2.out.to hp3.out hk3.out)
          have HR3 := Lib.hid (HR2.out.keep hk3.out hBw)
          have hs2 := HP2.out.keep.below.size
          have hs3 := hk3.out.below.size
          clear HP2 c0 c1 hp3 hk3
          go_wp2_with (at_builtin; (refine wpList_append_own_at _ rfl _ _ 71 rfl w.heap.size 36 i0 .nilIface 1 16 Tryz.underlying71 hinf hz0 hz1 hz2 rfl (by decide) _ _ _ rfl (HR3.out.alloc _).own ⟨w3.heap.size, 0, none⟩ 1 1 [(.iface 81 (.agg #[.string z]))] rfl rfl (cell_one_new _ _ _) ?c2 ?c3 ?c4 ?c5 ?_))
          case c2 => intro u hu; simp at hu; subst hu; rfl
          case c3 => unfold maxLen; omega
          case c4 => omega
          case c5 => simp; omega
          intro v' w4 hown hgrow _ hat
          have hal : Below w3.heap.size w3 (w3.alloc (.cells #[(.iface 81 (.agg #[.string z]))] 36)) := (Below.refl _ _).alloc (Nat.le_refl _) _
          have hrow := RowS.snoc (HR3.out.alloc _) (HS3.out.1.below hal) (fun b hb => ⟨by have := HS3.out.2 b hb; omega, fun e => by
            have h1 := World.ownsRow.lt HR3.out.own b e.symm
            have h2 := HS3.out.2 b hb
            have h3 := World.ownsRow.lt HR2.out.own b e.symm
            omega⟩) hown hgrow (by simpa using hat)
          have HP4 := Lib.hid ((HP3.out.alloc _).grown (HR3.out.alloc _).own hBw rfl hgrow)
          have HR4 := Lib.hid hrow
          clear hown hgrow hat hal hrow HP3 HR3 HS3
          go_wp2
          go_roundw
          case rel => exact ⟨rfl, m + 1, _, by omega, by omega, by rw [hpn]; exact HP4, HR4⟩
          case measure =>
            rw [HR4.out.len, hlen]
            omega
        · have e1 : (x == 35) = false := by rw [hx]; rfl
          have e2 : (x == 46) = false := by rw [hx]; rfl
          have e3 : (x == 91) = true := by rw [hx]; rfl
          clear hx
          go_wp2_with fail
          refine (HC.out _ HP2.out.prs).mono ?_
          rintro e w3 ⟨z, rfl, hp3, hk3⟩
          have HS3 := Lib.hid (show SelSem w3 (fun _ => False) (.iface 85 (.agg z)) (f m) ∧ ∀ b, (fun _ => False) b → w2.heap.size ≤ b from ⟨by rw [hfm]; exact selAttr z w3, fun b hb => hb.elim⟩)
          have HP3 := Lib.hid (HP2.out.to hp3.out hk3.out)
          have HR3 := Lib.hid (HR2.out.keep hk3.out hBw)
          have hs2 := HP2.out.keep.below.size
          have hs3 := hk3.out.below.size
          clear HP2 c0 c1 hp3 hk3
          go_wp2_with (at_builtin; (refine wpList_append_own_at _ rfl _ _ 71 rfl w.heap.size 36 i0 .nilIface 1 16 Tryz.underlying71 hinf hz0 hz1 hz2 rfl (by decide) _ _ _ rfl (HR3.out.alloc _).own ⟨w3.heap.size, 0, none⟩ 1 1 [(.iface 85 (.agg z))] rfl rfl (cell_one_new _ _ _) ?c2 ?c3 ?c4 ?c5 ?_))
          case c2 => intro u hu; simp at hu; subst hu; rfl
          case c3 => unfold maxLen; omega
          case c4 => omega
          case c5 => simp; omega
          intro v' w4 hown hgrow _ hat
          have hal : Below w3.heap.size w3 (w3.alloc (.cells #[(.iface 85 (.agg z))] 36)) := (Below.refl _ _).alloc (Nat.le_refl _) _
          have hrow := RowS.snoc (HR3.out.alloc _) (HS3.out.1.below hal) (fun b hb => ⟨by have := HS3.out.2 b hb; omega, fun e => by
            have h1 := World.ownsRow.lt HR3.out.own b e.symm
            have h2 := HS3.out.2 b hb
            have h3 := World.ownsRow.lt HR2.out.own b e.symm
            omega⟩) hown hgrow (by simpa using hat)
          have HP4 := Lib.hid ((HP3.out.alloc _).grown (HR3.out.alloc _).own hBw rfl hgrow)
          have HR4 := Lib.hid hrow
          clear hown hgrow hat hal hrow HP3 HR3 HS3
          go_wp2
          go_roundw
          case rel => exact ⟨rfl, m + 1, _, by omega, by omega, by rw [hpn]; exact HP4, HR4⟩
          case measure =>
            rw [HR4.out.len, hlen]
            omega
        · have e1 : (x == 35) = false := by rw [hx]; rfl
          have e2 : (x == 46) = false := by rw [hx]; rfl
          have e3 : (x == 91) = false := by rw [hx]; rfl
          have e4 : (x == 58) = true := by rw [hx]; rfl
          clear hx
          go_wp2_with fail
          refine (HC.out _ HP2.out.prs).mono ?_
          rintro e w3 ⟨T, v, F, rfl, hp3, hk3, HS3⟩
          have HP3 := Lib.hid (HP2.out.to hp3.out hk3.out)
          have HR3 := Lib.hid (HR2.out.keep hk3.out hBw)
          have hs2 := HP2.out.keep.below.size
          have hs3 := hk3.out.below.size
          clear HP2 c0 c1 hp3 hk3
          go_wp2_with (at_builtin; (refine wpList_append_own_at _ rfl _ _ 71 rfl w.heap.size 36 i0 .nilIface 1 16 Tryz.underlying71 hinf hz0 hz1 hz2 rfl (by decide) _ _ _ rfl (HR3.out.alloc _).own ⟨w3.heap.size, 0, none⟩ 1 1 [(.iface T v)] rfl rfl (cell_one_new _ _ _) ?c2 ?c3 ?c4 ?c5 ?_))
          case c2 => intro u hu; simp at hu; subst hu; rfl
          case c3 => unfold maxLen; omega
          case c4 => omega
          case c5 => simp; omega
          intro v' w4 hown hgrow _ hat
          have hal : Below w3.heap.size w3 (w3.alloc (.cells #[(.iface T v)] 36)) := (Below.refl _ _).alloc (Nat.le_refl _) _
          have hrow := RowS.snoc (HR3.out.alloc _) (HS3.out.1.below hal) (fun b hb => ⟨by have := HS3.out.2 b hb; omega, fun e => by
            have h1 := World.ownsRow.lt HR3.out.own b e.symm
            have h2 := HS3.out.2 b hb
            have h3 := World.ownsRow.lt HR2.out.own b e.symm
            omega⟩) hown hgrow (by simpa using hat)
          have HP4 := Lib.hid ((HP3.out.alloc _).grown (HR3.out.alloc _).own hBw rfl hgrow)
          have HR4 := Lib.hid hrow
          clear hown hgrow hat hal hrow HP3 HR3 HS3
          go_wp2
          go_roundw
          case rel => exact ⟨rfl, m + 1, _, by omega, by omega, by rw [hpn]; exact HP4, HR4⟩
          case measure =>
            rw [HR4.out.len, hlen]
            omega
      · obtain rfl : m = N := by omega
        have hst := HST.out
        rw [hp] at hst
        by_cases h1 : m = 1
        · subst h1
          obtain ⟨A, c, rfl, hLA, hA, hcl⟩ := HR.out.cells (by omega)
          obtain ⟨F, hsem, hF⟩ := HR.out.sem 0 (by omega)
          obtain ⟨_, T, x9, K9, y9, hv9, _⟩ := id hsem
          have hc9 := hcl 0 (by omega)
          rw [hv9] at hc9 hsem
          have HSEM := Lib.hid (And.intro hsem hF)
          clear hcl hsem hF hv9
          rcases hst with hst | ⟨hst, hxs⟩
          · have g0 : decide ((p : Int) < (s.size : Int)) = false := by simp; omega
            have g0n : decide (p < s.size) = false := by simp; omega
            clear hst
            have c0 : wr.cell? ⟨B, 0, none⟩ = some (.string s) := World.objAt.cell HP.out.prs (i := 0) rfl
            have c1 : wr.cell? ⟨B, 1, none⟩ = some (.int .i64 ((p : Nat) : Int)) := World.objAt.cell HP.out.prs (i := 1) rfl
            have sz0 : Hid (wr.heap.size ≤ wr.heap.size) := Lib.hid (Nat.le_refl _)
            go_wp2
            go_quiet (fail)
            obtain ⟨w1, hwq⟩ : ∃ w1, (wr.drewN nq) = w1 := ⟨_, rfl⟩
            have HP1 := Lib.hid (show PK d w w1 B s p by rw [← hwq]; exact HP.out.drew nq)
            have HSEMw1 := Lib.hid (show SelSem w1 F _ (f 0) ∧ _ from ⟨HSEM.out.1.keep (fun b _ => by rw [← hwq, World.heap_drewN]), HSEM.out.2⟩)
            have hc9w1 : w1.cell? ⟨A, 0, none⟩ = some (.iface T x9) := (World.cell?_of_block (w := wr) (by rw [← hwq, World.heap_drewN])).trans hc9
            rw [hwq]
            clear hwq HP nq
            try clear c0 c1 f1
            have c0 : w1.cell? ⟨B, 0, none⟩ = some (.string s) := World.objAt.cell HP1.out.prs (i := 0) rfl
            have c1 : w1.cell? ⟨B, 1, none⟩ = some (.int .i64 ((p : Nat) : Int)) := World.objAt.cell HP1.out.prs (i := 1) rfl
            go_wp2
            rw [Exit.noGoto_ret]
            go_ret2
            exact ⟨_, _, F, rfl, Lib.hid (by rw [hp]; exact HP1.out.prs), Lib.hid HP1.out.keep, Lib.hid ⟨by rw [show psum f 1 = f 0 from triAdd_zero _]; exact HSEMw1.out.1, fun b hb => (HSEMw1.out.2 b hb).1⟩⟩
          · have g0 : decide ((p : Int) < (s.size : Int)) = true := by simp [hst]
            have g0n : decide (p < s.size) = true := by simp [hst]
            obtain ⟨x, hx⟩ : ∃ x, (s[p].toNat : Int) = x := ⟨_, rfl⟩
            rw [nx_lt hst, hx] at hxs
            have e1 : (x == 35) = false := by simp; omega
            have e2 : (x == 46) = false := by simp; omega
            have e3 : (x == 91) = false := by simp; omega
            have e4 : (x == 58) = false := by simp; omega
            clear hxs
            have c0 : wr.cell? ⟨B, 0, none⟩ = some (.string s) := World.objAt.cell HP.out.prs (i := 0) rfl
            have c1 : wr.cell? ⟨B, 1, none⟩ = some (.int .i64 ((p : Nat) : Int)) := World.objAt.cell HP.out.prs (i := 1) rfl
            have sz0 : Hid (wr.heap.size ≤ wr.heap.size) := Lib.hid (Nat.le_refl _)
            go_wp2
            go_quiet (fail)
            obtain ⟨w1, hwq⟩ : ∃ w1, (wr.drewN nq) = w1 := ⟨_, rfl⟩
            have HP1 := Lib.hid (show PK d w w1 B s p by rw [← hwq]; exact HP.out.drew nq)
            have HSEMw1 := Lib.hid (show SelSem w1 F _ (f 0) ∧ _ from ⟨HSEM.out.1.keep (fun b _ => by rw [← hwq, World.heap_drewN]), HSEM.out.2⟩)
            have hc9w1 : w1.cell? ⟨A, 0, none⟩ = some (.iface T x9) := (World.cell?_of_block (w := wr) (by rw [← hwq, World.heap_drewN])).trans hc9
            rw [hwq]
            clear hwq HP nq
            try clear c0 c1 f1
            have c0 : w1.cell? ⟨B, 0, none⟩ = some (.string s) := World.objAt.cell HP1.out.prs (i := 0) rfl
            have c1 : w1.cell? ⟨B, 1, none⟩ = some (.int .i64 ((p : Nat) : Int)) := World.objAt.cell HP1.out.prs (i := 1) rfl
            go_wp2
            go_quiet (fail)
            obtain ⟨w2, hwq⟩ : ∃ w2, (w1.drewN nq) = w2 := ⟨_, rfl⟩
            have HP2 := Lib.hid (show PK d w w2 B s p by rw [← hwq]; exact HP1.out.drew nq)
            have HSEMw2 := Lib.hid (show SelSem w2 F _ (f 0) ∧ _ from ⟨HSEMw1.out.1.keep (fun b _ => by rw [← hwq, World.heap_drewN]), HSEMw1.out.2⟩)
            have hc9w2 : w2.cell? ⟨A, 0, none⟩ = some (.iface T x9) := (World.cell?_of_block (w := w1) (by rw [← hwq, World.heap_drewN])).trans hc9w1
            rw [hwq]
            clear hwq HP1 nq
            try clear c0 c1 f1
            have c0 : w2.cell? ⟨B, 0, none⟩ = some (.string s) := World.objAt.cell HP2.out.prs (i := 0) rfl
            have c1 : w2.cell? ⟨B, 1, none⟩ = some (.int .i64 ((p : Nat) : Int)) := World.objAt.cell HP2.out.prs (i := 1) rfl
            go_wp2
            rw [Exit.noGoto_ret]
            go_ret2
            exact ⟨_, _, F, rfl, Lib.hid (by rw [hp]; exact HP2.out.prs), Lib.hid HP2.out.keep, Lib.hid ⟨by rw [show psum f 1 = f 0 from triAdd_zero _]; exact HSEMw2.out.1, fun b hb => (HSEMw2.out.2 b hb).1⟩⟩
        · obtain ⟨a, c, rfl⟩ := HR.out.isSlice
          have e10 : ((m : Int) == 1) = false := by simp; omega
          obtain ⟨F, hsem, hF⟩ := HR.out.compound (by omega) HF.out.1 HF.out.2
          have HSEM := Lib.hid (And.intro hsem hF)
          clear hsem hF
          rcases hst with hst | ⟨hst, hxs⟩
          · have g0 : decide ((p : Int) < (s.size : Int)) = false := by simp; omega
            have g0n : decide (p < s.size) = false := by simp; omega
            clear hst
            have c0 : wr.cell? ⟨B, 0, none⟩ = some (.string s) := World.objAt.cell HP.out.prs (i := 0) rfl
            have c1 : wr.cell? ⟨B, 1, none⟩ = some (.int .i64 ((p : Nat) : Int)) := World.objAt.cell HP.out.prs (i := 1) rfl
            have sz0 : Hid (wr.heap.size ≤ wr.heap.size) := Lib.hid (Nat.le_refl _)
            go_wp2
            go_quiet (fail)
            obtain ⟨w1, hwq⟩ : ∃ w1, (wr.drewN nq) = w1 := ⟨_, rfl⟩
            have HP1 := Lib.hid (show PK d w w1 B s p by rw [← hwq]; exact HP.out.drew nq)
            have HSEMw1 := Lib.hid (show SelSem w1 F _ (psum f m) ∧ _ from ⟨HSEM.out.1.keep (fun b _ => by rw [← hwq, World.heap_drewN]), HSEM.out.2⟩)
            rw [hwq]
            clear hwq HP nq
            try clear c0 c1 f1
            have c0 : w1.cell? ⟨B, 0, none⟩ = some (.string s) := World.objAt.cell HP1.out.prs (i := 0) rfl
            have c1 : w1.cell? ⟨B, 1, none⟩ = some (.int .i64 ((p : Nat) : Int)) := World.objAt.cell HP1.out.prs (i := 1) rfl
            go_wp2
            rw [Exit.noGoto_ret]
            go_ret2
            exact ⟨_, _, F, rfl, Lib.hid (by rw [hp]; exact HP1.out.prs), Lib.hid HP1.out.keep, Lib.hid HSEMw1.out⟩
          · have g0 : decide ((p : Int) < (s.size : Int)) = true := by simp [hst]
            have g0n : decide (p < s.size) = true := by simp [hst]
            obtain ⟨x, hx⟩ : ∃ x, (s[p].toNat : Int) = x := ⟨_, rfl⟩
            rw [nx_lt hst, hx] at hxs
            have e1 : (x == 35) = false := by simp; omega
            have e2 : (x == 46) = false := by simp; omega
            have e3 : (x == 91) = false := by simp; omega
            have e4 : (x == 58) = false := by simp; omega
            clear hxs
            have c0 : wr.cell? ⟨B, 0, none⟩ = some (.string s) := World.objAt.cell HP.out.prs (i := 0) rfl
            have c1 : wr.cell? ⟨B, 1, none⟩ = some (.int .i64 ((p : Nat) : Int)) := World.objAt.cell HP.out.prs (i := 1) rfl
            have sz0 : Hid (wr.heap.size ≤ wr.heap.size) := Lib.hid (Nat.le_refl _)
            go_wp2
            go_quiet (fail)
            obtain ⟨w1, hwq⟩ : ∃ w1, (wr.drewN nq) = w1 := ⟨_, rfl⟩
            have HP1 := Lib.hid (show PK d w w1 B s p by rw [← hwq]; exact HP.out.drew nq)
            have HSEMw1 := Lib.hid (show SelSem w1 F _ (psum f m) ∧ _ from ⟨HSEM.out.1.keep (fun b _ => by rw [← hwq, World.heap_drewN]), HSEM.out.2⟩)
            rw [hwq]
            clear hwq HP nq
            try clear c0 c1 f1
            have c0 : w1.cell? ⟨B, 0, none⟩ = some (.string s) := World.objAt.cell HP1.out.prs (i := 0) rfl
            have c1 : w1.cell? ⟨B, 1, none⟩ = some (.int .i64 ((p : Nat) : Int)) := World.objAt.cell HP1.out.prs (i := 1) rfl
            go_wp2
            go_quiet (fail)
            obtain ⟨w2, hwq⟩ : ∃ w2, (w1.drewN nq) = w2 := ⟨_, rfl⟩
            have HP2 := Lib.hid (show PK d w w2 B s p by rw [← hwq]; exact HP1.out.drew nq)
            have HSEMw2 := Lib.hid (show SelSem w2 F _ (psum f m) ∧ _ from ⟨HSEMw1.out.1.keep (fun b _ => by rw [← hwq, World.heap_drewN]), HSEMw1.out.2⟩)
            rw [hwq]
            clear hwq HP1 nq
            try clear c0 c1 f1
            have c0 : w2.cell? ⟨B, 0, none⟩ = some (.string s) := World.objAt.cell HP2.out.prs (i := 0) rfl
            have c1 : w2.cell? ⟨B, 1, none⟩ = some (.int .i64 ((p : Nat) : Int)) := World.objAt.cell HP2.out.prs (i := 1) rfl
            go_wp2
            rw [Exit.noGoto_ret]
            go_ret2
            exact ⟨_, _, F, rfl, Lib.hid (by rw [hp]; exact HP2.out.prs), Lib.hid HP2.out.keep, Lib.hid HSEMw2.out⟩
  · have g2 : decide ((q : Int) + 2 < (s.size : Int)) = false := by simp; omega
    go_quiet (fail)
    obtain ⟨wd, hwq⟩ : ∃ wd, (wc.drewN nq) = wd := ⟨_, rfl⟩
    have HPe := Lib.hid (show PK d w wd B s q by rw [← hwq]; exact HPd.out.drew nq)
    rw [hwq]
    clear hwq HPd nq c0 c1
    have HR0 := Lib.hid (RowS.nil wd w.heap.size f)
    have HPS := Lib.hid (show PK d w wd B s (pos 0) by rw [hpos]; exact HPe.out)
    clear HPe
    go_wp2
    go_step3
    go_wp2
    go_loopw [4, 7] (fun v p wr => p = .string ⟨#[]⟩ ∧ ∃ (m : Nat) (vs : List Value), 0 ≤ m ∧ m ≤ N ∧ Hid (PK d w wr B s (pos m)) ∧ Hid (RowS wr w.heap.size v m vs f)) (fun v _ _ => N - sliceLen v)
    case atStart => exact ⟨rfl, _, _, Nat.le_refl _, hN0, HPS, HR0⟩
    case round =>
      obtain ⟨rfl, m, vs, hm0, hmN, HP, HR⟩ := hrel
      have hlen := HR.out.len
      obtain ⟨p, hp⟩ : ∃ p, pos m = p := ⟨_, rfl⟩
      rw [hp] at HP
      by_cases hlt : m < N
      · obtain ⟨hps, HC⟩ := HPART.out m hm0 hlt
        rw [hp] at hps HC
        obtain ⟨pn, hpn⟩ : ∃ pn, pos (m + 1) = pn := ⟨_, rfl⟩
        rw [hpn] at HC
        have g0 : decide ((p : Int) < (s.size : Int)) = true := by simp [hps]
        have g0n : decide (p < s.size) = true := by simp [hps]
        obtain ⟨x, hxs⟩ : ∃ x, (s[p].toNat : Int) = x := ⟨_, rfl⟩
        have hxn : nx s p = x := by rw [nx_lt hps, hxs]
        unfold PartCalls at HC
        rw [hxn] at HC
        clear hxn
        have c0 : wr.cell? ⟨B, 0, none⟩ = some (.string s) := World.objAt.cell HP.out.prs (i := 0) rfl
        have c1 : wr.cell? ⟨B, 1, none⟩ = some (.int .i64 ((p : Nat) : Int)) := World.objAt.cell HP.out.prs (i := 1) rfl
        go_wp2
        go_quiet (fail)
        obtain ⟨w1, hwq⟩ : ∃ w1, (wr.drewN nq) = w1 := ⟨_, rfl⟩
        have HP1 := Lib.hid (show PK d w w1 B s p by rw [← hwq]; exact HP.out.drew nq)
        have HR1 := Lib.hid (show RowS w1 w.heap.size u4 m vs f by rw [← hwq]; exact HR.out.drew nq)
        rw [hwq]
        clear hwq HP nq HR
        try clear c0 c1 f1
        have c0 : w1.cell? ⟨B, 0, none⟩ = some (.string s) := World.objAt.cell HP1.out.prs (i := 0) rfl
        have c1 : w1.cell? ⟨B, 1, none⟩ = some (.int .i64 ((p : Nat) : Int)) := World.objAt.cell HP1.out.prs (i := 1) rfl
        go_wp2
        go_quiet (fail)
        obtain ⟨w2, hwq⟩ : ∃ w2, (w1.drewN nq) = w2 := ⟨_, rfl⟩
        have HP2 := Lib.hid (show PK d w w2 B s p by rw [← hwq]; exact HP1.out.drew nq)
        have HR2 := Lib.hid (show RowS w2 w.heap.size u4 m vs f by rw [← hwq]; exact HR1.out.drew nq)
        rw [hwq]
        clear hwq HP1 nq HR1
        try clear c0 c1 f1
        have c0 : w2.cell? ⟨B, 0, none⟩ = some (.string s) := World.objAt.cell HP2.out.prs (i := 0) rfl
        have c1 : w2.cell? ⟨B, 1, none⟩ = some (.int .i64 ((p : Nat) : Int)) := World.objAt.cell HP2.out.prs (i := 1) rfl
        rcases HC with ⟨hx, hfm, HC⟩ | ⟨hx, hfm, HC⟩ | ⟨hx, hfm, HC⟩ | ⟨hx, HC⟩
        all_goals replace HC := Lib.hid HC
        · have e1 : (x == 35) = true := by rw [hx]; rfl
          clear hx
          go_wp2_with fail
          refine (HC.out _ HP2.out.prs).mono ?_
          rintro e w3 ⟨z, rfl, hp3, hk3⟩
          have HS3 := Lib.hid (show SelSem w3 (fun _ => False) (.iface 77 (.agg #[.string z])) (f m) ∧ ∀ b, (fun _ => False) b → w2.heap.size ≤ b from ⟨by rw [hfm]; exact selId z w3, fun b hb => hb.elim⟩)
          have HP3 := Lib.hid (HP2.out.to hp3.out hk3.out)
          have HR3 := Lib.hid (HR2.out.keep hk3.out hBw)
          have hs2 := HP2.out.keep.below.size
          have hs3 := hk3.out.below.size
          clear HP2 c0 c1 hp3 hk3
          go_wp2_with (at_builtin; (refine wpList_append_own_at _ rfl _ _ 71 rfl w.heap.size 36 i0 .nilIface 1 16 Tryz.underlying71 hinf hz0 hz1 hz2 rfl (by decide) _ _ _ rfl (HR3.out.alloc _).own ⟨w3.heap.size, 0, none⟩ 1 1 [(.iface 77 (.agg #[.string z]))] rfl rfl (cell_one_new _ _ _) ?c2 ?c3 ?c4 ?c5 ?_))
          case c2 => intro u hu; simp at hu; subst hu; rfl
          case c3 => unfold maxLen; omega
          case c4 => omega
          case c5 => simp; omega
          intro v' w4 hown hgrow _ hat
          have hal : Below w3.heap.size w3 (w3.alloc (.cells #[(.iface 77 (.agg #[.string z]))] 36)) := (Below.refl _ _).alloc (Nat.le_refl _) _
          have hrow := RowS.snoc (HR3.out.alloc _) (HS3.out.1.below hal) (fun b hb => ⟨by have := HS3.out.2 b hb; omega, fun e => by
            have h1 := World.ownsRow.lt HR3.out.own b e.symm
            have h2 := HS3.out.2 b hb
            have h3 := World.ownsRow.lt HR2.out.own b e.symm
            omega⟩) hown hgrow (by simpa using hat)
          have HP4 := Lib.hid ((HP3.out.alloc _).grown (HR3.out.alloc _).own hBw rfl hgrow)
          have HR4 := Lib.hid hrow
          clear hown hgrow hat hal hrow HP3 HR3 HS3
          go_wp2
          go_roundw
          case rel => exact ⟨rfl, m + 1, _, by omega, by omega, by rw [hpn]; exact HP4, HR4⟩
          case measure =>
            rw [HR4.out.len, hlen]
            omega
        · have e1 : (x == 35) = false := by rw [hx]; rfl
          have e2 : (x == 46) = true := by rw [hx]; rfl
          clear hx
          go_wp2_with fail
          refine (HC.out _ HP2.out.prs).mono ?_
          rintro e w3 ⟨z, rfl, hp3, hk3⟩
          have HS3 := Lib.hid (show SelSem w3 (fun _ => False) (.iface 81 (.agg #[.string z])) (f m) ∧ ∀ b, (fun _ => False) b → w2.heap.size ≤ b from ⟨by rw [hfm]; exact selClass z w3, fun b hb => hb.elim⟩)
          have HP3 := Lib.hid (HP2.out.to hp3.out hk3.out)
          have HR3 := Lib.hid (HR2.out.keep hk3.out hBw)
          have hs2 := HP2.out.keep.below.size
          have hs3 := hk3.out.below.size
          clear HP2 c0 c1 hp3 hk3
          go_wp2_with (at_builtin; (refine wpList_append_own_at _ rfl _ _ 71 rfl w.heap.size 36 i0 .nilIface 1 16 Tryz.underlying71 hinf hz0 hz1 hz2 rfl (by decide) _ _ _ rfl (HR3.out.alloc _).own ⟨w3.heap.size, 0, none⟩ 1 1 [(.iface 81 (.agg #[.string z]))] rfl rfl (cell_one_new _ _ _) ?c2 ?c3 ?c4 ?c5 ?_))
          case c2 => intro u hu; simp at hu; subst hu; rfl
          case c3 => unfold maxLen; omega
          case c4 => omega
          case c5 => simp; omega
          intro v' w4 hown hgrow _ hat
          have hal : Below w3.heap.size w3 (w3.alloc (.cells #[(.iface 81 (.agg #[.string z]))] 36)) := (Below.refl _ _).alloc (Nat.le_refl _) _
          have hrow := RowS.snoc (HR3.out.alloc _) (HS3.out.1.below hal) (fun b hb => ⟨by have := HS3.out.2 b hb; omega, fun e => by
            have h1 := World.ownsRow.lt HR3.out.own b e.symm
            have h2 := HS3.out.2 b hb
            have h3 := World.ownsRow.lt HR2.out.own b e.symm
            omega⟩) hown hgrow (by simpa using hat)
          have HP4 := Lib.hid ((HP3.out.alloc _).grown (HR3.out.alloc _).own hBw rfl hgrow)
          have HR4 := Lib.hid hrow
          clear hown hgrow hat hal hrow HP3 HR3 HS3
          go_wp2
          go_roundw
          case rel => exact ⟨rfl, m + 1, _, by omega, by omega, by rw [hpn]; exact HP4, HR4⟩
          case measure =>
            rw [HR4.out.len, hlen]
            omega
        · have e1 : (x == 35) = false := by rw [hx]; rfl
          have e2 : (x == 46) = false := by rw [hx]; rfl
          have e3 : (x == 91) = true := by rw [hx]; rfl
          clear hx
          go_wp2_with fail
          refine (HC.out _ HP2.out.prs).mono ?_
          rintro e w3 ⟨z, rfl, hp3, hk3⟩
          have HS3 := Lib.hid (show SelSem w3 (fun _ => False) (.iface 85 (.agg z)) (f m) ∧ ∀ b, (fun _ => False) b → w2.heap.size ≤ b from ⟨by rw [hfm]; exact selAttr z w3, fun b hb => hb.elim⟩)
          have HP3 := Lib.hid (HP2.out.to hp3.out hk3.out)
          have HR3 := Lib.hid (HR2.out.keep hk3.out hBw)
          have hs2 := HP2.out.keep.below.size
          have hs3 := hk3.out.below.size
          clear HP2 c0 c1 hp3 hk3
          go_wp2_with (at_builtin; (refine wpList_append_own_at _ rfl _ _ 71 rfl w.heap.size 36 i0 .nilIface 1 16 Tryz.underlying71 hinf hz0 hz1 hz2 rfl (by decide) _ _ _ rfl (HR3.out.alloc _).own ⟨w3.heap.size, 0, none⟩ 1 1 [(.iface 85 (.agg z))] rfl rfl (cell_one_new _ _ _) ?c2 ?c3 ?c4 ?c5 ?_))
          case c2 => intro u hu; simp at hu; subst hu; rfl
          case c3 => unfold maxLen; omega
          case c4 => omega
          case c5 => simp; omega
          intro v' w4 hown hgrow _ hat
          have hal : Below w3.heap.size w3 (w3.alloc (.cells #[(.iface 85 (.agg z))] 36)) := (Below.refl _ _).alloc (Nat.le_refl _) _
          have hrow := RowS.snoc (HR3.out.alloc _) (HS3.out.1.below hal) (fun b hb => ⟨by have := HS3.out.2 b hb; omega, fun e => by
            have h1 := World.ownsRow.lt HR3.out.own b e.symm
            have h2 := HS3.out.2 b hb
            have h3 := World.ownsRow.lt HR2.out.own b e.symm
            omega⟩) hown hgrow (by simpa using hat)
          have HP4 := Lib.hid ((HP3.out.alloc _).grown (HR3.out.alloc _).own hBw rfl hgrow)
          have HR4 := Lib.hid hrow
          clear hown hgrow hat hal hrow HP3 HR3 HS3
          go_wp2
          go_roundw
          case rel => exact ⟨rfl, m + 1, _, by omega, by omega, by rw [hpn]; exact HP4, HR4⟩
          case measure =>
            rw [HR4.out.len, hlen]
            omega
        · have e1 : (x == 35) = false := by rw [hx]; rfl
          have e2 : (x == 46) = false := by rw [hx]; rfl
          have e3 : (x == 91) = false := by rw [hx]; rfl
          have e4 : (x == 58) = true := by rw [hx]; rfl
          clear hx
          go_wp2_with fail
          refine (HC.out _ HP2.out.prs).mono ?_
          rintro e w3 ⟨T, v, F, rfl, hp3, hk3, HS3⟩
          have HP3 := Lib.hid (HP2.out.to hp3.out hk3.out)
          have HR3 := Lib.hid (HR2.out.keep hk3.out hBw)
          have hs2 := HP2.out.keep.below.size
          have hs3 := hk3.out.below.size
          clear HP2 c0 c1 hp3 hk3
          go_wp2_with (at_builtin; (refine wpList_append_own_at _ rfl _ _ 71 rfl w.heap.size 36 i0 .nilIface 1 16 Tryz.underlying71 hinf hz0 hz1 hz2 rfl (by decide) _ _ _ rfl (HR3.out.alloc _).own ⟨w3.heap.size, 0, none⟩ 1 1 [(.iface T v)] rfl rfl (cell_one_new _ _ _) ?c2 ?c3 ?c4 ?c5 ?_))
          case c2 => intro u hu; simp at hu; subst hu; rfl
          case c3 => unfold maxLen; omega
          case c4 => omega
          case c5 => simp; omega
          intro v' w4 hown hgrow _ hat
          have hal : Below w3.heap.size w3 (w3.alloc (.cells #[(.iface T v)] 36)) := (Below.refl _ _).alloc (Nat.le_refl _) _
          have hrow := RowS.snoc (HR3.out.alloc _) (HS3.out.1.below hal) (fun b hb => ⟨by have := HS3.out.2 b hb; omega, fun e => by
            have h1 := World.ownsRow.lt HR3.out.own b e.symm
            have h2 := HS3.out.2 b hb
            have h3 := World.ownsRow.lt HR2.out.own b e.symm
            omega⟩) hown hgrow (by simpa using hat)
          have HP4 := Lib.hid ((HP3.out.alloc _).grown (HR3.out.alloc _).own hBw rfl hgrow)
          have HR4 := Lib.hid hrow
          clear hown hgrow hat hal hrow HP3 HR3 HS3
          go_wp2
          go_roundw
          case rel => exact ⟨rfl, m + 1, _, by omega, by omega, by rw [hpn]; exact HP4, HR4⟩
          case measure =>
            rw [HR4.out.len, hlen]
            omega
      · obtain rfl : m = N := by omega
        have hst := HST.out
        rw [hp] at hst
        by_cases h1 : m = 1
        · subst h1
          obtain ⟨A, c, rfl, hLA, hA, hcl⟩ := HR.out.cells (by omega)
          obtain ⟨F, hsem, hF⟩ := HR.out.sem 0 (by omega)
          obtain ⟨_, T, x9, K9, y9, hv9, _⟩ := id hsem
          have hc9 := hcl 0 (by omega)
          rw [hv9] at hc9 hsem
          have HSEM := Lib.hid (And.intro hsem hF)
          clear hcl hsem hF hv9
          rcases hst with hst | ⟨hst, hxs⟩
          · have g0 : decide ((p : Int) < (s.size : Int)) = false := by simp; omega
            have g0n : decide (p < s.size) = false := by simp; omega
            clear hst
            have c0 : wr.cell? ⟨B, 0, none⟩ = some (.string s) := World.objAt.cell HP.out.prs (i := 0) rfl
            have c1 : wr.cell? ⟨B, 1, none⟩ = some (.int .i64 ((p : Nat) : Int)) := World.objAt.cell HP.out.prs (i := 1) rfl
            have sz0 : Hid (wr.heap.size ≤ wr.heap.size) := Lib.hid (Nat.le_refl _)
            go_wp2
            go_quiet (fail)
            obtain ⟨w1, hwq⟩ : ∃ w1, (wr.drewN nq) = w1 := ⟨_, rfl⟩
            have HP1 := Lib.hid (show PK d w w1 B s p by rw [← hwq]; exact HP.out.drew nq)
            have HSEMw1 := Lib.hid (show SelSem w1 F _ (f 0) ∧ _ from ⟨HSEM.out.1.keep (fun b _ => by rw [← hwq, World.heap_drewN]), HSEM.out.2⟩)
            have hc9w1 : w1.cell? ⟨A, 0, none⟩ = some (.iface T x9) := (World.cell?_of_block (w := wr) (by rw [← hwq, World.heap_drewN])).trans hc9
            rw [hwq]
            clear hwq HP nq
            try clear c0 c1 f1
            have c0 : w1.cell? ⟨B, 0, none⟩ = some (.string s) := World.objAt.cell HP1.out.prs (i := 0) rfl
            have c1 : w1.cell? ⟨B, 1, none⟩ = some (.int .i64 ((p : Nat) : Int)) := World.objAt.cell HP1.out.prs (i := 1) rfl
            go_wp2
            rw [Exit.noGoto_ret]
            go_ret2
            exact ⟨_, _, F, rfl, Lib.hid (by rw [hp]; exact HP1.out.prs), Lib.hid HP1.out.keep, Lib.hid ⟨by rw [show psum f 1 = f 0 from triAdd_zero _]; exact HSEMw1.out.1, fun b hb => (HSEMw1.out.2 b hb).1⟩⟩
          · have g0 : decide ((p : Int) < (s.size : Int)) = true := by simp [hst]
            have g0n : decide (p < s.size) = true := by simp [hst]
            obtain ⟨x, hx⟩ : ∃ x, (s[p].toNat : Int) = x := ⟨_, rfl⟩
            rw [nx_lt hst, hx] at hxs
            have e1 : (x == 35) = false := by simp; omega
            have e2 : (x == 46) = false := by simp; omega
            have e3 : (x == 91) = false := by simp; omega
            have e4 : (x == 58) = false := by simp; omega
            clear hxs
            have c0 : wr.cell? ⟨B, 0, none⟩ = some (.string s) := World.objAt.cell HP.out.prs (i := 0) rfl
            have c1 : wr.cell? ⟨B, 1, none⟩ = some (.int .i64 ((p : Nat) : Int)) := World.objAt.cell HP.out.prs (i := 1) rfl
            have sz0 : Hid (wr.heap.size ≤ wr.heap.size) := Lib.hid (Nat.le_refl _)
            go_wp2
            go_quiet (fail)
            obtain ⟨w1, hwq⟩ : ∃ w1, (wr.drewN nq) = w1 := ⟨_, rfl⟩
            have HP1 := Lib.hid (show PK d w w1 B s p by rw [← hwq]; exact HP.out.drew nq)
            have HSEMw1 := Lib.hid (show SelSem w1 F _ (f 0) ∧ _ from ⟨HSEM.out.1.keep (fun b _ => by rw [← hwq, World.heap_drewN]), HSEM.out.2⟩)
            have hc9w1 : w1.cell? ⟨A, 0, none⟩ = some (.iface T x9) := (World.cell?_of_block (w := wr) (by rw [← hwq, World.heap_drewN])).trans hc9
            rw [hwq]
            clear hwq HP nq
            try clear c0 c1 f1
            have c0 : w1.cell? ⟨B, 0, none⟩ = some (.string s) := World.objAt.cell HP1.out.prs (i := 0) rfl
            have c1 : w1.cell? ⟨B, 1, none⟩ = some (.int .i64 ((p : Nat) : Int)) := World.objAt.cell HP1.out.prs (i := 1) rfl
            go_wp2
            go_quiet (fail)
            obtain ⟨w2, hwq⟩ : ∃ w2, (w1.drewN nq) = w2 := ⟨_, rfl⟩
            have HP2 := Lib.hid (show PK d w w2 B s p by rw [← hwq]; exact HP1.out.drew nq)
            have HSEMw2 := Lib.hid (show SelSem w2 F _ (f 0) ∧ _ from ⟨HSEMw1.out.1.keep (fun b _ => by rw [← hwq, World.heap_drewN]), HSEMw1.out.2⟩)
            have hc9w2 : w2.cell? ⟨A, 0, none⟩ = some (.iface T x9) := (World.cell?_of_block (w := w1) (by rw [← hwq, World.heap_drewN])).trans hc9w1
            rw [hwq]
            clear hwq HP1 nq
            try clear c0 c1 f1
            have c0 : w2.cell? ⟨B, 0, none⟩ = some (.string s) := World.objAt.cell HP2.out.prs (i := 0) rfl
            have c1 : w2.cell? ⟨B, 1, none⟩ = some (.int .i64 ((p : Nat) : Int)) := World.objAt.cell HP2.out.prs (i := 1) rfl
            go_wp2
            rw [Exit.noGoto_ret]
            go_ret2
            exact ⟨_, _, F, rfl, Lib.hid (by rw [hp]; exact HP2.out.prs), Lib.hid HP2.out.keep, Lib.hid ⟨by rw [show psum f 1 = f 0 from triAdd_zero _]; exact HSEMw2.out.1, fun b hb => (HSEMw2.out.2 b hb).1⟩⟩
        · obtain ⟨a, c, rfl⟩ := HR.out.isSlice
          have e10 : ((m : Int) == 1) = false := by simp; omega
          obtain ⟨F, hsem, hF⟩ := HR.out.compound (by omega) HF.out.1 HF.out.2
          have HSEM := Lib.hid (And.intro hsem hF)
          clear hsem hF
          rcases hst with hst | ⟨hst, hxs⟩
          · have g0 : decide ((p : Int) < (s.size : Int)) = false := by simp; omega
            have g0n : decide (p < s.size) = false := by simp; omega
            clear hst
            have c0 : wr.cell? ⟨B, 0, none⟩ = some (.string s) := World.objAt.cell HP.out.prs (i := 0) rfl
            have c1 : wr.cell? ⟨B, 1, none⟩ = some (.int .i64 ((p : Nat) : Int)) := World.objAt.cell HP.out.prs (i := 1) rfl
            have sz0 : Hid (wr.heap.size ≤ wr.heap.size) := Lib.hid (Nat.le_refl _)
            go_wp2
            go_quiet (fail)
            obtain ⟨w1, hwq⟩ : ∃ w1, (wr.drewN nq) = w1 := ⟨_, rfl⟩
            have HP1 := Lib.hid (show PK d w w1 B s p by rw [← hwq]; exact HP.out.drew nq)
            have HSEMw1 := Lib.hid (show SelSem w1 F _ (psum f m) ∧ _ from ⟨HSEM.out.1.keep (fun b _ => by rw [← hwq, World.heap_drewN]), HSEM.out.2⟩)
            rw [hwq]
            clear hwq HP nq
            try clear c0 c1 f1
            have c0 : w1.cell? ⟨B, 0, none⟩ = some (.string s) := World.objAt.cell HP1.out.prs (i := 0) rfl
            have c1 : w1.cell? ⟨B, 1, none⟩ = some (.int .i64 ((p : Nat) : Int)) := World.objAt.cell HP1.out.prs (i := 1) rfl
            go_wp2
            rw [Exit.noGoto_ret]
            go_ret2
            exact ⟨_, _, F, rfl, Lib.hid (by rw [hp]; exact HP1.out.prs), Lib.hid HP1.out.keep, Lib.hid HSEMw1.out⟩
          · have g0 : decide ((p : Int) < (s.size : Int)) = true := by simp [hst]
            have g0n : decide (p < s.size) = true := by simp [hst]
            obtain ⟨x, hx⟩ : ∃ x, (s[p].toNat : Int) = x := ⟨_, rfl⟩
            rw [nx_lt hst, hx] at hxs
            have e1 : (x == 35) = false := by simp; omega
            have e2 : (x == 46) = false := by simp; omega
            have e3 : (x == 91) = false := by simp; omega
            have e4 : (x == 58) = false := by simp; omega
            clear hxs
            have c0 : wr.cell? ⟨B, 0, none⟩ = some (.string s) := World.objAt.cell HP.out.prs (i := 0) rfl
            have c1 : wr.cell? ⟨B, 1, none⟩ = some (.int .i64 ((p : Nat) : Int)) := World.objAt.cell HP.out.prs (i := 1) rfl
            have sz0 : Hid (wr.heap.size ≤ wr.heap.size) := Lib.hid (Nat.le_refl _)
            go_wp2
            go_quiet (fail)
            obtain ⟨w1, hwq⟩ : ∃ w1, (wr.drewN nq) = w1 := ⟨_, rfl⟩
            have HP1 := Lib.hid (show PK d w w1 B s p by rw [← hwq]; exact HP.out.drew nq)
            have HSEMw1 := Lib.hid (show SelSem w1 F _ (psum f m) ∧ _ from ⟨HSEM.out.1.keep (fun b _ => by rw [← hwq, World.heap_drewN]), HSEM.out.2⟩)
            rw [hwq]
            clear hwq HP nq
            try clear c0 c1 f1
            have c0 : w1.cell? ⟨B, 0, none⟩ = some (.string s) := World.objAt.cell HP1.out.prs (i := 0) rfl
            have c1 : w1.cell? ⟨B, 1, none⟩ = some (.int .i64 ((p : Nat) : Int)) := World.objAt.cell HP1.out.prs (i := 1) rfl
            go_wp2
            go_quiet (fail)
            obtain ⟨w2, hwq⟩ : ∃ w2, (w1.drewN nq) = w2 := ⟨_, rfl⟩
            have HP2 := Lib.hid (show PK d w w2 B s p by rw [← hwq]; exact HP1.out.drew nq)
            have HSEMw2 := Lib.hid (show SelSem w2 F _ (psum f m) ∧ _ from ⟨HSEMw1.out.1.keep (fun b _ => by rw [← hwq, World.heap_drewN]), HSEMw1.out.2⟩)
            rw [hwq]
            clear hwq HP1 nq
            try clear c0 c1 f1
            have c0 : w2.cell? ⟨B, 0, none⟩ = some (.string s) := World.objAt.cell HP2.out.prs (i := 0) rfl
            have c1 : w2.cell? ⟨B, 1, none⟩ = some (.int .i64 ((p : Nat) : Int)) := World.objAt.cell HP2.out.prs (i := 1) rfl
            go_wp2
            rw [Exit.noGoto_ret]
            go_ret2
            exact ⟨_, _, F, rfl, Lib.hid (by rw [hp]; exact HP2.out.prs), Lib.hid HP2.out.keep, Lib.hid HSEMw2.out⟩
end Go.Proofs.YtoanofdomhnafaaGreatDoor
