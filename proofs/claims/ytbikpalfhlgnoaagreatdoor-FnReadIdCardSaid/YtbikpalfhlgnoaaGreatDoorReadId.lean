/- cascadia.ReadID, impl.ReadId. -/
import Derived.Test.YtbikpalfhlgnoaaGreatDoorTakeId
import Derived.Deep.RegionWith
namespace Go.Proofs.YtbikpalfhlgnoaaGreatDoor
open Go.RowKit
set_option linter.unusedVariables false
set_option linter.unusedSimpArgs false

def CasIdPost (s : ByteArray) (w : World) (e : Ending) (w' : World) : Prop :=
  Below w.heap.size w w' ∧ ((NoId s ∧ ∃ v k t q, e = .returned (.tuple #[v, .int .i64 k, .iface t q])) ∨
    ∃ out j, 0 < s.size ∧ nx s 0 = 35 ∧ pn s 1 ByteArray.empty = some (out, j) ∧ out ≠ ByteArray.empty ∧ j ≤ s.size ∧ e = .returned (.tuple #[.iface 54 (.agg #[.string out]), .int .i64 (j : Int), .nilIface]))

def ReadIdPost (s : ByteArray) (w : World) (e : Ending) (w' : World) : Prop :=
  Below w.heap.size w w' ∧ ((NoId s ∧ e = .returned (.tuple #[selNo, .int .i64 0, .bool false])) ∨
    ∃ out j, 0 < s.size ∧ nx s 0 = 35 ∧ pn s 1 ByteArray.empty = some (out, j) ∧ out ≠ ByteArray.empty ∧ j ≤ s.size ∧ e = .returned (.tuple #[selId out 1, .int .i64 (j : Int), .bool true]))

set_option maxRecDepth 100000 in
set_option maxHeartbeats 1000000 in
theorem casId_any (s : ByteArray) (w : World) (hs : s.size ≤ 4000) : Calls Tryz.prog 9 #[.string s] w (CasIdPost s w) := by
  have hb0 : Below w.heap.size w (w.alloc (.cells #[.string s, .int .i64 0, .int .i64 0, .bool false] 52)) := (Below.refl _ _).alloc (Nat.le_refl _) _
  have hr0 := prs_new w s
  obtain ⟨w0, hw0⟩ : ∃ w0, w.alloc (.cells #[.string s, .int .i64 0, .int .i64 0, .bool false] 52) = w0 := ⟨_, rfl⟩
  rw [hw0] at hb0 hr0
  have HP := Lib.hid (parseId_any s w.heap.size w0 hs hr0)
  have HB := Lib.hid hb0
  clear hb0 hr0
  go_enter Tryz.func9, Tryz.ntmps9
  go_wp2_with fail
  refine HP.out.mono ?_
  rintro e w1 ⟨hb, ⟨hf, ⟨z, t, q, rfl⟩, k, hr⟩ | ⟨out, j, h0, h35, ho, hne, hj, rfl, hr⟩⟩
  · have hr2 : Prs (w1.alloc (.cells #[.string z] 54)) w.heap.size s k := World.objAt.below hr ((Below.refl w1.heap.size w1).alloc (Nat.le_refl _) _) (World.objAt.lt hr)
    have ho2 := objAt_alloc_new w1 #[.string z] 54
    have hb2 : Below w.heap.size w (w1.alloc (.cells #[.string z] 54)) := (HB.out.trans hb).alloc (HB.out.trans hb).size _
    obtain ⟨w2, hw2⟩ : ∃ w2, w1.alloc (.cells #[.string z] 54) = w2 := ⟨_, rfl⟩
    rw [hw2] at hr2 ho2 hb2
    have c1 : w2.cell? ⟨w.heap.size, 1, none⟩ = some (.int .i64 (k : Int)) := World.objAt.cell hr2 (i := 1) rfl
    have o1 : w2.cell? ⟨w1.heap.size, 0, none⟩ = some (.string z) := World.objAt.cell ho2 (i := 0) rfl
    have HE := Lib.hid (And.intro hf hb2)
    clear hf hb hr hr2 ho2 hb2 hw0 HB HP
    go_wp2
    go_quiet (fail)
    go_wp2
    go_ret3
    exact ⟨below_drewN HE.out.2 _, .inl ⟨HE.out.1, _, _, _, _, rfl⟩⟩
  · have hr2 : Prs (w1.alloc (.cells #[.string out] 54)) w.heap.size s j := World.objAt.below hr ((Below.refl w1.heap.size w1).alloc (Nat.le_refl _) _) (World.objAt.lt hr)
    have ho2 := objAt_alloc_new w1 #[.string out] 54
    have hb2 : Below w.heap.size w (w1.alloc (.cells #[.string out] 54)) := (HB.out.trans hb).alloc (HB.out.trans hb).size _
    obtain ⟨w2, hw2⟩ : ∃ w2, w1.alloc (.cells #[.string out] 54) = w2 := ⟨_, rfl⟩
    rw [hw2] at hr2 ho2 hb2
    have c1 : w2.cell? ⟨w.heap.size, 1, none⟩ = some (.int .i64 (j : Int)) := World.objAt.cell hr2 (i := 1) rfl
    have o1 : w2.cell? ⟨w1.heap.size, 0, none⟩ = some (.string out) := World.objAt.cell ho2 (i := 0) rfl
    have HE := Lib.hid (And.intro (And.intro h0 h35) (And.intro (And.intro ho hne) hb2))
    clear h0 h35 ho hne hb hr hr2 ho2 hb2 hw0 HB HP
    go_wp2
    go_quiet (fail)
    go_wp2
    go_ret3
    exact ⟨below_drewN HE.out.2.2 _, .inr ⟨out, j, HE.out.1.1, HE.out.1.2, HE.out.2.1.1, HE.out.2.1.2, hj, rfl⟩⟩

theorem below_store8 {B R : Nat} {w x : World} (h : Below B w x) (hR : B ≤ R) (v0 v1 v2 v3 v4 v5 v6 v7 : Value) :
    Below B w ((((((((x.setCell ⟨R, 0, none⟩ v0).setCell ⟨R, 1, none⟩ v1).setCell ⟨R, 2, none⟩ v2).setCell ⟨R, 3, none⟩ v3).setCell ⟨R, 4, none⟩ v4).setCell ⟨R, 5, none⟩ v5).setCell ⟨R, 6, none⟩ v6).setCell ⟨R, 7, none⟩ v7) := by
  have hh : ∀ {x : World} (h : Below B w x) (o : Nat) (v : Value), Below B w (x.setCell ⟨R, o, none⟩ v) := fun h o v => Below.setCell h hR v
  exact hh (hh (hh (hh (hh (hh (hh (hh h 0 v0) 1 v1) 2 v2) 3 v3) 4 v4) 5 v5) 6 v6) 7 v7

set_option maxRecDepth 100000 in
set_option maxHeartbeats 2000000 in
theorem implReadId_any (s : ByteArray) (w : World) (hs : s.size ≤ 4000) : Calls Tryz.prog 5 #[.string s] w (ReadIdPost s w) := by
  have hb0 : Below w.heap.size w (w.alloc (.cells #[.int .i64 0, .int .i64 0, .string ⟨#[]⟩, .string ⟨#[]⟩, .int .i64 0, .int .i64 0, .int .i64 0, .int .i64 0] 23)) := (Below.refl _ _).alloc (Nat.le_refl _) _
  have ho0 := objAt_alloc_new w #[.int .i64 0, .int .i64 0, .string ⟨#[]⟩, .string ⟨#[]⟩, .int .i64 0, .int .i64 0, .int .i64 0, .int .i64 0] 23
  obtain ⟨w0, hw0⟩ : ∃ w0, w.alloc (.cells #[.int .i64 0, .int .i64 0, .string ⟨#[]⟩, .string ⟨#[]⟩, .int .i64 0, .int .i64 0, .int .i64 0, .int .i64 0] 23) = w0 := ⟨_, rfl⟩
  rw [hw0] at hb0 ho0
  have HP := Lib.hid (casId_any s w0 hs)
  have HB := Lib.hid (And.intro hb0 ho0)
  clear hb0 ho0
  go_enter Tryz.func5, Tryz.ntmps5
  go_wp2_with fail
  refine HP.out.mono ?_
  rintro e w1 ⟨hb, ⟨hf, v, k, t, q, rfl⟩ | ⟨out, j, h0, h35, ho, hne, hj, rfl⟩⟩
  · clear hw0
    go_wp2_with fail
    refine (read_no v k t q w1).mono ?_
    rintro e w2 ⟨rfl, hb2⟩
    have hb3 := hb.trans (hb2.mono hb.size)
    have ho2 : World.objAt w2 w.heap.size _ 23 := World.objAt.below HB.out.2 hb3 (World.objAt.lt HB.out.2)
    have hfin := HB.out.1.trans (hb3.mono HB.out.1.size)
    have k0 : w2.cell? ⟨w.heap.size, 0, none⟩ = some (.int .i64 0) := World.objAt.cell ho2 (i := 0) rfl
    have k1 : w2.cell? ⟨w.heap.size, 1, none⟩ = some (.int .i64 0) := World.objAt.cell ho2 (i := 1) rfl
    have k2 : w2.cell? ⟨w.heap.size, 2, none⟩ = some (.string ⟨#[]⟩) := World.objAt.cell ho2 (i := 2) rfl
    have k3 : w2.cell? ⟨w.heap.size, 3, none⟩ = some (.string ⟨#[]⟩) := World.objAt.cell ho2 (i := 3) rfl
    have k4 : w2.cell? ⟨w.heap.size, 4, none⟩ = some (.int .i64 0) := World.objAt.cell ho2 (i := 4) rfl
    have k5 : w2.cell? ⟨w.heap.size, 5, none⟩ = some (.int .i64 0) := World.objAt.cell ho2 (i := 5) rfl
    have k6 : w2.cell? ⟨w.heap.size, 6, none⟩ = some (.int .i64 0) := World.objAt.cell ho2 (i := 6) rfl
    have k7 : w2.cell? ⟨w.heap.size, 7, none⟩ = some (.int .i64 0) := World.objAt.cell ho2 (i := 7) rfl
    have f0 := fun o => World.objAt.free ho2 o
    have hwl : w.heap.size < w2.heap.size := World.objAt.lt ho2
    have HE := Lib.hid (And.intro hf hfin)
    clear hf hb hb2 hb3 ho2 hfin HP HB
    unfold selNo
    go_wp2
    refine bodyPost_ret (v := .tuple #[selNo, .int .i64 0, .bool false]) ?_ rfl ?_
    · rw [results_cell3 rfl]
      go_simp
      try rfl
    · exact ⟨below_store8 HE.out.2 (Nat.le_refl _) _ _ _ _ _ _ _ _, .inl ⟨HE.out.1, rfl⟩⟩
  · clear hw0
    go_wp2_with fail
    refine (read_ok out j w1).mono ?_
    rintro e w2 ⟨rfl, hb2⟩
    have hb3 := hb.trans (hb2.mono hb.size)
    have ho2 : World.objAt w2 w.heap.size _ 23 := World.objAt.below HB.out.2 hb3 (World.objAt.lt HB.out.2)
    have hfin := HB.out.1.trans (hb3.mono HB.out.1.size)
    have k0 : w2.cell? ⟨w.heap.size, 0, none⟩ = some (.int .i64 0) := World.objAt.cell ho2 (i := 0) rfl
    have k1 : w2.cell? ⟨w.heap.size, 1, none⟩ = some (.int .i64 0) := World.objAt.cell ho2 (i := 1) rfl
    have k2 : w2.cell? ⟨w.heap.size, 2, none⟩ = some (.string ⟨#[]⟩) := World.objAt.cell ho2 (i := 2) rfl
    have k3 : w2.cell? ⟨w.heap.size, 3, none⟩ = some (.string ⟨#[]⟩) := World.objAt.cell ho2 (i := 3) rfl
    have k4 : w2.cell? ⟨w.heap.size, 4, none⟩ = some (.int .i64 0) := World.objAt.cell ho2 (i := 4) rfl
    have k5 : w2.cell? ⟨w.heap.size, 5, none⟩ = some (.int .i64 0) := World.objAt.cell ho2 (i := 5) rfl
    have k6 : w2.cell? ⟨w.heap.size, 6, none⟩ = some (.int .i64 0) := World.objAt.cell ho2 (i := 6) rfl
    have k7 : w2.cell? ⟨w.heap.size, 7, none⟩ = some (.int .i64 0) := World.objAt.cell ho2 (i := 7) rfl
    have f0 := fun o => World.objAt.free ho2 o
    have hwl : w.heap.size < w2.heap.size := World.objAt.lt ho2
    have HE := Lib.hid (And.intro (And.intro h0 h35) (And.intro (And.intro ho hne) hfin))
    clear h0 h35 ho hne hb hb2 hb3 ho2 hfin HP HB
    unfold selId
    go_wp2
    refine bodyPost_ret (v := .tuple #[selId out 1, .int .i64 (j : Int), .bool true]) ?_ rfl ?_
    · rw [results_cell3 rfl]
      go_simp
      try rfl
    · exact ⟨below_store8 HE.out.2.2 (Nat.le_refl _) _ _ _ _ _ _ _ _, .inr ⟨out, j, HE.out.1.1, HE.out.1.2, HE.out.2.1.1, HE.out.2.1.2, hj, rfl⟩⟩

/-- What spec.ReadId answers. -/
def SpecIdPost (s : ByteArray) (w : World) (e : Ending) (w' : World) : Prop :=
  Below w.heap.size w w' ∧ (((s.size = 0 ∨ nx s 0 ≠ 35) ∧ e = .returned (.tuple #[selNo, .int .i64 0, .bool false, .bool (rdF s 0)])) ∨
    (0 < s.size ∧ nx s 0 = 35 ∧ ∃ (k : Nat) (u : Bool) (out : ByteArray), e = .returned (.tuple #[selId out 1, .int .i64 ((k : Int) + 1), .bool (decide (0 < k) && (nx (tl s) k != 92)), .bool (!u && rdF (tl s) 0)]) ∧ k ≤ (tl s).size ∧
      SoFar (tl s) k u out ∧ (k = (tl s).size ∨ (isNc (nx (tl s) k) = false ∧ escF (tl s) k = false))))

set_option maxRecDepth 100000 in
set_option maxHeartbeats 2000000 in
theorem specReadId_any (s : ByteArray) (w : World) (hs : s.size ≤ 1000) : Calls Tryz.prog 4 #[.string s] w (SpecIdPost s w) := by
  have hb0 : Below w.heap.size w (w.alloc (.cells #[.int .i64 0, .int .i64 0, .string ⟨#[]⟩, .string ⟨#[]⟩, .int .i64 0, .int .i64 0, .int .i64 0, .int .i64 0] 23)) := (Below.refl _ _).alloc (Nat.le_refl _) _
  have ho0 := objAt_alloc_new w #[.int .i64 0, .int .i64 0, .string ⟨#[]⟩, .string ⟨#[]⟩, .int .i64 0, .int .i64 0, .int .i64 0, .int .i64 0] 23
  obtain ⟨w0, hw0⟩ : ∃ w0, w.alloc (.cells #[.int .i64 0, .int .i64 0, .string ⟨#[]⟩, .string ⟨#[]⟩, .int .i64 0, .int .i64 0, .int .i64 0, .int .i64 0] 23) = w0 := ⟨_, rfl⟩
  rw [hw0] at hb0 ho0
  have hrd := fun w' => readable_is s w' (by omega)
  obtain ⟨rd, hrdv⟩ : ∃ rd, rdF s 0 = rd := ⟨_, rfl⟩
  rw [hrdv] at hrd
  have HRD := Lib.hid hrd
  have HRV := Lib.hid hrdv
  have k0 : w0.cell? ⟨w.heap.size, 0, none⟩ = some (.int .i64 0) := World.objAt.cell ho0 (i := 0) rfl
  have k1 : w0.cell? ⟨w.heap.size, 1, none⟩ = some (.int .i64 0) := World.objAt.cell ho0 (i := 1) rfl
  have k2 : w0.cell? ⟨w.heap.size, 2, none⟩ = some (.string ⟨#[]⟩) := World.objAt.cell ho0 (i := 2) rfl
  have k3 : w0.cell? ⟨w.heap.size, 3, none⟩ = some (.string ⟨#[]⟩) := World.objAt.cell ho0 (i := 3) rfl
  have k4 : w0.cell? ⟨w.heap.size, 4, none⟩ = some (.int .i64 0) := World.objAt.cell ho0 (i := 4) rfl
  have k5 : w0.cell? ⟨w.heap.size, 5, none⟩ = some (.int .i64 0) := World.objAt.cell ho0 (i := 5) rfl
  have k6 : w0.cell? ⟨w.heap.size, 6, none⟩ = some (.int .i64 0) := World.objAt.cell ho0 (i := 6) rfl
  have k7 : w0.cell? ⟨w.heap.size, 7, none⟩ = some (.int .i64 0) := World.objAt.cell ho0 (i := 7) rfl
  have f0 := fun o => World.objAt.free ho0 o
  have hwl : w.heap.size < w0.heap.size := World.objAt.lt ho0
  have HB := Lib.hid (And.intro hb0 ho0)
  clear hb0 ho0 hrd hrdv
  rcases Nat.eq_zero_or_pos s.size with hz | hpos
  · have hse : s = ByteArray.empty := by
      apply ByteArray.ext
      exact Array.eq_empty_of_size_eq_zero hz
    subst hse
    clear hz
    go_enter Tryz.func4, Tryz.ntmps4
    go_wp2_with fail
    go_region_with (go_at_call 6; refine (HRD.out _).mono ?_; rintro e w' ⟨rfl, rfl⟩)
    all_goals go_wp2
    all_goals (refine bodyPost_ret (v := .tuple #[selNo, .int .i64 0, .bool false, .bool rd]) ?_ rfl ?_; (focus (rw [results_cell4 rfl]; go_simp; try rfl)); exact ⟨Below.drew (below_store8 HB.out.1 (Nat.le_refl _) _ _ _ _ _ _ _ _), .inl ⟨.inl rfl, by rw [HRV.out]⟩⟩)
  · have hne0 : ¬ s = ByteArray.empty := by
      intro h
      rw [h] at hpos
      exact absurd hpos (by decide)
    have hse0 : s.toList.isEmpty = false := by
      cases h : s.toList.isEmpty
      · rfl
      · exact absurd (empty_of h) hne0
    have hx := nx_lt hpos
    obtain ⟨n, hn⟩ : ∃ n, (s[0].toNat : Int) = n := ⟨_, rfl⟩
    rw [hn] at hx
    have HX := Lib.hid hx
    clear hx
    by_cases h35 : n = 35
    · subst h35
      have hsz : (tl s).size ≤ 1000 := by rw [tl_size]; omega
      have HN := Lib.hid (specName_any (tl s) w0 hsz)
      have htl : s.extract 1 s.size = tl s := rfl
      have hpI : (1 : Int) ≤ (s.size : Int) := by omega
      go_enter Tryz.func4, Tryz.ntmps4
      go_wp2_with fail
      refine HN.out.mono ?_
      rintro e w2 ⟨k, u, out, rfl, hb2, hk, hso, hstop⟩
      have ho2 : World.objAt w2 w.heap.size _ 23 := World.objAt.below HB.out.2 hb2 (World.objAt.lt HB.out.2)
      have hfin := HB.out.1.trans (hb2.mono HB.out.1.size)
      clear k0 k1 k2 k3 k4 k5 k6 k7 f0 hwl
      have k0 : w2.cell? ⟨w.heap.size, 0, none⟩ = some (.int .i64 0) := World.objAt.cell ho2 (i := 0) rfl
      have k1 : w2.cell? ⟨w.heap.size, 1, none⟩ = some (.int .i64 0) := World.objAt.cell ho2 (i := 1) rfl
      have k2 : w2.cell? ⟨w.heap.size, 2, none⟩ = some (.string ⟨#[]⟩) := World.objAt.cell ho2 (i := 2) rfl
      have k3 : w2.cell? ⟨w.heap.size, 3, none⟩ = some (.string ⟨#[]⟩) := World.objAt.cell ho2 (i := 3) rfl
      have k4 : w2.cell? ⟨w.heap.size, 4, none⟩ = some (.int .i64 0) := World.objAt.cell ho2 (i := 4) rfl
      have k5 : w2.cell? ⟨w.heap.size, 5, none⟩ = some (.int .i64 0) := World.objAt.cell ho2 (i := 5) rfl
      have k6 : w2.cell? ⟨w.heap.size, 6, none⟩ = some (.int .i64 0) := World.objAt.cell ho2 (i := 6) rfl
      have k7 : w2.cell? ⟨w.heap.size, 7, none⟩ = some (.int .i64 0) := World.objAt.cell ho2 (i := 7) rfl
      have f0 := fun o => World.objAt.free ho2 o
      have hwl : w.heap.size < w2.heap.size := World.objAt.lt ho2
      have hk1 : k ≤ 1000 := by omega
      obtain ⟨z1, hz1⟩ : ∃ z, (decide (0 < k) && (nx (tl s) k != 92)) = z := ⟨_, rfl⟩
      obtain ⟨z2, hz2⟩ : ∃ z, (!u && rdF (tl s) 0) = z := ⟨_, rfl⟩
      rw [hz1, hz2]
      have HZ := Lib.hid (And.intro hz1 hz2)
      have HE := Lib.hid (And.intro (And.intro hk hso) (And.intro hstop hfin))
      clear hb2 hk hso hstop ho2 hfin HN HB hw0 htl hsz hz1 hz2
      go_wp2
      refine bodyPost_ret (v := .tuple #[selId out 1, .int .i64 ((k : Int) + 1), .bool z1, .bool z2]) ?_ rfl ?_
      · rw [results_cell4 rfl]
        go_simp
        try rfl
      · exact ⟨below_store8 HE.out.2.2 (Nat.le_refl _) _ _ _ _ _ _ _ _, .inr ⟨hpos, HX.out, k, u, out, by rw [HZ.out.1, HZ.out.2], HE.out.1.1, HE.out.1.2, HE.out.2.1⟩⟩
    · have g2 : (n == 35) = false := by simp [h35]
      have g3 : (n != 35) = true := by simp [h35]
      have H35 := Lib.hid h35
      clear h35
      go_enter Tryz.func4, Tryz.ntmps4
      go_wp2_with fail
      go_region_with (go_at_call 6; refine (HRD.out _).mono ?_; rintro e w' ⟨rfl, rfl⟩)
      all_goals go_wp2
      all_goals (refine bodyPost_ret (v := .tuple #[selNo, .int .i64 0, .bool false, .bool rd]) ?_ rfl ?_; (focus (rw [results_cell4 rfl]; go_simp; try rfl)); exact ⟨Below.drew (below_store8 HB.out.1 (Nat.le_refl _) _ _ _ _ _ _ _ _), .inl ⟨.inr (by rw [HX.out]; exact H35.out), by rw [HRV.out]⟩⟩)

end Go.Proofs.YtbikpalfhlgnoaaGreatDoor
