/- spec.bareSel at a selector of an id. -/
import Derived.Test.YtobnglgnoflbnaaSimpleId
import Derived.Test.YtobnglgnoflbnaaWordsOf
import Derived.Test.YtobnglgnoflbnaaPlain
import Derived.Test.YtobnglgnoflbnaaAloneId
import Derived.Deep.RegionHeld3
import Derived.Deep.DeepCutAuto
namespace Go.Proofs.Ytobnglgnoflbnaa
open Go.RowKit
set_option linter.unusedVariables false
set_option linter.unusedSimpArgs false

def OneWordPost (s : ByteArray) (w : World) (e : Ending) (w' : World) : Prop := ∃ g c, e = .returned (.slice (some ⟨g, 0, none⟩) 1 c) ∧ w'.cell? ⟨g, 0, none⟩ = some (.string ((wordsF s).getD 0 ByteArray.empty)) ∧ Below w.heap.size w w'
def SomeWordsPost (n : Nat) (w : World) (e : Ending) (w' : World) : Prop := ∃ a c, e = .returned (.slice a n c) ∧ Below w.heap.size w w'

theorem oneWord_any (s : ByteArray) (w : World) (hs : s.size ≤ 100) (h1 : (wordsF s).length = 1) : Calls Try.prog 119 #[.string s] w (OneWordPost s w) := by
  refine (wordsOf_any s w hs).mono ?_
  rintro e w' ⟨v, rfl, ho, hb⟩
  have h := ho.out
  unfold OwnStrs at h
  rw [h1] at h
  rcases h.2 with ⟨_, h0⟩ | ⟨g, cap, cur, rfl, _, hg, hn, hm, hcs, ht⟩
  · omega
  · refine ⟨g, cap, rfl, ?_, hb.out⟩
    have hc := h.cells (g := g) rfl 0 (.string ((wordsF s).getD 0 ByteArray.empty)) (by simp [List.getD, h1])
    simpa [Addr.add] using hc

theorem someWords_any (s : ByteArray) (w : World) (hs : s.size ≤ 100) : Calls Try.prog 119 #[.string s] w (SomeWordsPost (wordsF s).length w) := by
  refine (wordsOf_any s w hs).mono ?_
  rintro e w' ⟨v, rfl, ho, hb⟩
  rcases ho.out.2 with ⟨rfl, h0⟩ | ⟨g, cap, cur, rfl, _⟩
  · exact ⟨none, 0, by rw [h0], hb.out⟩
  · exact ⟨_, cap, rfl, hb.out⟩

set_option maxRecDepth 100000 in
set_option maxHeartbeats 12000000 in
theorem bareId_any (id : ByteArray) (w : World) (hid : id.size ≤ maxLen) : Calls Try.prog 81 #[.agg (idSel id)] w (SomeBoolB (fun _ => True) w) := by
  have hid' := hid
  unfold maxLen at hid'
  have hb0 : Below w.heap.size w (w.alloc (.cells #[.int .i64 4, .int .i64 0, .string ByteArray.empty, .string id, .int .i64 0, .int .i64 0, .int .i64 0, .int .i64 1] 27)) := (Below.refl _ _).alloc (Nat.le_refl _) _
  have s0 : ∀ i u, (idSel id)[i]? = some u → (w.alloc (.cells #[.int .i64 4, .int .i64 0, .string ByteArray.empty, .string id, .int .i64 0, .int .i64 0, .int .i64 0, .int .i64 1] 27)).cell? ⟨w.heap.size, i, none⟩ = some u := fun i u h => cell_alloc_new' _ _ _ rfl h
  obtain ⟨w0, hw0⟩ : ∃ w0, w.alloc (.cells #[.int .i64 4, .int .i64 0, .string ByteArray.empty, .string id, .int .i64 0, .int .i64 0, .int .i64 0, .int .i64 1] 27) = w0 := ⟨_, rfl⟩
  rw [hw0] at hb0 s0
  have k0 : w0.cell? ⟨w.heap.size, 0, none⟩ = some (.int .i64 4) := s0 0 _ rfl
  have k1 : w0.cell? ⟨w.heap.size, 1, none⟩ = some (.int .i64 0) := s0 1 _ rfl
  have k2 : w0.cell? ⟨w.heap.size, 2, none⟩ = some (.string ByteArray.empty) := s0 2 _ rfl
  have k3 : w0.cell? ⟨w.heap.size, 3, none⟩ = some (.string id) := s0 3 _ rfl
  have k4 : w0.cell? ⟨w.heap.size, 4, none⟩ = some (.int .i64 0) := s0 4 _ rfl
  have k5 : w0.cell? ⟨w.heap.size, 5, none⟩ = some (.int .i64 0) := s0 5 _ rfl
  have k6 : w0.cell? ⟨w.heap.size, 6, none⟩ = some (.int .i64 0) := s0 6 _ rfl
  have HB := Lib.hid hb0
  have HS0 := Lib.hid s0
  clear hb0 s0
  unfold idSel
  by_cases q1 : (100 : Int) < (id.size : Int)
  · have g1 : decide ((100 : Int) < (id.size : Int)) = true := by simp [q1]
    have g1n : decide (100 < id.size) = true := by simp; omega
    clear q1
    go_enter Try.func81, Try.ntmps81
    go_wp2
    go_ret
    exact ⟨false, trivial, rfl, HB.out⟩
  have g1 : decide ((100 : Int) < (id.size : Int)) = false := by simp [q1]
  have g1n : decide (100 < id.size) = false := by simp; omega
  have hs100 : id.size ≤ 100 := by omega
  clear q1
  go_enter Try.func81, Try.ntmps81
  go_wp2_with fail
  refine (plain_any id w0 hid).mono ?_
  rintro e w1 ⟨b1, _, rfl, rfl⟩
  cases b1
  · go_wp2
    go_ret
    exact ⟨false, trivial, rfl, HB.out⟩
  have hlt8 : w.heap.size < w0.heap.size := World.block_lt_of_cell? _ _ k3
  go_wp2_with fail
  go_quiet (fail)
  go_wp2_with fail
  by_cases h1 : (wordsF id).length = 1
  · have hw := fun (w' : World) => oneWord_any id w' hs100 h1
    have HW := Lib.hid hw
    clear hw h1
    go_region_with (first
      | (go_at_call 119; refine (HW.out _).mono ?_; rintro e w' ⟨g, c, rfl, hc, hb⟩; have hh1 : w'.cell? ⟨w.heap.size, 3, none⟩ = some (.string id) := cell_below hb k3; have hh2 : Below w0.heap.size w0 w' := (below_drewN (Below.refl _ _) _).trans hb)
      | (go_at_call 119; refine (HW.out _).mono ?_; rintro e w'' ⟨g2, c2, rfl, hc2, hb2⟩; have hh3 : w''.cell? ⟨w.heap.size, 3, none⟩ = some (.string id) := cell_below hb2 hh1; have hh4 : Below w0.heap.size w0 w'' := hh2.trans (hb2.mono hh2.size)))
    all_goals have k0' := cell_below hh4 k0
    all_goals have k4' := cell_below hh4 k4
    all_goals (try clear hh1 hh2 hh3)
    all_goals have HQ := Lib.hid hh4
    all_goals clear hh4
    all_goals go_wp2_with fail
    all_goals go_ret
    all_goals first
      | exact ⟨_, trivial, rfl, HB.out.trans (HQ.out.mono HB.out.size)⟩
      | exact ⟨_, trivial, rfl, below_drewN (HB.out.trans (HQ.out.mono HB.out.size)) _⟩
  · have hz : ∃ n, (wordsF id).length = n ∧ (n = 0 ∨ ∃ m, n = m + 2) := ⟨_, rfl, by
      rcases h : (wordsF id).length with _ | _ | m
      · exact .inl rfl
      · omega
      · exact .inr ⟨m, rfl⟩⟩
    obtain ⟨n, hn, hz⟩ := hz
    have hw := fun (w' : World) => someWords_any id w' hs100
    rw [hn] at hw
    clear h1 hn
    rcases hz with rfl | ⟨m, rfl⟩
    · have HW := Lib.hid hw
      clear hw
      refine wp_region_any (by kernel_rfl) ?_
      try (change wpAny _ _ _ _ _ _ _ (World.drew _))
      refine wpAny_take (i := 0) (v := ?_) rfl (by kernel_rfl) (by kernel_rfl) (by kernel_rfl) (fun _ _ _ h => h) (Or.inl ⟨by rfl, ?_⟩) ?_
      rotate_left 1
      · intro wx
        go_simp
        try with_reducible rfl
      refine wpAny_ready (rs := [1]) (by kernel_rfl) (by simp) ?_
      refine AllReady.cons rfl (fun K hK => ?_) AllReady.nil
      go_simp
      refine hK _ _ ?_
      clear hK K
      refine wpAny_ready (rs := [2]) (by kernel_rfl) (by simp) ?_
      refine AllReady.cons rfl (fun K hK => ?_) AllReady.nil
      go_simp
      go_wp2_with (go_at_call 119; refine (HW.out _).mono ?_; rintro e w' ⟨a, c, rfl, hb⟩; have hh1 : w'.cell? ⟨w.heap.size, 3, none⟩ = some (.string id) := cell_below hb k3; have hh2 : Below w0.heap.size w0 w' := (below_drewN (Below.refl _ _) _).trans hb)
      refine wpAny_take (i := 3) (v := ?_) rfl (by kernel_rfl) (by kernel_rfl) (by kernel_rfl) (fun _ _ _ h => h) (Or.inl ⟨by rfl, ?_⟩) ?_
      rotate_left 1
      · intro wx
        go_simp
        try with_reducible rfl
      refine wpAny_take (i := 4) (v := ?_) rfl (by kernel_rfl) (by kernel_rfl) (by kernel_rfl) (fun _ _ _ h => h) (Or.inl ⟨by rfl, ?_⟩) ?_
      rotate_left 1
      · intro wx
        go_simp
        try with_reducible rfl
      refine wpAny_take (i := 5) (v := ?_) rfl (by kernel_rfl) (by kernel_rfl) (by kernel_rfl) (fun _ _ _ h => h) (Or.inl ⟨by rfl, ?_⟩) ?_
      rotate_left 1
      · intro wx
        go_simp
        try with_reducible rfl
      refine wpAny_take (i := 6) (v := undef) rfl (by kernel_rfl) (by kernel_rfl) (by kernel_rfl) (fun _ _ _ h => h) (Or.inr ⟨by kernel_rfl, rfl⟩) ?_
      refine wpAny_take (i := 7) (v := undef) rfl (by kernel_rfl) (by kernel_rfl) (by kernel_rfl) (fun _ _ _ h => h) (Or.inr ⟨by kernel_rfl, rfl⟩) ?_
      refine wpAny_take (i := 8) (v := undef) rfl (by kernel_rfl) (by kernel_rfl) (by kernel_rfl) (fun _ _ _ h => h) (Or.inr ⟨by kernel_rfl, rfl⟩) ?_
      refine wpAny_take (i := 9) (v := undef) rfl (by kernel_rfl) (by kernel_rfl) (by kernel_rfl) (fun _ _ _ h => h) (Or.inr ⟨by kernel_rfl, rfl⟩) ?_
      refine wpAny_take (i := 10) (v := undef) rfl (by kernel_rfl) (by kernel_rfl) (by kernel_rfl) (fun _ _ _ h => h) (Or.inr ⟨by kernel_rfl, rfl⟩) ?_
      refine wpAny_take (i := 11) (v := undef) rfl (by kernel_rfl) (by kernel_rfl) (by kernel_rfl) (fun _ _ _ h => h) (Or.inr ⟨by kernel_rfl, rfl⟩) ?_
      refine wpAny_take (i := 12) (v := undef) rfl (by kernel_rfl) (by kernel_rfl) (by kernel_rfl) (fun _ _ _ h => h) (Or.inr ⟨by kernel_rfl, rfl⟩) ?_
      refine wpAny_take (i := 13) (v := undef) rfl (by kernel_rfl) (by kernel_rfl) (by kernel_rfl) (fun _ _ _ h => h) (Or.inr ⟨by kernel_rfl, rfl⟩) ?_
      refine wpAny_take (i := 14) (v := undef) rfl (by kernel_rfl) (by kernel_rfl) (by kernel_rfl) (fun _ _ _ h => h) (Or.inr ⟨by kernel_rfl, rfl⟩) ?_
      refine wpAny_take (i := 15) (v := undef) rfl (by kernel_rfl) (by kernel_rfl) (by kernel_rfl) (fun _ _ _ h => h) (Or.inr ⟨by kernel_rfl, rfl⟩) ?_
      refine wpAny_take (i := 16) (v := ?_) rfl (by kernel_rfl) (by kernel_rfl) (by kernel_rfl) (fun _ _ _ h => h) (Or.inl ⟨by rfl, ?_⟩) ?_
      rotate_left 1
      · intro wx
        go_simp
        try with_reducible rfl
      refine wpAny_take (i := 17) (v := ?_) rfl (by kernel_rfl) (by kernel_rfl) (by kernel_rfl) (fun _ _ _ h => h) (Or.inl ⟨by rfl, ?_⟩) ?_
      rotate_left 1
      · intro wx
        go_simp
        try with_reducible rfl
      refine wpAny_done (by kernel_rfl) ?_ _
      have k0' := cell_below hh2 k0
      have HQ := Lib.hid hh2
      clear hh1 hh2
      go_wp2_with fail
      go_ret
      first
        | exact ⟨_, trivial, rfl, HB.out.trans (HQ.out.mono HB.out.size)⟩
        | exact ⟨_, trivial, rfl, below_drewN (HB.out.trans (HQ.out.mono HB.out.size)) _⟩
    · have hne : ((m : Int) + 2 == 1) = false := by simp; omega
      have hne' : (((m + 2 : Nat) : Int) == 1) = false := by simp; omega
      have HW := Lib.hid hw
      clear hw
      refine wp_region_any (by kernel_rfl) ?_
      try (change wpAny _ _ _ _ _ _ _ (World.drew _))
      refine wpAny_take (i := 0) (v := ?_) rfl (by kernel_rfl) (by kernel_rfl) (by kernel_rfl) (fun _ _ _ h => h) (Or.inl ⟨by rfl, ?_⟩) ?_
      rotate_left 1
      · intro wx
        go_simp
        try with_reducible rfl
      refine wpAny_ready (rs := [1]) (by kernel_rfl) (by simp) ?_
      refine AllReady.cons rfl (fun K hK => ?_) AllReady.nil
      go_simp
      refine hK _ _ ?_
      clear hK K
      refine wpAny_ready (rs := [2]) (by kernel_rfl) (by simp) ?_
      refine AllReady.cons rfl (fun K hK => ?_) AllReady.nil
      go_simp
      go_wp2_with (go_at_call 119; refine (HW.out _).mono ?_; rintro e w' ⟨a, c, rfl, hb⟩; have hh1 : w'.cell? ⟨w.heap.size, 3, none⟩ = some (.string id) := cell_below hb k3; have hh2 : Below w0.heap.size w0 w' := (below_drewN (Below.refl _ _) _).trans hb)
      refine wpAny_take (i := 3) (v := ?_) rfl (by kernel_rfl) (by kernel_rfl) (by kernel_rfl) (fun _ _ _ h => h) (Or.inl ⟨by rfl, ?_⟩) ?_
      rotate_left 1
      · intro wx
        go_simp
        try with_reducible rfl
      refine wpAny_take (i := 4) (v := ?_) rfl (by kernel_rfl) (by kernel_rfl) (by kernel_rfl) (fun _ _ _ h => h) (Or.inl ⟨by rfl, ?_⟩) ?_
      rotate_left 1
      · intro wx
        go_simp
        try with_reducible rfl
      refine wpAny_take (i := 5) (v := ?_) rfl (by kernel_rfl) (by kernel_rfl) (by kernel_rfl) (fun _ _ _ h => h) (Or.inl ⟨by rfl, ?_⟩) ?_
      rotate_left 1
      · intro wx
        go_simp
        try with_reducible rfl
      refine wpAny_take (i := 6) (v := undef) rfl (by kernel_rfl) (by kernel_rfl) (by kernel_rfl) (fun _ _ _ h => h) (Or.inr ⟨by kernel_rfl, rfl⟩) ?_
      refine wpAny_take (i := 7) (v := undef) rfl (by kernel_rfl) (by kernel_rfl) (by kernel_rfl) (fun _ _ _ h => h) (Or.inr ⟨by kernel_rfl, rfl⟩) ?_
      refine wpAny_take (i := 8) (v := undef) rfl (by kernel_rfl) (by kernel_rfl) (by kernel_rfl) (fun _ _ _ h => h) (Or.inr ⟨by kernel_rfl, rfl⟩) ?_
      refine wpAny_take (i := 9) (v := undef) rfl (by kernel_rfl) (by kernel_rfl) (by kernel_rfl) (fun _ _ _ h => h) (Or.inr ⟨by kernel_rfl, rfl⟩) ?_
      refine wpAny_take (i := 10) (v := undef) rfl (by kernel_rfl) (by kernel_rfl) (by kernel_rfl) (fun _ _ _ h => h) (Or.inr ⟨by kernel_rfl, rfl⟩) ?_
      refine wpAny_take (i := 11) (v := undef) rfl (by kernel_rfl) (by kernel_rfl) (by kernel_rfl) (fun _ _ _ h => h) (Or.inr ⟨by kernel_rfl, rfl⟩) ?_
      refine wpAny_take (i := 12) (v := undef) rfl (by kernel_rfl) (by kernel_rfl) (by kernel_rfl) (fun _ _ _ h => h) (Or.inr ⟨by kernel_rfl, rfl⟩) ?_
      refine wpAny_take (i := 13) (v := undef) rfl (by kernel_rfl) (by kernel_rfl) (by kernel_rfl) (fun _ _ _ h => h) (Or.inr ⟨by kernel_rfl, rfl⟩) ?_
      refine wpAny_take (i := 14) (v := undef) rfl (by kernel_rfl) (by kernel_rfl) (by kernel_rfl) (fun _ _ _ h => h) (Or.inr ⟨by kernel_rfl, rfl⟩) ?_
      refine wpAny_take (i := 15) (v := undef) rfl (by kernel_rfl) (by kernel_rfl) (by kernel_rfl) (fun _ _ _ h => h) (Or.inr ⟨by kernel_rfl, rfl⟩) ?_
      refine wpAny_take (i := 16) (v := ?_) rfl (by kernel_rfl) (by kernel_rfl) (by kernel_rfl) (fun _ _ _ h => h) (Or.inl ⟨by rfl, ?_⟩) ?_
      rotate_left 1
      · intro wx
        go_simp
        try with_reducible rfl
      refine wpAny_take (i := 17) (v := ?_) rfl (by kernel_rfl) (by kernel_rfl) (by kernel_rfl) (fun _ _ _ h => h) (Or.inl ⟨by rfl, ?_⟩) ?_
      rotate_left 1
      · intro wx
        go_simp
        try with_reducible rfl
      refine wpAny_done (by kernel_rfl) ?_ _
      have k0' := cell_below hh2 k0
      have HQ := Lib.hid hh2
      clear hh1 hh2
      go_wp2_with fail
      go_ret
      first
        | exact ⟨_, trivial, rfl, HB.out.trans (HQ.out.mono HB.out.size)⟩
        | exact ⟨_, trivial, rfl, below_drewN (HB.out.trans (HQ.out.mono HB.out.size)) _⟩

end Go.Proofs.Ytobnglgnoflbnaa
