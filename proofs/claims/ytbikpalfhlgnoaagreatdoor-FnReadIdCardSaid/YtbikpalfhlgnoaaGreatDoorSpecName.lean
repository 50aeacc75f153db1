/- spec.readable, exactly; spec.ReadName. -/
import Derived.Test.YtbikpalfhlgnoaaGreatDoorRest
namespace Go.Proofs.YtbikpalfhlgnoaaGreatDoor
open Go.RowKit
set_option linter.unusedVariables false
set_option linter.unusedSimpArgs false

/-- Whether the text is readable from a place on. -/
def rdF (s : ByteArray) (k : Nat) : Bool :=
  if h : k < s.size then
    if h0 : ptK s k = 0 then false
    else if ptC s k = 0 ∨ ptC s k = 65279 then false
    else rdF s (k + ptK s k)
  else true
termination_by s.size - k
decreasing_by omega

theorem rdF_end {s : ByteArray} {k : Nat} (h : s.size ≤ k) : rdF s k = true := by rw [rdF, dif_neg (by omega)]
theorem rdF_none {s : ByteArray} {k : Nat} (h : k < s.size) (h0 : ptK s k = 0) : rdF s k = false := by rw [rdF, dif_pos h, dif_pos h0]
theorem rdF_bad {s : ByteArray} {k : Nat} (h : k < s.size) (h0 : ptC s k = 0 ∨ ptC s k = 65279) : rdF s k = false := by
  rw [rdF, dif_pos h]
  split <;> first | rfl | rw [if_pos h0]
theorem rdF_step {s : ByteArray} {k : Nat} (h : k < s.size) (h0 : ptK s k ≠ 0) (h1 : ¬ (ptC s k = 0 ∨ ptC s k = 65279)) : rdF s k = rdF s (k + ptK s k) := by
  rw [rdF, dif_pos h, dif_neg h0, if_neg h1]

set_option maxRecDepth 100000 in
set_option maxHeartbeats 4000000 in
theorem readable_is (s : ByteArray) (w : World) (hs : s.size ≤ 4000) : Calls Tryz.prog 6 #[.string s] w (IsBool (rdF s 0) w) := by
  go_enter Tryz.func6, Tryz.ntmps6
  go_wp2
  go_loopw [3] (fun v wr => ∃ k : Nat, v = .int .i64 (k : Int) ∧ k ≤ s.size ∧ rdF s 0 = rdF s k ∧ wr = w) (fun v _ => s.size - (intOf v).toNat)
  case atStart => exact ⟨0, by go_num, by omega, rfl, rfl⟩
  case round =>
    obtain ⟨k, rfl, hk, hd, rfl⟩ := hrel
    have HD := Lib.hid hd
    clear hd
    by_cases hlt : k < s.size
    · have g0 : decide ((k : Int) < (s.size : Int)) = true := by simp [hlt]
      have g0n : decide (k < s.size) = true := by simp [hlt]
      have hle := ptK_le s k hlt
      have hp := pt_any s k wr hs hlt
      unfold PtPost at hp
      obtain ⟨n, hn⟩ : ∃ n, ptK s k = n := ⟨_, rfl⟩
      obtain ⟨c, hc⟩ : ∃ c, ptC s k = c := ⟨_, rfl⟩
      rw [hn, hc] at hp
      rw [hn] at hle
      have HP := Lib.hid hp
      have HN := Lib.hid (And.intro hn hc)
      clear hp hn hc
      by_cases hn0 : n = 0
      · subst hn0
        go_wp2_with (go_at_call 10; refine HP.out.mono ?_; rintro e w2 ⟨rfl, rfl⟩)
        go_ret
        exact ⟨by rw [HD.out, rdF_none hlt HN.out.1]; rfl, rfl⟩
      · have gn : ((n : Int) == 0) = false := by simp; omega
        by_cases hc0 : c = 0
        · have gc : (c == 0) = true := by simp [hc0]
          have HC := Lib.hid hc0
          clear hc0
          go_wp2_with (go_at_call 10; refine HP.out.mono ?_; rintro e w2 ⟨rfl, rfl⟩)
          go_ret
          exact ⟨by rw [HD.out, rdF_bad hlt (.inl (by rw [HN.out.2]; exact HC.out))]; rfl, rfl⟩
        · have gc : (c == 0) = false := by simp [hc0]
          by_cases hc1 : c = 65279
          · have gc1 : (c == 65279) = true := by simp [hc1]
            have HC := Lib.hid hc1
            clear hc1 hc0
            go_wp2_with (go_at_call 10; refine HP.out.mono ?_; rintro e w2 ⟨rfl, rfl⟩)
            go_ret
            exact ⟨by rw [HD.out, rdF_bad hlt (.inr (by rw [HN.out.2]; exact HC.out))]; rfl, rfl⟩
          · have gc1 : (c == 65279) = false := by simp [hc1]
            have HC := Lib.hid (And.intro hc0 hc1)
            clear hc1 hc0
            go_wp2_with (go_at_call 10; refine HP.out.mono ?_; rintro e w2 ⟨rfl, rfl⟩)
            refine ⟨?rel, ?measure⟩
            case rel => exact ⟨k + n, by go_num, by omega, by rw [HD.out, rdF_step hlt (by rw [HN.out.1]; exact hn0) (by rw [HN.out.2]; exact fun h => h.elim HC.out.1 HC.out.2), HN.out.1], by first | trivial | rfl⟩
            case measure => simp [intOf]; omega
    · have g0 : decide ((k : Int) < (s.size : Int)) = false := by simp; omega
      have g0n : decide (k < s.size) = false := by simp; omega
      go_wp2
      go_ret
      exact ⟨by rw [HD.out, rdF_end (by omega)]; rfl, rfl⟩

/-- What is readable is valid. -/
theorem rdF_valid (s : ByteArray) : ∀ (m k : Nat), s.size - k ≤ m → (∀ i, i + 1 < k → nx s i < 128 → 0 < ptK s (i + 1)) → rdF s k = true → Valid s
  | m, k, hm, hd, hr => by
    by_cases hlt : k < s.size
    · by_cases h0 : ptK s k = 0
      · rw [rdF_none hlt h0] at hr
        cases hr
      · by_cases h1 : ptC s k = 0 ∨ ptC s k = 65279
        · rw [rdF_bad hlt h1] at hr
          cases hr
        · rw [rdF_step hlt h0 h1] at hr
          match m, hm with
          | 0, hm => omega
          | m + 1, hm => exact rdF_valid s m (k + ptK s k) (by omega) (valid_step hd rfl (by omega)) hr
    · exact fun i hi h => hd i (by omega) h

theorem valid_of {s : ByteArray} (h : rdF s 0 = true) : Valid s := rdF_valid s s.size 0 (by omega) (fun i hi => absurd hi (by omega)) h

/-- What spec.ReadName answers. -/
def NameIs (s : ByteArray) (w : World) (e : Ending) (w' : World) : Prop :=
  ∃ (k : Nat) (u : Bool) (out : ByteArray), e = .returned (.tuple #[.string out, .int .i64 (k : Int), .bool (decide (0 < k) && (nx s k != 92)), .bool (!u && rdF s 0)]) ∧ Below w.heap.size w w' ∧ k ≤ s.size ∧
    SoFar s k u out ∧ (k = s.size ∨ (isNc (nx s k) = false ∧ escF s k = false))

set_option maxRecDepth 100000 in
set_option maxHeartbeats 4000000 in
theorem specName_any (s : ByteArray) (w : World) (hs : s.size ≤ 1000) : Calls Tryz.prog 7 #[.string s] w (NameIs s w) := by
  have hb0 : Below w.heap.size w (w.alloc (.cells #[.string s, .int .i64 0, .bool false, .bool false, .bool false] 42)) := (Below.refl _ _).alloc (Nat.le_refl _) _
  have hr0 : Rdr (w.alloc (.cells #[.string s, .int .i64 0, .bool false, .bool false, .bool false] 42)) w.heap.size s 0 false false false := objAt_alloc_new _ _ _
  obtain ⟨w0, hw0⟩ : ∃ w0, w.alloc (.cells #[.string s, .int .i64 0, .bool false, .bool false, .bool false] 42) = w0 := ⟨_, rfl⟩
  rw [hw0] at hb0 hr0
  have HP := Lib.hid (rest_any s w.heap.size w0 hs hr0)
  have HB := Lib.hid hb0
  clear hb0 hr0
  go_enter Tryz.func7, Tryz.ntmps7
  go_wp2_with fail
  refine HP.out.mono ?_
  rintro e w1 ⟨k, u, out, rfl, hr, hb, hk, hso, hstop⟩
  have c1 : w1.cell? ⟨w.heap.size, 1, none⟩ = some (.int .i64 (k : Int)) := hr.cell (i := 1) rfl
  have c3 : w1.cell? ⟨w.heap.size, 3, none⟩ = some (.bool u) := hr.cell (i := 3) rfl
  have hrd : ∀ q, Calls Tryz.prog 6 #[.string s] (w1.drewN q) (fun e w' => e = .returned (.bool (rdF s 0)) ∧ w' = w1.drewN q) := fun q => readable_is s (w1.drewN q) (by omega)
  have hnx : ∀ q, Calls Tryz.prog 12 #[.pointer (some ⟨w.heap.size, 0, none⟩)] (w1.drewN q) (fun e w' => e = .returned (.int .u8 (nx s k)) ∧ ∃ m, w' = w1.drewN m) := fun q => (next_any s k w.heap.size false u false (w1.drewN q) (hr.drew q)).mono (fun e w' ⟨he, m, hm⟩ => ⟨he, q + m, by rw [hm, World.drewN_drewN]⟩)
  obtain ⟨rd, hrdv⟩ : ∃ rd, rdF s 0 = rd := ⟨_, rfl⟩
  obtain ⟨x, hxv⟩ : ∃ x, nx s k = x := ⟨_, rfl⟩
  rw [hrdv] at hrd
  rw [hxv] at hnx
  have HRD := Lib.hid hrd
  have HNX := Lib.hid hnx
  have HE := Lib.hid (And.intro (And.intro hrdv hxv) (And.intro (HB.out.trans hb) (And.intro hso hstop)))
  clear hr hb hso hstop hrd hnx hrdv hxv
  rcases Nat.eq_zero_or_pos k with rfl | hk0
  · cases u
    all_goals go_wp2_with fail
    all_goals go_quiet (first | exact Calls.quiet_of_same (HRD.out _) | exact HNX.out _)
    all_goals go_wp2
    all_goals refine bodyPost_ret (results_tmp4 rfl _ _ _) rfl ?_
    all_goals exact ⟨_, _, _, by rw [HE.out.1.1, HE.out.1.2]; rfl, below_drewN HE.out.2.1 _, hk, HE.out.2.2.1, HE.out.2.2.2⟩
  · have hdk : decide (0 < k) = true := by simp; omega
    have hki : decide ((0 : Int) < (k : Int)) = true := by simp; omega
    cases u
    all_goals go_wp2_with fail
    all_goals go_quiet (first | exact Calls.quiet_of_same (HRD.out _) | exact HNX.out _)
    all_goals go_wp2
    all_goals refine bodyPost_ret (results_tmp4 rfl _ _ _) rfl ?_
    all_goals exact ⟨_, _, _, by rw [HE.out.1.1, HE.out.1.2, hdk]; rfl, below_drewN HE.out.2.1 _, hk, HE.out.2.2.1, HE.out.2.2.2⟩

end Go.Proofs.YtbikpalfhlgnoaaGreatDoor
