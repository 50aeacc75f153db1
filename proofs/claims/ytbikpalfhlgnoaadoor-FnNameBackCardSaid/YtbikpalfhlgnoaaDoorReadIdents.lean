/- impl.ReadIdentifier, spec.ReadIdentifier. -/
import Derived.Test.YtbikpalfhlgnoaaDoorIdentAgree
namespace Go.Proofs.YtbikpalfhlgnoaaDoor
open Go.RowKit
set_option linter.unusedVariables false
set_option linter.unusedSimpArgs false

def CasIdentPost (s : ByteArray) (w : World) (e : Ending) (w' : World) : Prop :=
  ∃ m, Hyph s m ∧ Below w.heap.size w w' ∧ ((IdentBad s m ∧ ∃ v k t q, e = .returned (.tuple #[v, .int .i64 k, .iface t q])) ∨
    (startOk s m ∧ ∃ out j, pn s m ByteArray.empty = some (out, j) ∧ out ≠ ByteArray.empty ∧ j ≤ s.size ∧ e = .returned (.tuple #[.string (s.extract 0 m ++ out), .int .i64 (j : Int), .nilIface])))

def ReadIdentPost (s : ByteArray) (w : World) (e : Ending) (w' : World) : Prop :=
  ∃ m, Hyph s m ∧ Below w.heap.size w w' ∧ ((IdentBad s m ∧ e = .returned (.tuple #[.string ByteArray.empty, .int .i64 0, .bool false])) ∨
    (startOk s m ∧ ∃ out j, pn s m ByteArray.empty = some (out, j) ∧ out ≠ ByteArray.empty ∧ j ≤ s.size ∧ e = .returned (.tuple #[.string (s.extract 0 m ++ out), .int .i64 (j : Int), .bool true])))

set_option maxRecDepth 100000 in
set_option maxHeartbeats 1000000 in
theorem casIdent_any (s : ByteArray) (w : World) (hs : s.size ≤ 1000) : Calls Tryd.prog 23 #[.string s] w (CasIdentPost s w) := by
  have hb0 : Below w.heap.size w (w.alloc (.cells #[.string s, .int .i64 0, .int .i64 0, .bool false] 51)) := (Below.refl _ _).alloc (Nat.le_refl _) _
  have hr0 := prs_new w s
  obtain ⟨w0, hw0⟩ : ∃ w0, w.alloc (.cells #[.string s, .int .i64 0, .int .i64 0, .bool false] 51) = w0 := ⟨_, rfl⟩
  rw [hw0] at hb0 hr0
  have HP := Lib.hid (parseIdent_any s w.heap.size w0 hs hr0)
  have HB := Lib.hid hb0
  clear hb0 hr0
  go_enter Tryd.func23, Tryd.ntmps23
  go_wp2_with fail
  refine HP.out.mono ?_
  rintro e w1 ⟨m, hy, hb, ⟨hf, ⟨v, t, q, rfl⟩, k, hr⟩ | ⟨hst, out, j, ho, hne, hj, rfl, hr⟩⟩
  · have c1 : w1.cell? ⟨w.heap.size, 1, none⟩ = some (.int .i64 (k : Int)) := hr.cell (i := 1) rfl
    have HE := Lib.hid (And.intro hy (And.intro hf (HB.out.trans hb)))
    clear hy hf hb hr
    go_wp2
    go_quiet (fail)
    go_wp2
    go_ret3
    exact ⟨m, HE.out.1, below_drewN HE.out.2.2 _, .inl ⟨HE.out.2.1, _, _, _, _, rfl⟩⟩
  · have c1 : w1.cell? ⟨w.heap.size, 1, none⟩ = some (.int .i64 (j : Int)) := hr.cell (i := 1) rfl
    have HE := Lib.hid (And.intro (And.intro hy hst) (And.intro ho (And.intro hne (HB.out.trans hb))))
    clear hy hst ho hne hb hr
    go_wp2
    go_quiet (fail)
    go_wp2
    go_ret3
    exact ⟨m, HE.out.1.1, below_drewN HE.out.2.2.2 _, .inr ⟨HE.out.1.2, out, j, HE.out.2.1, HE.out.2.2.1, hj, rfl⟩⟩

set_option maxRecDepth 100000 in
set_option maxHeartbeats 1000000 in
theorem implIdent_any (s : ByteArray) (w : World) (hs : s.size ≤ 1000) : Calls Tryd.prog 10 #[.string s] w (ReadIdentPost s w) := by
  have HP := Lib.hid (casIdent_any s w hs)
  go_enter Tryd.func10, Tryd.ntmps10
  go_wp2_with fail
  refine HP.out.mono ?_
  rintro e w1 ⟨m, hy, hb, ⟨hf, v, k, t, q, rfl⟩ | ⟨hst, out, j, ho, hne, hj, rfl⟩⟩
  · have HE := Lib.hid (And.intro hy (And.intro hf hb))
    clear hy hf hb
    go_wp2
    go_ret3
    exact ⟨m, HE.out.1, HE.out.2.2, .inl ⟨HE.out.2.1, rfl⟩⟩
  · have HE := Lib.hid (And.intro (And.intro hy hst) (And.intro ho (And.intro hne hb)))
    clear hy hst ho hne hb
    go_wp2
    go_ret3
    exact ⟨m, HE.out.1.1, HE.out.2.2.2, .inr ⟨HE.out.1.2, out, j, HE.out.2.1, HE.out.2.2.1, hj, rfl⟩⟩

theorem beginByte_is {n : Int} {b : Bool} (h : isNs n = b) (w : World) : Calls Tryd.prog 19 #[.int .u8 n] w (IsBool b w) :=
  (beginByte_any n w).mono fun e w' ⟨b', h', he, hw⟩ => ⟨by rw [he, h', h], hw.symm⟩

/-- What spec.ReadIdentifier answers. -/
def SpecIdentPost (s : ByteArray) (w : World) (e : Ending) (w' : World) : Prop :=
  ∃ m, Hyph s m ∧ Below w.heap.size w w' ∧ ((¬ (m < s.size ∧ isNs (nx s m) = true) ∧ escF s m = false ∧ e = .returned (.tuple #[.string ByteArray.empty, .int .i64 0, .bool false, .bool (rdF s 0)])) ∨
    (m < s.size ∧ (isNs (nx s m) = true ∨ escF s m = true) ∧ ∃ (k : Nat) (u : Bool) (out : ByteArray), e = .returned (.tuple #[.string out, .int .i64 (k : Int), .bool (decide (0 < k) && (nx s k != 92)), .bool (!u && rdF s 0)]) ∧ k ≤ s.size ∧
      SoFar s k u out ∧ (k = s.size ∨ (isNc (nx s k) = false ∧ escF s k = false))))

theorem escF_lt {s : ByteArray} {m : Nat} (h : s.size ≤ m) : escF s m = false := by
  unfold escF
  rw [decide_eq_false_iff_not]
  omega

set_option maxRecDepth 100000 in
set_option maxHeartbeats 4000000 in
theorem specIdent_any (s : ByteArray) (w : World) (hs : s.size ≤ 1000) : Calls Tryd.prog 9 #[.string s] w (SpecIdentPost s w) := by
  have hb0 : Below w.heap.size w (w.alloc (.cells #[.string s, .int .i64 0, .bool false, .bool false, .bool false] 34)) := (Below.refl _ _).alloc (Nat.le_refl _) _
  have hr0 : Rdr (w.alloc (.cells #[.string s, .int .i64 0, .bool false, .bool false, .bool false] 34)) w.heap.size s 0 false false false := objAt_alloc_new _ _ _
  obtain ⟨w0, hw0⟩ : ∃ w0, w.alloc (.cells #[.string s, .int .i64 0, .bool false, .bool false, .bool false] 34) = w0 := ⟨_, rfl⟩
  rw [hw0] at hb0 hr0
  have HR := Lib.hid hr0
  have HB := Lib.hid hb0
  clear hb0 hr0
  go_enter Tryd.func9, Tryd.ntmps9
  go_wp2
  go_loopw [7] (fun n wr => ∃ k : Nat, n = .int .i64 (k : Int) ∧ k ≤ s.size ∧ (∀ i, i < k → nx s i = 45) ∧ wr = w0) (fun n _ => s.size - (intOf n).toNat)
  case atStart => exact ⟨0, by go_num, by omega, fun i hi => absurd hi (by omega), rfl⟩
  case round =>
    obtain ⟨k, rfl, hk, hall, rfl⟩ := hrel
    have HALL := Lib.hid hall
    clear hall
    by_cases hlt : k < s.size
    · have g0 : decide ((k : Int) < (s.size : Int)) = true := by simp [hlt]
      have g0n : decide (k < s.size) = true := by simp [hlt]
      have ge : ((k : Int) == (s.size : Int)) = false := by simp; omega
      obtain ⟨x, hx⟩ : ∃ x, (s[k].toNat : Int) = x := ⟨_, rfl⟩
      have hxn : nx s k = x := by rw [nx_lt hlt, hx]
      by_cases h45 : x = 45
      · have g1 : (x == 45) = true := by simp [h45]
        have HX := Lib.hid (hxn.trans h45)
        clear h45 hxn
        go_wp2_with fail
        refine ⟨?rel, ?measure⟩
        case rel => exact ⟨k + 1, by go_num, by omega, (fun i hi => by
          by_cases hik : i < k
          · exact HALL.out i hik
          · obtain rfl : i = k := by omega
            exact HX.out), by first | trivial | rfl⟩
        case measure => simp [intOf]; omega
      · have g1 : (x == 45) = false := by simp [h45]
        have hy : Hyph s k := ⟨hk, HALL.out, by rw [hxn]; exact h45⟩
        have HY := Lib.hid (And.intro hy hxn)
        clear hy h45 hxn
        cases hbs : isNs x
        · have HBS := Lib.hid hbs
          clear hbs
          cases hef : escF s k
          · have hfo := fun w' h' => follows_any s 0 k w.heap.size false false false w' (by omega) hk h'
            rw [hef] at hfo
            have HFO := Lib.hid hfo
            have HEF := Lib.hid hef
            clear hfo hef
            have hrd := readable_is s wr (by omega)
            obtain ⟨rd, hrdv⟩ : ∃ rd, rdF s 0 = rd := ⟨_, rfl⟩
            rw [hrdv] at hrd
            have HRD := Lib.hid hrd
            have HRV := Lib.hid hrdv
            clear hrd hrdv
            go_wp2_with (first
              | (go_at_call 21; refine HRD.out.mono ?_; rintro e w' ⟨rfl, rfl⟩)
              | (go_at_call 19; refine (beginByte_is HBS.out _).mono ?_; rintro e w' ⟨rfl, rfl⟩)
              | (go_at_call 20; refine (HFO.out _ HR.out).mono ?_; rintro e w' ⟨rfl, rfl⟩))
            refine bodyPost_ret (results_tmp4 rfl _ _ _) rfl ?_
            exact ⟨k, HY.out.1, HB.out, .inl ⟨(fun h => by rw [HY.out.2, HBS.out] at h; cases h.2), HEF.out, by rw [HRV.out]; rfl⟩⟩
          · have hfo := fun w' h' => follows_any s 0 k w.heap.size false false false w' (by omega) hk h'
            rw [hef] at hfo
            have HFO := Lib.hid hfo
            have HEF := Lib.hid hef
            clear hfo hef
            go_wp2_with (first
              | (go_at_call 19; refine (beginByte_is HBS.out _).mono ?_; rintro e w' ⟨rfl, rfl⟩)
              | (go_at_call 20; refine (HFO.out _ HR.out).mono ?_; rintro e w' ⟨rfl, rfl⟩))
            refine (specName_any s _ hs).mono ?_
            rintro e w2 ⟨kk, u, out, rfl, hb2, hkk, hso, hstop⟩
            have HE := Lib.hid (And.intro (HB.out.trans (hb2.mono HB.out.size)) (And.intro hso hstop))
            clear hb2 hso hstop
            obtain ⟨z1, hz1⟩ : ∃ z, (decide (0 < kk) && (nx s kk != 92)) = z := ⟨_, rfl⟩
            obtain ⟨z2, hz2⟩ : ∃ z, (!u && rdF s 0) = z := ⟨_, rfl⟩
            rw [hz1, hz2]
            have HZ := Lib.hid (And.intro hz1 hz2)
            clear hz1 hz2
            go_wp2
            refine bodyPost_ret (results_tmp4 rfl _ _ _) rfl ?_
            exact ⟨k, HY.out.1, HE.out.1, .inr ⟨hlt, .inr HEF.out, kk, u, out, by rw [HZ.out.1, HZ.out.2]; rfl, hkk, HE.out.2.1, HE.out.2.2⟩⟩
        · have HBS := Lib.hid hbs
          clear hbs
          go_wp2_with (go_at_call 19; refine (beginByte_is HBS.out _).mono ?_; rintro e w' ⟨rfl, rfl⟩)
          refine (specName_any s _ hs).mono ?_
          rintro e w2 ⟨kk, u, out, rfl, hb2, hkk, hso, hstop⟩
          have HE := Lib.hid (And.intro (HB.out.trans (hb2.mono HB.out.size)) (And.intro hso hstop))
          clear hb2 hso hstop
          obtain ⟨z1, hz1⟩ : ∃ z, (decide (0 < kk) && (nx s kk != 92)) = z := ⟨_, rfl⟩
          obtain ⟨z2, hz2⟩ : ∃ z, (!u && rdF s 0) = z := ⟨_, rfl⟩
          rw [hz1, hz2]
          have HZ := Lib.hid (And.intro hz1 hz2)
          clear hz1 hz2
          go_wp2
          refine bodyPost_ret (results_tmp4 rfl _ _ _) rfl ?_
          exact ⟨k, HY.out.1, HE.out.1, .inr ⟨hlt, .inl (by rw [HY.out.2]; exact HBS.out), kk, u, out, by rw [HZ.out.1, HZ.out.2]; rfl, hkk, HE.out.2.1, HE.out.2.2⟩⟩
    · have g0 : decide ((k : Int) < (s.size : Int)) = false := by simp; omega
      have g0n : decide (k < s.size) = false := by simp; omega
      have ge : ((k : Int) == (s.size : Int)) = true := by simp; omega
      have hy : Hyph s k := ⟨hk, HALL.out, by rw [nx_end (show s.size ≤ k by omega)]; decide⟩
      have HY := Lib.hid hy
      clear hy
      have hrd := readable_is s wr (by omega)
      obtain ⟨rd, hrdv⟩ : ∃ rd, rdF s 0 = rd := ⟨_, rfl⟩
      rw [hrdv] at hrd
      have HRD := Lib.hid hrd
      have HRV := Lib.hid hrdv
      clear hrd hrdv
      go_wp2_with (go_at_call 21; refine HRD.out.mono ?_; rintro e w' ⟨rfl, rfl⟩)
      refine bodyPost_ret (results_tmp4 rfl _ _ _) rfl ?_
      exact ⟨k, HY.out, HB.out, .inl ⟨(fun h => hlt h.1), escF_lt (by omega), by rw [HRV.out]; rfl⟩⟩

end Go.Proofs.YtbikpalfhlgnoaaDoor
