/- spec.ReadInteger; impl.ReadInteger. -/
import Derived.Test.YtbikpalfhlgnoaaDoorReadInteger
import Derived.Test.YtbikpalfhlgnoaaDoorAtoi
import Derived.Lib.AtoiErrMem
namespace Go.Proofs.YtbikpalfhlgnoaaDoor
open Go.RowKit
set_option linter.unusedVariables false
set_option linter.unusedSimpArgs false

theorem results_tmp4 {fn : Func} {a b c d : Tmp} (h : fn.results = #[.tmp a, .tmp b, .tmp c, .tmp d]) (tmps : Array Value) (P : Program) (w : World) :
    (results fn tmps).run P w = .ok (.tuple #[tmps.getD a undef, tmps.getD b undef, tmps.getD c undef, tmps.getD d undef]) w := by
  simp [results, h]

def SpecIntPost (s : ByteArray) (w : World) (e : Ending) (w' : World) : Prop :=
  ∃ D, Digits s D ∧ e = .returned (.tuple #[.int .i64 (dval s D : Int), .int .i64 (D : Int), .bool (decide (0 < D)), .bool (!((dval s D : Int) == 100000))]) ∧ Below w.heap.size w w'

theorem rdr_new (w : World) (s : ByteArray) : Rdr (w.alloc (.cells #[.string s, .int .i64 0, .bool false, .bool false, .bool false] 34)) w.heap.size s 0 false false false :=
  objAt_alloc_new _ _ _

set_option maxRecDepth 100000 in
set_option maxHeartbeats 1000000 in
theorem specInt_any (s : ByteArray) (w : World) (hs : s.size ≤ maxLen) : Calls Tryd.prog 7 #[.string s] w (SpecIntPost s w) := by
  have hb0 : Below w.heap.size w (w.alloc (.cells #[.string s, .int .i64 0, .bool false, .bool false, .bool false] 34)) := (Below.refl _ _).alloc (Nat.le_refl _) _
  have hr0 := rdr_new w s
  obtain ⟨w0, hw0⟩ : ∃ w0, w.alloc (.cells #[.string s, .int .i64 0, .bool false, .bool false, .bool false] 34) = w0 := ⟨_, rfl⟩
  rw [hw0] at hb0 hr0
  have HD := Lib.hid (digits_any s w.heap.size w0 hs hr0)
  have HB := Lib.hid hb0
  clear hb0 hr0
  go_enter Tryd.func7, Tryd.ntmps7
  go_wp2_with (go_at_call 17; refine HD.out.mono ?_; rintro e w' ⟨D, hd, rfl, hr, hb⟩; have c1 : w'.cell? ⟨w.heap.size, 1, none⟩ = some (.int .i64 (D : Int)) := hr.cell (i := 1) rfl; have c3 : w'.cell? ⟨w.heap.size, 3, none⟩ = some (.bool ((dval s D : Int) == 100000)) := hr.cell (i := 3) rfl; have HE := Lib.hid (And.intro hd (HB.out.trans hb)); clear hd hr hb)
  go_quiet (fail)
  go_wp2
  refine bodyPost_ret (results_tmp4 rfl _ _ _) rfl ?_
  exact ⟨D, HE.out.1, rfl, below_drewN HE.out.2 _⟩

/-- A parser's cells. -/
def prs (s : ByteArray) (k : Nat) : Array Value := #[.string s, .int .i64 (k : Int), .int .i64 0, .bool false]
def Prs (w : World) (B : Nat) (s : ByteArray) (k : Nat) : Prop := World.objAt w B (prs s k) 51
theorem Prs.drew {w : World} {B : Nat} {s : ByteArray} {k : Nat} (h : Prs w B s k) (q : Nat) : Prs (w.drewN q) B s k := by
  unfold Prs World.objAt at h ⊢
  rw [World.heap_drewN]
  exact h
theorem prs_new (w : World) (s : ByteArray) : Prs (w.alloc (.cells #[.string s, .int .i64 0, .int .i64 0, .bool false] 51)) w.heap.size s 0 := objAt_alloc_new _ _ _
theorem Prs.at {w : World} {B : Nat} {s : ByteArray} {k : Nat} (h : Prs w B s k) (m : Nat) : Prs (w.setCell ⟨B, 1, none⟩ (.int .i64 (m : Int))) B s m := World.objAt.set h 1 _

theorem err_world {w : World} {B : Nat} {s : ByteArray} (h : Prs w B s 0) (m : Nat) (o : Obj) : Below B w ((w.drewN m).alloc o) ∧ Prs ((w.drewN m).alloc o) B s 0 := by
  have hlt := World.objAt.lt h
  have hb : Below w.heap.size w ((w.drewN m).alloc o) := (below_drewN (Below.refl w.heap.size w) m).alloc (Nat.le_refl _) o
  exact ⟨hb.mono (Nat.le_of_lt hlt), World.objAt.below h hb hlt⟩

theorem atoi_world {w w' : World} {B : Nat} {s : ByteArray} {k m : Nat} (h : Prs w B s 0) (hw : w' = (w.drewN m).setCell ⟨B, 1, none⟩ (.int .i64 (k : Int)) ∨ ∃ t, w' = Lib.bytesWorld ((w.drewN m).setCell ⟨B, 1, none⟩ (.int .i64 (k : Int))) 5 t) :
    Below B w w' ∧ Prs w' B s k := by
  have h1 : Below B w ((w.drewN m).setCell ⟨B, 1, none⟩ (.int .i64 (k : Int))) := World.objAt.setBelow (h.drew m) 1 _ (below_drewN (Below.refl B w) m) (Nat.le_refl _)
  have h2 : Prs ((w.drewN m).setCell ⟨B, 1, none⟩ (.int .i64 (k : Int))) B s k := (h.drew m).at k
  rcases hw with rfl | ⟨t, rfl⟩
  · exact ⟨h1, h2⟩
  · have hb := Lib.bytesWorld_below ((w.drewN m).setCell ⟨B, 1, none⟩ (.int .i64 (k : Int))) 5 t
    exact ⟨h1.trans (hb.mono (Nat.le_of_lt (World.objAt.lt h2))), World.objAt.below h2 hb (World.objAt.lt h2)⟩

/-- What parseInteger answers: an error where there is no digit. -/
def ParseIntPost (s : ByteArray) (B : Nat) (w : World) (e : Ending) (w' : World) : Prop :=
  ∃ D, Digits s D ∧ Below B w w' ∧ ((D = 0 ∧ (∃ v t q, e = .returned (.tuple #[v, .iface t q])) ∧ ∃ k, Prs w' B s k) ∨ (0 < D ∧ e = .returned (.tuple #[.int .i64 (dval s D : Int), .nilIface]) ∧ Prs w' B s D))

set_option maxRecDepth 100000 in
set_option maxHeartbeats 4000000 in
theorem parseInt_any (s : ByteArray) (B : Nat) (w : World) (hs : s.size ≤ 1000) (h : Prs w B s 0) (hv : ∀ D, Digits s D → dval s D < 100000) :
    Calls Tryd.prog 30 #[.pointer (some ⟨B, 0, none⟩)] w (ParseIntPost s B w) := by
  have c0 : w.cell? ⟨B, 0, none⟩ = some (.string s) := h.cell (i := 0) rfl
  have c1 : w.cell? ⟨B, 1, none⟩ = some (.int .i64 0) := h.cell (i := 1) rfl
  have f1 : w.frozen? ⟨B, 1, none⟩ = false := h.free 1
  have HW := Lib.hid h
  have HV := Lib.hid hv
  clear h hv
  go_enter Tryd.func30, Tryd.ntmps30
  go_wp2
  go_loopw [4] (fun i wr => ∃ k : Nat, i = .int .i64 (k : Int) ∧ k ≤ s.size ∧ (∀ i, i < k → isDg s i) ∧ ∃ m, wr = w.drewN m) (fun i _ => s.size - (intOf i).toNat)
  case atStart => exact ⟨0, by go_num, by omega, fun i hi => absurd hi (by omega), 0, rfl⟩
  case round =>
    obtain ⟨k, rfl, hk, hd, m0, rfl⟩ := hrel
    have HD := Lib.hid hd
    clear hd
    by_cases hlt : k < s.size
    · have g0 : decide ((k : Int) < (s.size : Int)) = true := by simp [hlt]
      have g0n : decide (k < s.size) = true := by simp [hlt]
      by_cases h48 : (48 : Int) ≤ (s[k].toNat : Int)
      · have g1 : decide ((48 : Int) ≤ (s[k].toNat : Int)) = true := by simp [h48]
        by_cases h57 : (s[k].toNat : Int) ≤ 57
        · have g2 : decide ((s[k].toNat : Int) ≤ (57 : Int)) = true := by simp [h57]
          go_wp2
          go_roundw
          case rel => exact ⟨k + 1, by go_num, by omega, dg_snoc HD.out (by unfold isDg; rw [nx_lt hlt]; exact ⟨h48, h57⟩), _, by first | rfl | exact World.drewN_drewN _ _ _⟩
          case measure => simp [intOf]; omega
        · have g2 : decide ((s[k].toNat : Int) ≤ (57 : Int)) = false := by simp; omega
          have hdg : ¬ isDg s k := by unfold isDg; rw [nx_lt hlt]; omega
          rcases Nat.eq_zero_or_pos k with rfl | hk0
          · have HX := Lib.hid hdg
            clear hdg
            go_wp2
            go_ret2
            exact ⟨0, ⟨HD.out, HX.out⟩, (err_world HW.out _ _).1, .inl ⟨rfl, ⟨_, _, _, rfl⟩, 0, (err_world HW.out _ _).2⟩⟩
          · have hkI : ((k : Int) == 0) = false := by simp; omega
            have hat := atoi_digits ⟨HD.out, hdg⟩ hk0 (HV.out k ⟨HD.out, hdg⟩)
            have hsz : (s.extract 0 k).size ≤ 9223372036854775806 := by rw [ByteArray.size_extract]; omega
            have HAT := Lib.hid (And.intro hat hsz)
            have HX := Lib.hid hdg
            clear hat hsz hdg
            go_wp2_with (go_at_call 37; refine (Tryd.strconv_Atoi_ok (s.extract 0 k) HAT.out.2 _ HAT.out.1 _).mono ?_; rintro e w' ⟨rfl, hw⟩)
            go_ret2
            exact ⟨k, ⟨HD.out, HX.out⟩, (atoi_world HW.out hw).1, .inr ⟨hk0, rfl, (atoi_world HW.out hw).2⟩⟩
      · have g1 : decide ((48 : Int) ≤ (s[k].toNat : Int)) = false := by simp; omega
        have hdg : ¬ isDg s k := by unfold isDg; rw [nx_lt hlt]; omega
        rcases Nat.eq_zero_or_pos k with rfl | hk0
        · have HX := Lib.hid hdg
          clear hdg
          go_wp2
          go_ret2
          exact ⟨0, ⟨HD.out, HX.out⟩, (err_world HW.out _ _).1, .inl ⟨rfl, ⟨_, _, _, rfl⟩, 0, (err_world HW.out _ _).2⟩⟩
        · have hkI : ((k : Int) == 0) = false := by simp; omega
          have hat := atoi_digits ⟨HD.out, hdg⟩ hk0 (HV.out k ⟨HD.out, hdg⟩)
          have hsz : (s.extract 0 k).size ≤ 9223372036854775806 := by rw [ByteArray.size_extract]; omega
          have HAT := Lib.hid (And.intro hat hsz)
          have HX := Lib.hid hdg
          clear hat hsz hdg
          go_wp2_with (go_at_call 37; refine (Tryd.strconv_Atoi_ok (s.extract 0 k) HAT.out.2 _ HAT.out.1 _).mono ?_; rintro e w' ⟨rfl, hw⟩)
          go_ret2
          exact ⟨k, ⟨HD.out, HX.out⟩, (atoi_world HW.out hw).1, .inr ⟨hk0, rfl, (atoi_world HW.out hw).2⟩⟩
    · have g0 : decide ((k : Int) < (s.size : Int)) = false := by simp; omega
      have g0n : decide (k < s.size) = false := by simp; omega
      have hdg : ¬ isDg s k := fun h => hlt h.lt
      rcases Nat.eq_zero_or_pos k with rfl | hk0
      · have HX := Lib.hid hdg
        clear hdg
        go_wp2
        go_ret2
        exact ⟨0, ⟨HD.out, HX.out⟩, (err_world HW.out _ _).1, .inl ⟨rfl, ⟨_, _, _, rfl⟩, 0, (err_world HW.out _ _).2⟩⟩
      · have hkI : ((k : Int) == 0) = false := by simp; omega
        have hat := atoi_digits ⟨HD.out, hdg⟩ hk0 (HV.out k ⟨HD.out, hdg⟩)
        have hsz : (s.extract 0 k).size ≤ 9223372036854775806 := by rw [ByteArray.size_extract]; omega
        have HAT := Lib.hid (And.intro hat hsz)
        have HX := Lib.hid hdg
        clear hat hsz hdg
        go_wp2_with (go_at_call 37; refine (Tryd.strconv_Atoi_ok (s.extract 0 k) HAT.out.2 _ HAT.out.1 _).mono ?_; rintro e w' ⟨rfl, hw⟩)
        go_ret2
        exact ⟨k, ⟨HD.out, HX.out⟩, (atoi_world HW.out hw).1, .inr ⟨hk0, rfl, (atoi_world HW.out hw).2⟩⟩

/-- The digits are worth less than 100,000 (which the specification's reader calls sure). -/
def ReadIntPost (s : ByteArray) (w : World) (e : Ending) (w' : World) : Prop :=
  ∃ D, Digits s D ∧ Below w.heap.size w w' ∧ ((D = 0 ∧ ∃ v k t q, e = .returned (.tuple #[v, .int .i64 k, .iface t q])) ∨ (0 < D ∧ e = .returned (.tuple #[.int .i64 (dval s D : Int), .int .i64 (D : Int), .nilIface])))

set_option maxRecDepth 100000 in
set_option maxHeartbeats 1000000 in
theorem casInt_any (s : ByteArray) (w : World) (hs : s.size ≤ 1000) (hv : ∀ D, Digits s D → dval s D < 100000) : Calls Tryd.prog 18 #[.string s] w (ReadIntPost s w) := by
  have hb0 : Below w.heap.size w (w.alloc (.cells #[.string s, .int .i64 0, .int .i64 0, .bool false] 51)) := (Below.refl _ _).alloc (Nat.le_refl _) _
  have hr0 := prs_new w s
  obtain ⟨w0, hw0⟩ : ∃ w0, w.alloc (.cells #[.string s, .int .i64 0, .int .i64 0, .bool false] 51) = w0 := ⟨_, rfl⟩
  rw [hw0] at hb0 hr0
  have HP := Lib.hid (parseInt_any s w.heap.size w0 hs hr0 hv)
  have HB := Lib.hid hb0
  clear hb0 hr0 hv
  go_enter Tryd.func18, Tryd.ntmps18
  go_wp2_with fail
  refine HP.out.mono ?_
  rintro e w1 ⟨D, hd, hb, ⟨h0, ⟨v, t, q, rfl⟩, k, hr⟩ | ⟨h0, rfl, hr⟩⟩
  · have c1 : w1.cell? ⟨w.heap.size, 1, none⟩ = some (.int .i64 (k : Int)) := hr.cell (i := 1) rfl
    have HE := Lib.hid (And.intro h0 (And.intro hd (HB.out.trans hb)))
    clear hd hb hr h0
    go_wp2
    go_quiet (fail)
    go_wp2
    go_ret3
    exact ⟨D, HE.out.2.1, below_drewN HE.out.2.2 _, .inl ⟨HE.out.1, _, _, _, _, rfl⟩⟩
  · have c1 : w1.cell? ⟨w.heap.size, 1, none⟩ = some (.int .i64 (D : Int)) := hr.cell (i := 1) rfl
    have HE := Lib.hid (And.intro h0 (And.intro hd (HB.out.trans hb)))
    clear hd hb hr h0
    go_wp2
    go_quiet (fail)
    go_wp2
    go_ret3
    exact ⟨D, HE.out.2.1, below_drewN HE.out.2.2 _, .inr ⟨HE.out.1, rfl⟩⟩

def ImplIntPost (s : ByteArray) (w : World) (e : Ending) (w' : World) : Prop :=
  ∃ D, Digits s D ∧ Below w.heap.size w w' ∧ ((D = 0 ∧ e = .returned (.tuple #[.int .i64 0, .int .i64 0, .bool false])) ∨ (0 < D ∧ e = .returned (.tuple #[.int .i64 (dval s D : Int), .int .i64 (D : Int), .bool true])))

set_option maxRecDepth 100000 in
set_option maxHeartbeats 1000000 in
theorem implInt_any (s : ByteArray) (w : World) (hs : s.size ≤ 1000) (hv : ∀ D, Digits s D → dval s D < 100000) : Calls Tryd.prog 8 #[.string s] w (ImplIntPost s w) := by
  have HP := Lib.hid (casInt_any s w hs hv)
  clear hv
  go_enter Tryd.func8, Tryd.ntmps8
  go_wp2_with fail
  refine HP.out.mono ?_
  rintro e w1 ⟨D, hd, hb, ⟨h0, v, k, t, q, rfl⟩ | ⟨h0, rfl⟩⟩
  · have HE := Lib.hid (And.intro h0 (And.intro hd hb))
    clear hd hb h0
    go_wp2
    go_ret3
    exact ⟨D, HE.out.2.1, HE.out.2.2, .inl ⟨HE.out.1, rfl⟩⟩
  · have HE := Lib.hid (And.intro h0 (And.intro hd hb))
    clear hd hb h0
    go_wp2
    go_ret3
    exact ⟨D, HE.out.2.1, HE.out.2.2, .inr ⟨HE.out.1, rfl⟩⟩

end Go.Proofs.YtbikpalfhlgnoaaDoor
