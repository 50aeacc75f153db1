/- Parts of a proof: SelSized, SelKids, ReadableZ, ReadF, SelBen. -/
import Derived.Test.YtoanofdomhnafaaGreatDoorG03
import Derived.Test.YtoanofdomhnafaaGreatDoorG00
import Derived.BigGuardPart
import Derived.Test.YtoanofdomhnafaaGreatDoorG02
set_option linter.unusedVariables false
set_option linter.unusedSimpArgs false
namespace Go.Proofs.YtoanofdomhnafaaGreatDoor
open Go.RowKit
/-- A place whose size is right, with all beneath it. -/
def SzS (l : List SelD) (j : Nat) : Prop :=
  1 ≤ zs l j ∧ (l.getD j default).size = (zs l j : Int) ∧ ∀ k, j ≤ k → k < j + zs l j → k + zs l k ≤ j + zs l j
def SelSizedSays (l : List SelD) (at_ end_ : Nat) (b : Bool) : Prop :=
  b = true → 1 ≤ zs l at_ ∧ at_ + zs l at_ ≤ end_ ∧ ∀ j, at_ ≤ j → j < at_ + zs l at_ → SzS l j
theorem selSizedSays_false (l : List SelD) (at_ end_ : Nat) : SelSizedSays l at_ end_ false := by simp [SelSizedSays]
theorem selSized_step {l : List SelD} {at_ s k : Nat} (hk : at_ + 1 ≤ k) (hall : ∀ j, at_ + 1 ≤ j → j < k → SzS l j ∧ j + zs l j ≤ k)
    (hsub : 1 ≤ zs l k ∧ k + zs l k ≤ at_ + s ∧ ∀ j, k ≤ j → j < k + zs l k → SzS l j) : ∀ j, at_ + 1 ≤ j → j < k + zs l k → SzS l j ∧ j + zs l j ≤ k + zs l k := by
  intro j h1 h2
  by_cases h : j < k
  · have := hall j h1 h
    exact ⟨this.1, by omega⟩
  · have hk1 := hsub.1
    have hK := hsub.2.2 k (Nat.le_refl _) (by omega)
    exact ⟨hsub.2.2 j (by omega) h2, hK.2.2 j (by omega) h2⟩
theorem selSized_done {l : List SelD} {at_ s : Nat} (hs : (l.getD at_ default).size = (s : Int)) (h1 : 1 ≤ s) (hall : ∀ j, at_ + 1 ≤ j → j < at_ + s → SzS l j ∧ j + zs l j ≤ at_ + s) :
    ∀ j, at_ ≤ j → j < at_ + zs l at_ → SzS l j := by
  have e : zs l at_ = s := by unfold zs; rw [hs]; simp
  intro j h2 h3
  by_cases h : j = at_
  · subst h
    refine ⟨by omega, by rw [hs, e], fun k hk1 hk2 => ?_⟩
    by_cases hkj : k = j
    · subst hkj; exact Nat.le_refl _
    · rw [e] at *
      exact (hall k (by omega) hk2).2
  · exact (hall j (by omega) (by omega)).1
set_option maxHeartbeats 1000000 in
theorem selSized_any (a : Option Addr) (len cap : Nat) (l : List SelD) (d : Nat) : ∀ (at_ end_ : Nat) (w : World), Sels w a len l → at_ < len → end_ ≤ len → at_ ≤ end_ → end_ - at_ < d →
    Calls Tryz.prog 18 #[.slice a len cap, .int .i64 at_, .int .i64 end_] w (SomeBool (SelSizedSays l at_ end_) w) := by
  induction d with
  | zero =>
    intro at_ end_ w h hat hend hae hd
    omega
  | succ d ih =>
    intro at_ end_ w h hat hend hae hd
    have hm := h.len.2
    have HN := Lib.hid h
    obtain ⟨b, off, rfl, hc⟩ := h.at (by omega)
    have c4 := (hc at_ hat).size
    have HC := Lib.hid hc
    have IH := Lib.hid ih
    clear h hc ih
    obtain ⟨z, hz⟩ : ∃ z, (l.getD at_ default).size = z := ⟨_, rfl⟩
    rw [hz] at c4
    have HZ := Lib.hid hz
    clear hz
    by_cases h1 : z < 1
    · go_enter Tryz.func18, Tryz.ntmps18
      go_wp2
      go_ret
      exact ⟨_, selSizedSays_false _ _ _, rfl, rfl⟩
    by_cases h2 : (end_ : Int) - at_ < z
    · have h1' : 1 ≤ z := by omega
      have g1 : decide (z < (1 : Int)) = false := by simp; omega
      go_enter Tryz.func18, Tryz.ntmps18
      go_wp2
      all_goals (go_ret; exact ⟨_, selSizedSays_false _ _ _, rfl, rfl⟩)
    obtain ⟨s, rfl⟩ := Int.eq_ofNat_of_zero_le (show 0 ≤ z by omega)
    have h1' : 1 ≤ s := by omega
    have h2' : at_ + s ≤ end_ := by omega
    have g1 : decide ((s : Int) < (1 : Int)) = false := by simp; omega
    have g2 : decide ((end_ : Int) - (at_ : Int) < (s : Int)) = false := by simp; omega
    clear h1 h2
    go_enter Tryz.func18, Tryz.ntmps18
    go_wp2
    go_loop [8] (fun i => ∃ k : Nat, at_ + 1 ≤ k ∧ k ≤ at_ + s ∧ i = .int .i64 k ∧ ∀ j, at_ + 1 ≤ j → j < k → SzS l j ∧ j + zs l j ≤ k) (fun i => at_ + s - (intOf i).toNat)
    case atStart => exact ⟨at_ + 1, by omega, by omega, by go_num, fun j h1 h2 => by omega⟩
    case round =>
      obtain ⟨k, hk1, hk2, rfl, hall⟩ := hrel
      have HALL := Lib.hid hall
      clear hall
      by_cases hlt : k < at_ + s
      · have c4k := (HC.out k (by omega)).size
        obtain ⟨y, hy⟩ : ∃ y, (l.getD k default).size = y := ⟨_, rfl⟩
        rw [hy] at c4k
        have HY := Lib.hid hy
        clear hy
        go_wp2_with fail
        have hcall := IH.out k (at_ + s) w HN.out (by omega) (by omega) (by omega) (by omega)
        have ecast : (((at_ + s : Nat) : Int)) = (at_ : Int) + (s : Int) := by omega
        rw [ecast] at hcall
        refine hcall.mono ?_
        clear hcall ecast
        rintro e w' ⟨r, hr, rfl, rfl⟩
        cases r
        · go_wp2
          go_ret
          exact ⟨_, selSizedSays_false _ _ _, rfl, rfl⟩
        · have hsub := hr rfl
          have hyk : y = (zs l k : Int) := by rw [← HY.out]; exact (hsub.2.2 k (Nat.le_refl _) (by omega)).2.1
          have hy1 := hsub.1
          have hy2 := hsub.2.1
          have hnext := selSized_step hk1 HALL.out hsub
          have HS := Lib.hid hnext
          clear hnext hsub hr
          rw [hyk] at c4k
          clear hyk HY
          go_wp2
          go_round
          case rel => exact ⟨k + zs l k, by omega, by omega, by go_num, HS.out⟩
          case measure => simp [intOf]; omega
      · obtain rfl : k = at_ + s := by omega
        have hdone := selSized_done HZ.out h1' HALL.out
        have hs : zs l at_ = s := by unfold zs; rw [HZ.out]; simp
        have HD := Lib.hid (And.intro hs hdone)
        clear hdone hs hlt
        go_wp2
        go_ret
        exact ⟨true, fun _ => ⟨by rw [HD.out.1]; exact h1', by rw [HD.out.1]; exact h2', HD.out.2⟩, rfl, rfl⟩
theorem Tryz.infoInt : (Tryz.prog.info? 3).map (fun i => (i.zero, i.size, i.bytes)) = some (some (.int .i64 0), 1, 8) := by kernel_rfl
/-- A slice of places, of the call's own. -/
def OwnInts (w : World) (B : Nat) (v : Value) (l : List Nat) : Prop := w.ownsRow B 3 1 v l.length (l.map fun (n : Nat) => Value.int .i64 (n : Int))
/-- A slice of places. -/
def IntsOf (w : World) (v : Value) (l : List Nat) : Prop := ∃ a cap, v = .slice a l.length cap ∧ l.length ≤ cap ∧ cap ≤ maxLen ∧ Row w a l.length (l.map fun (n : Nat) => Value.int .i64 (n : Int))
theorem OwnInts.ints {w : World} {B : Nat} {v : Value} {l : List Nat} (h : OwnInts w B v l) : IntsOf w v l := by
  rcases h.2 with ⟨rfl, h0⟩ | ⟨g, cap, cur, rfl, hb, hg, hn, hm, hcs, ht⟩
  · have : l = [] := List.eq_nil_of_length_eq_zero h0
    subst this
    exact ⟨none, 0, rfl, Nat.le_refl _, Nat.zero_le _, rfl, Nat.zero_le _, fun h => absurd h (Nat.lt_irrefl 0)⟩
  · refine ⟨_, cap, rfl, hn, hm, by simp, by omega, fun hl => ⟨g, 0, rfl, fun i hi => ?_⟩⟩
    have := h.cells (g := g) rfl i ((l.map fun (n : Nat) => Value.int .i64 (n : Int)).getD i undef) (by rw [List.getD_eq_getElem?_getD]; simp [hi])
    have hadd : (⟨g, 0, none⟩ : Addr).add i = ⟨g, 0 + i, none⟩ := by unfold Addr.add; split <;> simp_all
    rw [hadd] at this
    exact this
theorem IntsOf.below {w w' : World} {v : Value} {l : List Nat} (h : IntsOf w v l) (hb : Below w.heap.size w w') : IntsOf w' v l := by
  obtain ⟨a, cap, h1, h2, h3, h4⟩ := h
  exact ⟨a, cap, h1, h2, h3, h4.below hb⟩
theorem ownInts_snoc {w1 : World} {B : Nat} {v' : Value} {done : List Nat} {k : Nat} (h : w1.ownsRow B 3 1 v' (done.length + 1) (List.map (fun (n : Nat) => Value.int .i64 (n : Int)) done ++ [.int .i64 (k : Int)])) :
    OwnInts w1 B v' (done ++ [k]) := by
  unfold OwnInts
  simpa using h
def KidsPost (l : List Nat) (w : World) (e : Ending) (w' : World) : Prop := ∃ v, e = .returned v ∧ OwnInts w' w.heap.size v l ∧ Below w.heap.size w w'
set_option maxRecDepth 100000 in
set_option maxHeartbeats 1000000 in
theorem selKids_any (a : Option Addr) (len cap : Nat) (l0 : List SelD) (at_ : Nat) (w : World) (h : Sels w a len l0) (hsz : ∀ j, j < len → SzS l0 j) (hfit : ∀ j, j < len → j + zs l0 j ≤ len) (hat : at_ < len) (hlen : len ≤ 200) :
    Calls Tryz.prog 7 #[.slice a len cap, .int .i64 at_] w (KidsPost (kids (zs l0) at_) w) := by
  have hm := h.len.2
  obtain ⟨b, off, rfl, hc⟩ := h.at (by omega)
  have hs := (hc at_ hat).size
  have hbw : b < w.heap.size := World.block_lt_of_cell? _ _ hs
  have hend := hfit at_ hat
  have hpos := (hsz at_ hat).1
  have hc4 : ∀ j, j < len → w.cell? ⟨b, off + j * 8 + 7, none⟩ = some (.int .i64 (zs l0 j : Int)) := fun j hj => by rw [(hc j hj).size, (hsz j hj).2.1]
  have HC := Lib.hid hc4
  have HF := Lib.hid hfit
  have HS := Lib.hid hsz
  clear hc hs h hc4 hfit hsz
  obtain ⟨i0, hi, hz0, hz1, hz2⟩ := info_parts Tryz.infoInt
  go_enter Tryz.func7, Tryz.ntmps7
  go_wp2
  go_loopw [5, 6] (fun v i wr => ∃ (k f : Nat) (done : List Nat), i = .int .i64 k ∧ k ≤ at_ + zs l0 at_ ∧ at_ + 1 ≤ k ∧ done.length < k ∧ at_ + zs l0 at_ - k ≤ f ∧ done ++ kidsFrom (zs l0) (at_ + zs l0 at_) f k = kids (zs l0) at_ ∧ OwnInts wr w.heap.size v done ∧ Below w.heap.size w wr)
    (fun _ i _ => at_ + zs l0 at_ - (intOf i).toNat)
  case atStart => exact ⟨at_ + 1, zs l0 at_, [], by go_num, by omega, by omega, by simp, by omega, rfl, World.ownsRow_nil _ _ _ _, Below.refl _ _⟩
  case round =>
    obtain ⟨k, f, done, rfl, hk1, hk2, hk4, hk3, hd, hown, hbel⟩ := hrel
    have c0 : wr.cell? ⟨b, off + at_ * 8 + 7, none⟩ = some (.int .i64 (zs l0 at_ : Int)) := (hbel.cell (p := ⟨b, off + at_ * 8 + 7, none⟩) hbw).trans (HC.out at_ hat)
    have HD := Lib.hid hd
    have HOWN := Lib.hid hown
    have HBEL := Lib.hid hbel
    clear hd hown hbel
    by_cases hlt : k < at_ + zs l0 at_
    · have ck : wr.cell? ⟨b, off + k * 8 + 7, none⟩ = some (.int .i64 (zs l0 k : Int)) := (HBEL.out.cell (p := ⟨b, off + k * 8 + 7, none⟩) hbw).trans (HC.out k (by omega))
      have hkp := (HS.out k (by omega)).1
      have hmx : ¬ ((zs l0 k : Int) < 1) := by omega
      have hmx2 : ¬ (1 : Int) > (zs l0 k : Int) := by omega
      have hkf := HF.out k (by omega)
      have hkl := (HS.out at_ hat).2.2 k (by omega) hlt
      have hown' : wr.ownsRow w.heap.size 3 1 u5 done.length (done.map fun (n : Nat) => Value.int .i64 (n : Int)) := HOWN.out
      go_wp2_with (at_builtin; refine wpList_append_own _ rfl _ _ 26 rfl w.heap.size 3 i0 (.int .i64 0) 1 8 Tryz.underlying26 hi hz0 hz1 hz2 rfl (by decide) _ _ _ rfl (hown'.alloc _) ⟨wr.heap.size, 0, none⟩ 1 1 [.int .i64 (k : Int)] rfl rfl ?c1 ?c2 ?c3 ?c4 ?c5 ?_)
      case c2 => first | rfl | (intro u hu; simp at hu; subst hu; rfl)
      case c3 => unfold maxLen; omega
      case c4 => omega
      case c5 => have := HBEL.out.size; simp; omega
      intro v' w1 hown2 hgrow _
      have hbel2 : Below w.heap.size w w1 := (HBEL.out.alloc HBEL.out.size _).grown hgrow (by have := HBEL.out.size; simp; omega) (fun q hq => (World.ownsRow.lt hown' q hq).1)
      have hsn := ownInts_snoc hown2
      have c1k : w1.cell? ⟨b, off + k * 8 + 7, none⟩ = some (.int .i64 (zs l0 k : Int)) := (hbel2.cell (p := ⟨b, off + k * 8 + 7, none⟩) hbw).trans (HC.out k (by omega))
      obtain ⟨g, hg1, hg2⟩ := kidsFrom_step (z := zs l0) hlt hk3
      have hd := HD.out
      rw [hg2] at hd
      have H1 := Lib.hid (And.intro hsn (And.intro hbel2 (And.intro hg1 hd)))
      clear hown2 hgrow hbel2 hsn hg1 hg2 hd hown' c0 ck
      go_wp2
      go_roundw
      case rel =>
        obtain ⟨r1, r2, r3, r4⟩ := H1.out
        exact ⟨k + zs l0 k, g, done ++ [k], by go_num, by omega, by omega, by simp; omega, by omega, by rw [← r4]; simp, r1, r2⟩
      case measure => simp [intOf]; omega
    · obtain rfl : k = at_ + zs l0 at_ := by omega
      have hd := HD.out
      rw [kidsFrom_end (Nat.le_refl _), List.append_nil] at hd
      have H1 := Lib.hid hd
      clear hd HD hlt
      go_wp2
      go_ret
      exact ⟨_, rfl, by rw [← H1.out]; exact HOWN.out, HBEL.out⟩
theorem zero_step {s : ByteArray} {k n : Nat} {c : Int} (h : ∀ i, i < k → nx s i ≠ 0) (hn : ptK s k = n) (h0 : 0 < n) (hc : ptC s k = c) (hc0 : c ≠ 0) : ∀ i, i < k + n → nx s i ≠ 0 := by
  intro i hi
  rcases Nat.lt_or_ge i k with hl | hl
  · exact h i hl
  · rcases Nat.lt_or_ge 1 n with h1 | h1
    · obtain ⟨p1, p2⟩ := ptK_high (s := s) (p := k) (by omega)
      rcases Nat.lt_or_ge k i with hk | hk
      · have := p2 (i - k - 1) (by omega)
        rw [show k + 1 + (i - k - 1) = i by omega] at this
        omega
      · obtain rfl : i = k := by omega
        omega
    · obtain rfl : i = k := by omega
      unfold ptK at hn
      unfold ptC at hc
      by_cases h128 : nx s i < 128
      · rw [if_pos h128] at hc
        omega
      · have := nx_nonneg s i
        omega
/-- No pseudo-elements among the first ones. -/
def NoPs (l : List SelD) (len : Nat) (b : Bool) : Prop := b = false → ∀ i, i < len → kdS l i = 21 → (l.getD i default).val = ByteArray.empty
set_option maxRecDepth 100000 in
set_option maxHeartbeats 4000000 in
theorem hasPseudo_any (a : Option Addr) (len cap : Nat) (l : List SelD) (w : World) (h : Sels w a len l) : Calls Tryz.prog 14 #[.slice a len cap] w (SomeBool (NoPs l len) w) := by
  have hm := h.len.2
  have HN := Lib.hid h
  clear h
  go_enter Tryz.func14, Tryz.ntmps14
  go_wp2
  go_loopw [3] (fun v wr => ∃ k : Nat, v = .int .i64 (k : Int) ∧ k ≤ len ∧ Hid (∀ i, i < k → kdS l i = 21 → (l.getD i default).val = ByteArray.empty) ∧ wr = w) (fun v _ => len - (intOf v).toNat)
  case atStart => exact ⟨0, by go_num, by omega, Lib.hid fun i hi => absurd hi (by omega), rfl⟩
  case round =>
    obtain ⟨k, rfl, hk, HD, rfl⟩ := hrel
    by_cases hlt : k < len
    · obtain ⟨b, off, rfl, hc⟩ := HN.out.at (by omega)
      have c := hc k hlt
      have c0 := c.kind
      have c3 := c.val
      have g0 : decide ((k : Int) < (len : Int)) = true := by simp [hlt]
      obtain ⟨kd, hkd⟩ : ∃ kd, (l.getD k default).kind = kd := ⟨_, rfl⟩
      obtain ⟨val, hval⟩ : ∃ val, (l.getD k default).val = val := ⟨_, rfl⟩
      rw [hkd] at c0
      rw [hval] at c3
      have HKD := Lib.hid (And.intro (show kdS l k = kd from hkd) hval)
      clear hkd hval c hc
      by_cases h21 : kd = 21
      · have r1 : (kd == 21) = true := by simp [h21]
        clear h21
        cases hv : val.toList.isEmpty
        · have HV := Lib.hid hv
          go_wp2
          go_ret
          exact ⟨true, (fun h => by cases h), rfl, rfl⟩
        · have hve : val = ByteArray.empty := by
            rw [ByteArray.toList_eq] at hv
            apply ByteArray.ext
            exact Array.toList_inj.1 (by simpa using hv)
          have HV := Lib.hid hve
          clear hve
          go_wp2
          go_roundw
          case rel =>
            refine ⟨k + 1, by go_num, by omega, Lib.hid fun i hi hik => ?_, by trivial⟩
            rcases Nat.lt_or_ge i k with hl | hl
            · exact HD.out i hl hik
            · obtain rfl : i = k := by omega
              rw [HKD.out.2, HV.out]
          case measure => simp [intOf]; omega
      · have r1 : (kd == 21) = false := by simp [h21]
        have HK := Lib.hid h21
        clear h21
        go_wp2
        go_roundw
        case rel =>
          refine ⟨k + 1, by go_num, by omega, Lib.hid fun i hi hik => ?_, by trivial⟩
          rcases Nat.lt_or_ge i k with hl | hl
          · exact HD.out i hl hik
          · obtain rfl : i = k := by omega
            rw [HKD.out.1] at hik
            exact absurd hik HK.out
        case measure => simp [intOf]; omega
    · have g0 : decide ((k : Int) < (len : Int)) = false := by simp; omega
      go_wp2
      go_ret
      exact ⟨false, (fun _ i hi hik => HD.out i (by omega) hik), rfl, rfl⟩
set_option maxRecDepth 100000 in
set_option maxHeartbeats 4000000 in
theorem HasPseudo_any (a : Option Addr) (len cap : Nat) (l : List SelD) (w : World) (h : Sels w a len l) : Calls Tryz.prog 6 #[.slice a len cap] w (SomeBool (NoPs l len) w) := by
  have H := Lib.hid (hasPseudo_any a len cap l w h)
  clear h
  go_enter Tryz.func6, Tryz.ntmps6
  go_wp2_with fail
  refine H.out.mono ?_
  rintro e w2 ⟨b, hb, rfl, rfl⟩
  go_wp2
  go_ret
  exact ⟨b, hb, rfl, rfl⟩
def readG (s : ByteArray) : Nat → Nat → Bool
  | 0, _ => true
  | f + 1, k => if k < s.size then (if ptK s k = 0 ∨ ptC s k = 0 ∨ ptC s k = 65279 then false else readG s f (k + ptK s k)) else true
def readF (s : ByteArray) : Bool := readG s (s.size + 1) 0
theorem readG_zero {s : ByteArray} : ∀ (f k : Nat), s.size < k + f → (∀ i, i < k → nx s i ≠ 0) → readG s f k = true → ∀ i, i < s.size → nx s i ≠ 0
  | 0, k, hf, h, _ => fun i hi => h i (by omega)
  | f + 1, k, hf, h, hr => by
    rw [readG] at hr
    split at hr
    · split at hr
      · cases hr
      · rename_i hk hn
        have h0 : 0 < ptK s k := by omega
        exact readG_zero f (k + ptK s k) (by omega) (zero_step h rfl h0 rfl (by omega)) hr
    · exact fun i hi => h i (by omega)
theorem readF_zero {s : ByteArray} (h : readF s = true) : ∀ i, i < s.size → nx s i ≠ 0 := readG_zero _ _ (by omega) (fun i hi => absurd hi (by omega)) h
set_option maxRecDepth 100000 in
set_option maxHeartbeats 4000000 in
theorem readF_any (s : ByteArray) (w : World) (hs : s.size ≤ 4000) : Calls Tryz.prog 27 #[.string s] w (BoolPost (readF s) w) := by
  go_enter Tryz.func27, Tryz.ntmps27
  go_wp2
  go_loopw [3] (fun v wr => ∃ k f : Nat, v = .int .i64 (k : Int) ∧ k ≤ s.size ∧ s.size < k + f ∧ Hid (readG s f k = readF s) ∧ wr = w) (fun v _ => s.size - (intOf v).toNat)
  case atStart => exact ⟨0, s.size + 1, by go_num, by omega, by omega, Lib.hid rfl, rfl⟩
  case round =>
    obtain ⟨k, f, rfl, hk, hf, HD, rfl⟩ := hrel
    by_cases hlt : k < s.size
    · have g0 : decide ((k : Int) < (s.size : Int)) = true := by simp [hlt]
      have g0n : decide (k < s.size) = true := by simp [hlt]
      have hle := ptK_le s k hlt
      obtain ⟨f', rfl⟩ : ∃ f', f = f' + 1 := ⟨f - 1, by omega⟩
      have hd := HD.out
      rw [readG, if_pos hlt] at hd
      obtain ⟨n, hn⟩ : ∃ n, ptK s k = n := ⟨_, rfl⟩
      have hp := pt_any s k wr hs hlt
      unfold PtPost at hp
      obtain ⟨c, hc⟩ : ∃ c, ptC s k = c := ⟨_, rfl⟩
      rw [hn, hc] at hp hd
      rw [hn] at hle
      have HP := Lib.hid hp
      have H1 := Lib.hid hd
      clear hp hn hc hd HD
      go_wp2_with fail
      refine HP.out.mono ?_
      rintro e w2 ⟨rfl, rfl⟩
      by_cases hn0 : n = 0
      · have gn : ((n : Int) == 0) = true := by simp [hn0]
        have HR := Lib.hid (show readF s = false by rw [← H1.out, if_pos (.inl hn0)])
        clear hn0 H1
        go_wp2
        go_ret
        exact ⟨by rw [HR.out]; rfl, rfl⟩
      · have gn : ((n : Int) == 0) = false := by simp [hn0]
        by_cases hc0 : c = 0
        · have gc : (c == 0) = true := by simp [hc0]
          have HR := Lib.hid (show readF s = false by rw [← H1.out, if_pos (.inr (.inl hc0))])
          clear hc0 H1
          go_wp2
          go_ret
          exact ⟨by rw [HR.out]; rfl, rfl⟩
        · have gc : (c == 0) = false := by simp [hc0]
          by_cases hc1 : c = 65279
          · have gd : (c == 65279) = true := by simp [hc1]
            have HR := Lib.hid (show readF s = false by rw [← H1.out, if_pos (.inr (.inr hc1))])
            clear hc1 H1
            go_wp2
            go_ret
            exact ⟨by rw [HR.out]; rfl, rfl⟩
          · have gd : (c == 65279) = false := by simp [hc1]
            have HR := Lib.hid (show readG s f' (k + n) = readF s by rw [← H1.out, if_neg (by omega)])
            have hn1 : 0 < n := by omega
            clear hc0 hc1 hn0 H1
            go_wp2
            go_roundw
            case rel => exact ⟨k + n, f', by go_num, by omega, by omega, HR, by trivial⟩
            case measure => simp [intOf]; omega
    · have g0 : decide ((k : Int) < (s.size : Int)) = false := by simp; omega
      have g0n : decide (k < s.size) = false := by simp; omega
      obtain ⟨f', rfl⟩ : ∃ f', f = f' + 1 := ⟨f - 1, by omega⟩
      have HR := Lib.hid (show readF s = true by rw [← HD.out, readG, if_neg hlt])
      go_wp2
      go_ret
      exact ⟨by rw [HR.out]; rfl, rfl⟩
def BenPost (w : World) (e : Ending) (w' : World) : Prop := ∃ a n c l', e = .returned (.slice a n c) ∧ Hid (Sels w a n l') ∧ w = w'
set_option maxRecDepth 100000 in
set_option maxHeartbeats 4000000 in
theorem selBen_any (a : Option Addr) (len cap : Nat) (l : List SelD) (i : Nat) (w : World) (h : Sels w a len l) (hsz : ∀ j, j < len → SzS l j) (hfit : ∀ j, j < len → j + zs l j ≤ len) (hi : i < len) (hlen : len ≤ 200) (hcap : len ≤ cap) (hcm : cap ≤ maxLen) :
    Calls Tryz.prog 30 #[.slice a len cap, .int .i64 (i : Int)] w (BenPost w) := by
  obtain ⟨b, off, rfl, hc⟩ := h.at (by omega)
  have hs := (hc i hi).size
  have hl := h.len.1
  have hfi := hfit i hi
  rw [(hsz i hi).2.1] at hs
  obtain ⟨z, hz⟩ : ∃ z, zs l i = z := ⟨_, rfl⟩
  rw [hz] at hs hfi
  obtain ⟨q, hq⟩ : ∃ q, i + z = q := ⟨_, rfl⟩
  have hqI : (i : Int) + (z : Int) = (q : Int) := by omega
  have hsel : Sels w (some ⟨b, off + i * 8, none⟩) z ((l.drop i).take z) := by
    refine ⟨by simp; omega, by unfold maxLen; omega, fun _ => ⟨b, off + i * 8, rfl, fun j hj => ?_⟩⟩
    have e : ((l.drop i).take z).getD j default = l.getD (i + j) default := by
      simp [List.getD_eq_getElem?_getD, List.getElem?_take, List.getElem?_drop, hj]
    rw [e, show off + i * 8 + j * 8 = off + (i + j) * 8 by omega]
    exact hc (i + j) (by omega)
  have HSEL := Lib.hid hsel
  have g0 : decide ((len : Int) ≤ (i : Int)) = false := by simp; omega
  have g0n : decide (len ≤ i) = false := by simp; omega
  have hm2 : cap ≤ 9223372036854775807 := by unfold maxLen at hcm; omega
  have e1 : (q : Int) ≤ (cap : Int) := by omega
  have e2 : (i : Int) ≤ (q : Int) := by omega
  clear hsel hc h hz
  go_enter Tryz.func30, Tryz.ntmps30
  go_wp2
  go_ret
  exact ⟨_, q - i, cap - i, _, rfl, by rw [show q - i = z by omega]; exact HSEL, rfl⟩
end Go.Proofs.YtoanofdomhnafaaGreatDoor
