/- The walk of FnIndexOfIn. -/
import Derived.Test.YtobnglgnoflbnaaIndexOf
import Derived.Test.YtobnglgnoflbnaaPlaces
import Derived.Test.YtobnglgnoflbnaaFits
import Derived.BigGuardPart
namespace Go.Proofs.Ytobnglgnoflbnaa.lawFnIndexOfIn
open Go.RowKit
set_option linter.unusedVariables false
set_option linter.unusedSimpArgs false

/-- The last place ahead of k where a number stands. -/
def lastAt (l : List Nat) (o : Nat) : Nat → Int
  | 0 => -1
  | k + 1 => if l.getD k 0 = o then (k : Int) else lastAt l o k

theorem lastAt_is {l : List Nat} {o : Nat} : ∀ k, k ≤ l.length → (lastAt l o k = -1 ∧ ∀ i, i < k → l.getD i 0 ≠ o) ∨ (∃ i : Nat, lastAt l o k = (i : Int) ∧ i < k ∧ l.getD i 0 = o) := by
  intro k
  induction k with
  | zero => intro _; exact .inl ⟨rfl, fun i hi => by omega⟩
  | succ k ih =>
    intro hk
    simp only [lastAt]
    split
    · rename_i h; exact .inr ⟨k, rfl, by omega, h⟩
    · rename_i h
      rcases ih (by omega) with ⟨h1, h2⟩ | ⟨i, h1, h2, h3⟩
      · refine .inl ⟨h1, fun i hi => ?_⟩
        by_cases e : i = k
        · subst e; exact h
        · exact h2 i (by omega)
      · exact .inr ⟨i, h1, by omega, h3⟩

theorem lastAt_end {l : List Nat} (hon : Once l) (o : Nat) : lastAt l o l.length = findI l o := by
  rcases lastAt_is (l := l) (o := o) l.length (Nat.le_refl _) with ⟨h1, h2⟩ | ⟨i, h1, h2, h3⟩
  · rw [h1, findI_none]
    intro hm
    obtain ⟨k, hk, rfl⟩ := List.getElem_of_mem hm
    exact h2 k hk (by simp [List.getD, hk])
  · rw [h1, findI_some h2 h3 (fun j hj he => hon j i hj h2 (by rw [he, h3]))]

set_option maxRecDepth 100000 in
set_option maxHeartbeats 4000000 in
theorem walk {W : World} (a : Option Addr) (len cap : Nat) (ts : List NodeD) (h : Nodes W a len ts ∧ len ≤ cap ∧ cap ≤ maxLen) (a1 : Option Addr) (n1 c1 : Nat) (z1 : List Int) (h1 : Ints W a1 n1 z1 ∧ n1 ≤ c1 ∧ c1 ≤ maxLen) (a2 : Option Addr) (n2 c2 : Nat) (z2 : List Int) (h2 : Ints W a2 n2 z2 ∧ n2 ≤ c2 ∧ c2 ≤ maxLen) :
    Calls Try.prog 5 #[.slice a len cap, .slice a1 n1 c1, .slice a2 n2 c2] W (YesB W) := by
  obtain ⟨hN, hN2⟩ := h
  obtain ⟨h1, hc1⟩ := h1
  obtain ⟨h2, hc2⟩ := h2
  have hm1 := h1.open.2.1
  have hm2 := h2.open.2.1
  have HN := Lib.hid hN
  have H1 := Lib.hid (And.intro h1 hc1)
  have H2 := Lib.hid (And.intro h2 hc2)
  clear hN hN2 h1 h2 hc1 hc2
  go_enter Try.func5, Try.ntmps5
  go_wp2_with fail
  refine (fits1_any a len cap ts W HN.out).mono ?_
  rintro e w1 ⟨b1, _, rfl, hb1⟩
  have HB1 := Lib.hid hb1
  clear hb1
  cases b1
  · go_wp2
    go_ret
    exact ⟨rfl, HB1.out⟩
  by_cases q1 : (2147483647 : Int) < (n1 : Int)
  · have g1 : decide ((2147483647 : Int) < (n1 : Int)) = true := by simp [q1]
    clear q1
    go_wp2
    go_ret
    exact ⟨rfl, HB1.out⟩
  have g1 : decide ((2147483647 : Int) < (n1 : Int)) = false := by simp [q1]
  clear q1
  by_cases q2 : (2147483647 : Int) < (n2 : Int)
  · have g2 : decide ((2147483647 : Int) < (n2 : Int)) = true := by simp [q2]
    clear q2
    go_wp2
    go_ret
    exact ⟨rfl, HB1.out⟩
  have g2 : decide ((2147483647 : Int) < (n2 : Int)) = false := by simp [q2]
  clear q2
  go_wp2_with fail
  refine (right_any a len cap ts w1 (HN.out.below HB1.out)).mono ?_
  rintro e w2 ⟨b2, hb2, rfl, hbel2⟩
  have HB2 := Lib.hid (HB1.out.trans (hbel2.mono HB1.out.size))
  clear hbel2 HB1
  cases b2
  · go_wp2
    go_ret
    exact ⟨rfl, HB2.out⟩
  have HR := Lib.hid (hb2 rfl)
  clear hb2
  go_wp2_with fail
  refine (order_any a len cap a1 n1 c1 z1 w2 (H1.out.1.below HB2.out)).mono ?_
  rintro e w3 ⟨b3, hb3, rfl, hbel3⟩
  have HB3 := Lib.hid (HB2.out.trans (hbel3.mono HB2.out.size))
  clear hbel3 HB2
  cases b3
  · go_wp2
    go_ret
    exact ⟨rfl, HB3.out⟩
  obtain ⟨l1, hp1⟩ := (hb3 rfl).places H1.out.1.open.1
  clear hb3
  go_wp2_with fail
  refine (order_any a len cap a2 n2 c2 z2 w3 (H2.out.1.below HB3.out)).mono ?_
  rintro e w4 ⟨b4, hb4, rfl, hbel4⟩
  have HB4 := Lib.hid (HB3.out.trans (hbel4.mono HB3.out.size))
  clear hbel4 HB3
  cases b4
  · go_wp2
    go_ret
    exact ⟨rfl, HB4.out⟩
  obtain ⟨l2, hp2⟩ := (hb4 rfl).places H2.out.1.open.1
  clear hb4
  have HP1 := Lib.hid hp1
  have HP2 := Lib.hid hp2
  have hl1 : l1.length = n1 := by rw [← hp1.len]; exact H1.out.1.open.1
  have hl2 : l2.length = n2 := by rw [← hp2.len]; exact H2.out.1.open.1
  clear hp1 hp2
  subst hl1 hl2
  have hle1 : l1.length ≤ 200 := Nat.le_trans HP1.out.le HR.out.le
  have hle2 : l2.length ≤ 200 := Nat.le_trans HP2.out.le HR.out.le
  have hcall := fun (w : World) (hb : Below W.heap.size W w) => indexOfIn_any w a len cap ts HR.out (HN.out.below hb) (.slice a1 l1.length c1) (.slice a2 l2.length c2) l1 l2 (HP1.out.reads (H1.out.1.below hb) H1.out.2.1 H1.out.2.2) (HP2.out.reads (H2.out.1.below hb) H2.out.2.1 H2.out.2.2) HP1.out.lt HP2.out.lt HP1.out.once hle1 hle2
  have HCALL := Lib.hid hcall
  clear hcall
  obtain ⟨_, _, b1, off1, ha1, hk1⟩ := H1.out.1.open
  obtain ⟨_, _, b2, off2, ha2, hk2⟩ := H2.out.1.open
  have HA1 := Lib.hid (And.intro ha1 hk1)
  have HA2 := Lib.hid (And.intro ha2 hk2)
  clear ha1 ha2 hk1 hk2
  by_cases h0 : l2.length = 0
  · have hix : ixOf l1 l2 = -1 := by simp [ixOf, h0]
    have HCC : ∀ (w : World), Below W.heap.size W w → Calls Try.prog 19 #[.slice a len cap, .slice a1 l1.length c1, .slice a2 0 c2] w (TwoPost (-1) w) := fun w hb => by
      have hcc := HCALL.out w hb
      rw [hix, h0] at hcc
      exact hcc
    have HCC := Lib.hid HCC
    rw [h0]
    clear hix HCALL HA1 HA2 H2 g2 h0
    go_wp2
    go_loopw [7, 8] (fun x i wr => i = .int .i64 0 ∧ x = .int .i64 (-1) ∧ Below W.heap.size W wr) (fun _ _ _ => 0)
    case atStart => exact ⟨rfl, rfl, HB4.out⟩
    case round =>
      obtain ⟨rfl, rfl, hb⟩ := hrel
      have HB := Lib.hid hb
      have hcc := HCC.out wr hb
      have HC := Lib.hid hcc
      clear hb hcc
      by_cases hz : l1.length = 0
      · rw [hz] at HC ⊢
        clear hz
        go_wp2_with fail
        refine HC.out.mono ?_
        rintro e w5 ⟨rfl, hb5⟩
        have HB5 := Lib.hid (HB.out.trans (hb5.mono HB.out.size))
        clear hb5
        go_wp2
        go_ret
        exact ⟨rfl, HB5.out⟩
      · have gz : decide ((0 : Int) < (l1.length : Int)) = true := decide_eq_true (by omega)
        have gzI : (0 : Int) < (l1.length : Int) := by omega
        clear hz
        go_wp2_with fail
        refine HC.out.mono ?_
        rintro e w5 ⟨rfl, hb5⟩
        have HB5 := Lib.hid (HB.out.trans (hb5.mono HB.out.size))
        clear hb5
        go_wp2
        go_ret
        exact ⟨rfl, HB5.out⟩
  · have hix : ixOf l1 l2 = findI l1 (l2.getD 0 0) := by simp [ixOf, h0]
    obtain ⟨o, ho⟩ : ∃ o, l2.getD 0 0 = o := ⟨_, rfl⟩
    obtain rfl := HA2.out.1 (by omega)
    have ko : ∀ (w : World), Below W.heap.size W w → w.cell? ⟨b2, off2, none⟩ = some (.int .i64 (o : Int)) := fun w hb => by
      have := HA2.out.2 0 (by omega)
      rw [HP2.out.get (by omega), ho, Nat.add_zero] at this
      exact (hb.cell (p := ⟨b2, off2, none⟩) (World.block_lt_of_cell? _ _ this)).trans this
    have HCC : ∀ (w : World), Below W.heap.size W w → Calls Try.prog 19 #[.slice a len cap, .slice a1 l1.length c1, .slice (some ⟨b2, off2, none⟩) l2.length c2] w (TwoPost (lastAt l1 o l1.length) w) := fun w hb => by
      have hcc := HCALL.out w hb
      rw [hix, ho] at hcc
      rw [lastAt_end HP1.out.once]
      exact hcc
    have HCC := Lib.hid HCC
    have HKO := Lib.hid ko
    have g0 : decide ((0 : Int) < (l2.length : Int)) = true := decide_eq_true (by omega)
    have g0I : (0 : Int) < (l2.length : Int) := by omega
    clear hix HCALL HA2 H2 g2 h0 ho ko
    go_wp2
    go_loopw [7, 8] (fun x i wr => ∃ k : Nat, i = .int .i64 (k : Int) ∧ k ≤ l1.length ∧ x = .int .i64 (lastAt l1 o k) ∧ Below W.heap.size W wr) (fun _ i _ => l1.length - (intOf i).toNat)
    case atStart => exact ⟨0, by go_num, by omega, rfl, HB4.out⟩
    case round =>
      obtain ⟨k, rfl, hk, rfl, hb⟩ := hrel
      have HB := Lib.hid hb
      have hko := HKO.out wr hb
      clear hb
      by_cases hlt : k < l1.length
      · obtain rfl := HA1.out.1 (by omega)
        have hkk := HA1.out.2 k hlt
        rw [HP1.out.get hlt] at hkk
        have hkk := (HB.out.cell (p := ⟨b1, off1 + k, none⟩) (World.block_lt_of_cell? _ _ hkk)).trans hkk
        obtain ⟨x, hx⟩ : ∃ x, l1.getD k 0 = x := ⟨_, rfl⟩
        rw [hx] at hkk
        have hkI : (k : Int) < (l1.length : Int) := by omega
        by_cases he : x = o
        · have ge : ((x : Int) == (o : Int)) = true := by simp [he]
          have hl : lastAt l1 o (k + 1) = (k : Int) := by
            rw [lastAt, if_pos]
            rw [hx]; exact he
          have HL := Lib.hid hl
          clear he hl hx
          go_wp2
          go_quiet (fail)
          go_wp2
          go_roundw
          case rel => exact ⟨k + 1, by go_num, by omega, by rw [HL.out], below_drewN HB.out _⟩
          case measure => simp [intOf]; omega
        · have ge : ((x : Int) == (o : Int)) = false := by simp; omega
          have hl : lastAt l1 o (k + 1) = lastAt l1 o k := by
            rw [lastAt, if_neg]
            rw [hx]; exact he
          have HL := Lib.hid hl
          clear he hl hx
          go_wp2
          go_quiet (fail)
          go_wp2
          go_roundw
          case rel => exact ⟨k + 1, by go_num, by omega, by rw [HL.out], below_drewN HB.out _⟩
          case measure => simp [intOf]; omega
      · obtain rfl : k = l1.length := by omega
        have hcc := HCC.out wr HB.out
        have HC := Lib.hid hcc
        clear hcc
        go_wp2_with fail
        refine HC.out.mono ?_
        rintro e w5 ⟨rfl, hb5⟩
        have HB5 := Lib.hid (HB.out.trans (hb5.mono HB.out.size))
        clear hb5
        go_wp2
        go_ret
        exact ⟨rfl, HB5.out⟩

end Go.Proofs.Ytobnglgnoflbnaa.lawFnIndexOfIn
