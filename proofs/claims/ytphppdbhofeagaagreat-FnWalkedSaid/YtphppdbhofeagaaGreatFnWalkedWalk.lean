/- The walk of FnWalked. -/
import Derived.Test.YtphppdbhofeagaaGreatWkWalkedAll
import Derived.Test.YtphppdbhofeagaaGreatRisingAll
import Derived.Test.YtphppdbhofeagaaGreatViewsAll
import Derived.Deep.RegionHeld3
namespace Go.Proofs.YtphppdbhofeagaaGreat
open Go.RowKit
set_option linter.unusedVariables false
set_option linter.unusedSimpArgs false

/-- Some bool; what was there is as it was. -/
def AnyB (w : World) (e : Ending) (w' : World) : Prop := ∃ b : Bool, e = .returned (.bool b) ∧ Hid (Below w.heap.size w w')

set_option maxRecDepth 100000 in
set_option maxHeartbeats 1000000 in
theorem fits12_any (op pa pb : Int) (tx : ByteArray) (wa : Option Addr) (wn wc : Nat) (w : World) (htx : tx.size ≤ maxLen) (hwn : wn ≤ 9223372036854775807) :
    Calls Tryz.prog 23 #[.agg #[.int .i64 op, .string tx, .slice wa wn wc, .int .i64 pa, .int .i64 pb]] w (AnyB w) := by
  have hb0 : Below w.heap.size w (w.alloc (.cells #[.int .i64 op, .string tx, .slice wa wn wc, .int .i64 pa, .int .i64 pb] 27)) := (Below.refl _ _).alloc (Nat.le_refl _) _
  have HB := Lib.hid hb0
  clear hb0
  by_cases h1 : (2147483647 : Int) < (tx.size : Int)
  · go_enter Tryz.func23, Tryz.ntmps23
    go_wp2
    go_ret
    exact ⟨_, rfl, HB⟩
  · by_cases h2 : (2147483647 : Int) < (wn : Int)
    · go_enter Tryz.func23, Tryz.ntmps23
      go_wp2
      go_ret
      exact ⟨_, rfl, HB⟩
    · go_enter Tryz.func23, Tryz.ntmps23
      go_wp2
      go_ret
      exact ⟨_, rfl, HB⟩

set_option maxRecDepth 100000 in
set_option maxHeartbeats 2000000 in
theorem fits11_any (a : Option Addr) (n c : Nat) (ps : List PickD) (w : World) (hP : Picks w a n ps) :
    Calls Tryz.prog 11 #[.slice a n c] w (AnyB w) := by
  obtain ⟨b, off, hpa, hcells⟩ := hP.open
  have hm : n ≤ 9223372036854775807 := hP.2.1
  have HPA := Lib.hid hpa
  have HPC := Lib.hid hcells
  clear hpa hcells hP
  by_cases hbig : (2147483647 : Int) < (n : Int)
  · go_enter Tryz.func11, Tryz.ntmps11
    go_wp2
    go_ret
    exact ⟨_, rfl, Lib.hid (Below.refl _ _)⟩
  go_enter Tryz.func11, Tryz.ntmps11
  go_wp2
  go_loopw [10] (fun i wr => ∃ k : Nat, i = .int .i64 (k : Int) ∧ k ≤ n ∧ Hid (Below w.heap.size w wr)) (fun i _ => n - (intOf i).toNat)
  case atStart => exact ⟨0, by go_num, by omega, Lib.hid (Below.refl _ _)⟩
  case round =>
    obtain ⟨k, rfl, hk, hb⟩ := hrel
    by_cases hlt : k < n
    · obtain rfl := HPA.out (by omega)
      have hpc := (HPC.out k hlt).below hb.out
      obtain ⟨d, hd⟩ : ∃ d, ps.getD k default = d := ⟨_, rfl⟩
      rw [hd] at hpc
      clear hd
      obtain ⟨op, tx, wa, wn, wc, zs, pa', pb'⟩ := d
      obtain ⟨x0, x1, x2, x3, x4, hints, hcap, _, _, htx⟩ := hpc
      simp only at x0 x1 x2 x3 x4 hints hcap htx
      have hkI : (k : Int) < (n : Int) := by omega
      have hb0 : Below wr.heap.size wr (wr.alloc (.cells #[.int .i64 op, .string tx, .slice wa wn wc, .int .i64 pa', .int .i64 pb'] 27)) := (Below.refl _ _).alloc (Nat.le_refl _) _
      have hp : ∀ i u, (#[.int .i64 op, .string tx, .slice wa wn wc, .int .i64 pa', .int .i64 pb'] : Array Value)[i]? = some u → (wr.alloc (.cells #[.int .i64 op, .string tx, .slice wa wn wc, .int .i64 pa', .int .i64 pb'] 27)).cell? ⟨wr.heap.size, i, none⟩ = some u := fun i u h => cell_alloc_new' _ _ _ rfl h
      obtain ⟨wp, hwp⟩ : ∃ wp, wr.alloc (.cells #[.int .i64 op, .string tx, .slice wa wn wc, .int .i64 pa', .int .i64 pb'] 27) = wp := ⟨_, rfl⟩
      rw [hwp] at hb0 hp
      have q0 : wp.cell? ⟨wr.heap.size, 0, none⟩ = some (.int .i64 op) := hp 0 _ rfl
      have q1 : wp.cell? ⟨wr.heap.size, 1, none⟩ = some (.string tx) := hp 1 _ rfl
      have q2 : wp.cell? ⟨wr.heap.size, 2, none⟩ = some (.slice wa wn wc) := hp 2 _ rfl
      have q3 : wp.cell? ⟨wr.heap.size, 3, none⟩ = some (.int .i64 pa') := hp 3 _ rfl
      have q4 : wp.cell? ⟨wr.heap.size, 4, none⟩ = some (.int .i64 pb') := hp 4 _ rfl
      have h12 := fits12_any op pa' pb' tx wa wn wc wp htx (by have := hcap.2; unfold maxLen at this; omega)
      have H12 := Lib.hid h12
      have HBP := Lib.hid (hb.out.trans (hb0.mono hb.out.size))
      have HHW := Lib.hid hwp
      clear h12 hp hb0 hints hcap htx hwp
      go_wp2_with fail
      rw [HHW.out]
      refine H12.out.mono ?_
      rintro e w2 ⟨b2, rfl, hb2⟩
      have HB2 := Lib.hid (HBP.out.trans (hb2.out.mono HBP.out.size))
      clear hb2 H12
      cases b2
      · go_wp2
        go_ret
        exact ⟨_, rfl, HB2⟩
      · go_wp2
        go_roundw
        case rel => exact ⟨k + 1, by go_num, by omega, HB2⟩
        case measure => simp [intOf]; omega
    · obtain rfl : k = n := by omega
      go_wp2
      go_ret
      exact ⟨_, rfl, hb⟩

namespace lawFnWalked

set_option maxRecDepth 100000 in
set_option maxHeartbeats 8000000 in
theorem walk {W : World} (a : Option Addr) (len cap : Nat) (ts : List NodeD) (h : Nodes W a len ts ∧ len ≤ cap ∧ cap ≤ maxLen) (a1 : Option Addr) (n1 c1 : Nat) (z1 : List Int) (h1 : (Ints W a1 n1 z1 ∧ n1 ≤ c1 ∧ c1 ≤ maxLen) ∧ SpotAt W a1 n1 c1) (a2 : Option Addr) (n2 c2 : Nat) (ps : List PickD) (h2 : Picks W a2 n2 ps ∧ n2 ≤ c2 ∧ c2 ≤ maxLen) :
    Calls Tryz.prog 4 #[.slice a len cap, .slice a1 n1 c1, .slice a2 n2 c2] W (YesB W) := by
  obtain ⟨hN, hN2⟩ := h
  obtain ⟨⟨h1, hc1⟩, hsp⟩ := h1
  obtain ⟨hP, hP2⟩ := h2
  have hm1 := h1.open.2.1
  have hm2 : n2 ≤ 9223372036854775807 := hP.2.1
  obtain ⟨pb, poff, hpa, hcells⟩ := hP.open
  have HPA := Lib.hid hpa
  have HPC := Lib.hid hcells
  have HN := Lib.hid hN
  have H1 := Lib.hid (And.intro h1 (And.intro hc1 hsp))
  have HP := Lib.hid hP
  clear hN hN2 h1 hc1 hP hP2 hpa hcells hsp
  go_enter Tryz.func4, Tryz.ntmps4
  go_wp2_with fail
  refine (fits1_any a len cap ts W HN.out).mono ?_
  rintro e w1 ⟨b1, _, rfl, hb1⟩
  have HB1 := Lib.hid hb1
  clear hb1
  cases b1
  · go_wp2
    go_ret
    exact ⟨rfl, HB1.out⟩
  by_cases q1 : (2147483647 : Int) < (n1 : Int)
  · have g1 : decide ((2147483647 : Int) < (n1 : Int)) = true := by simp [q1]
    clear q1
    go_wp2
    go_ret
    exact ⟨rfl, HB1.out⟩
  have g1 : decide ((2147483647 : Int) < (n1 : Int)) = false := by simp [q1]
  clear q1
  go_wp2_with fail
  refine (fits11_any a2 n2 c2 ps w1 (HP.out.below HB1.out)).mono ?_
  rintro e w2 ⟨b2, rfl, hb2⟩
  have HB2 := Lib.hid (HB1.out.trans (hb2.out.mono HB1.out.size))
  clear hb2 HB1
  cases b2
  · go_wp2
    go_ret
    exact ⟨rfl, HB2.out⟩
  go_wp2_with fail
  refine (rising3_any a len cap ts a1 n1 c1 z1 w2 (HN.out.below HB2.out) ⟨H1.out.1.below HB2.out, H1.out.2.1⟩).mono ?_
  rintro e w3 ⟨b3, hb3, rfl, hbel3⟩
  have HB3 := Lib.hid (HB2.out.trans (hbel3.mono HB2.out.size))
  clear hbel3 HB2
  cases b3
  · go_wp2
    go_ret
    exact ⟨rfl, HB3.out⟩
  obtain ⟨hR, l, hp, hk⟩ := hb3 rfl
  clear hb3
  by_cases q2 : (8 : Int) < (n2 : Int)
  · have g2 : decide ((8 : Int) < (n2 : Int)) = true := by simp [q2]
    clear q2 hR hp hk
    go_wp2
    go_ret
    exact ⟨rfl, HB3.out⟩
  have g2 : decide ((8 : Int) < (n2 : Int)) = false := by simp [q2]
  have hn8 : n2 ≤ 8 := by omega
  have HR := Lib.hid (And.intro hR (And.intro hp hk))
  clear q2 hR hp hk
  go_wp2
  go_loopw [7] (fun i wr => ∃ (k : Nat) (wl : Nat → List Nat), i = .int .i64 (k : Int) ∧ k ≤ n2 ∧ Hid (∀ j, j < k → PickOk len (ps.getD j default) (wl j) ∧ ∀ y ∈ wl j, kd ts y = 3) ∧ Hid (Below W.heap.size W wr)) (fun i _ => n2 - (intOf i).toNat)
  case atStart => exact ⟨0, fun _ => [], by go_num, by omega, Lib.hid (fun j hj => by omega), HB3⟩
  case round =>
    obtain ⟨k, wl, rfl, hk, hwl, hbel⟩ := hrel
    by_cases hlt : k < n2
    · obtain rfl := HPA.out (by omega)
      have hpc := (HPC.out k hlt).below hbel.out
      obtain ⟨d, hd⟩ : ∃ d, ps.getD k default = d := ⟨_, rfl⟩
      have HD := Lib.hid hd
      rw [hd] at hpc
      clear hd
      obtain ⟨op, tx, wa, wn, wc, zs, pa', pb'⟩ := d
      obtain ⟨x0, x1, x2, x3, x4, hints, hcap, _, _, htx⟩ := hpc
      simp only at x0 x1 x2 x3 x4 hints hcap htx
      have hkI : (k : Int) < (n2 : Int) := by omega
      have hor := order_any a len cap wa wn wc zs wr hints
      have HOR := Lib.hid hor
      have HI := Lib.hid (And.intro hints hcap)
      clear hor hints hcap htx
      go_wp2_with fail
      refine HOR.out.mono ?_
      rintro e w4 ⟨b4, hb4, rfl, hbel4⟩
      have HB4 := Lib.hid (hbel.out.trans (hbel4.mono hbel.out.size))
      have x2' := cell_below hbel4 x2
      have HI4 := Lib.hid (And.intro (HI.out.1.below hbel4) HI.out.2)
      clear hbel4 HOR x0 x1 x3 x4
      cases b4
      · go_wp2
        go_ret
        exact ⟨rfl, HB4.out⟩
      obtain ⟨l4, hp4⟩ := (hb4 rfl).places HI4.out.1.open.1
      have HP4 := Lib.hid hp4
      have hel := elementsOk_any a len cap ts (.slice wa wn wc) l4 w4 (HN.out.below HB4.out) (hp4.reads HI4.out.1 HI4.out.2.1 HI4.out.2.2) hp4.lt
      have HEL := Lib.hid hel
      clear hb4 hp4 hel
      go_wp2_with fail
      refine HEL.out.mono ?_
      rintro e w5 ⟨b5, hk5, rfl, hbel5⟩
      have HB5 := Lib.hid (HB4.out.trans (hbel5.mono HB4.out.size))
      have HK5 := Lib.hid hk5
      clear hbel5 HEL hk5
      cases b5
      · go_wp2
        go_ret
        exact ⟨rfl, HB5.out⟩
      have hnew : Hid (∀ j, j < k + 1 → PickOk len (ps.getD j default) ((fun i => if i = k then l4 else wl i) j) ∧ ∀ y ∈ (fun i => if i = k then l4 else wl i) j, kd ts y = 3) := Lib.hid (fun j hj => by
        by_cases e : j = k
        · subst e
          simp only [if_true]
          rw [HD.out]
          exact ⟨⟨HP4.out, fun y hy => by
            rcases Nat.eq_zero_or_pos y with h0 | h0
            · have h3 := HK5.out rfl y hy
              rw [h0, HR.out.1.kind] at h3
              omega
            · exact h0⟩, HK5.out rfl⟩
        · simp only [if_neg e]
          exact hwl.out j (by omega))
      clear HD HI HI4 HP4 HK5 hwl hbel HB4
      go_wp2
      go_roundw
      case rel => exact ⟨k + 1, _, by go_num, by omega, hnew, HB5⟩
      case measure => simp [intOf]; omega
    · obtain rfl : k = n2 := by omega
      have hle : l.length ≤ 200 := Nat.le_trans HR.out.2.1.le HR.out.1.le
      have hpos : ∀ x ∈ l, x < len ∧ 0 < x := fun i hi => ⟨HR.out.2.1.lt i hi, by
        rcases Nat.eq_zero_or_pos i with h0 | h0
        · have h3 := HR.out.2.2 i hi
          rw [h0, HR.out.1.kind] at h3
          omega
        · exact h0⟩
      have hrd := HR.out.2.1.reads (H1.out.1.below hbel.out) H1.out.2.1.1 H1.out.2.1.2
      have hon : IntsOn wr (.slice a1 n1 c1) l := ⟨hrd, by
        rcases H1.out.2.2 with ⟨rfl, rfl, rfl⟩ | ⟨b, off, rfl, _⟩
        · exact .inl rfl
        · exact .inr ⟨b, off, n1, c1, rfl⟩⟩
      have hv0 : ∀ b, (Value.slice a1 n1 c1).ownBlock = some b → b < wr.heap.size := fun b hb => by
        rcases H1.out.2.2 with ⟨rfl, rfl, rfl⟩ | ⟨b', off, rfl, h9⟩
        · simp [Value.ownBlock] at hb
        · simp [Value.ownBlock] at hb
          subst hb
          have := hbel.out.size
          omega
      have hwr := walkR_any wr a len cap ts HR.out.1 (HN.out.below hbel.out) (.slice a1 n1 c1) l hon HR.out.2.1.once hpos hv0 a2 k c2 ps (HP.out.below hbel.out) hn8 wl (fun i hi => (hwl.out i hi).1)
      have HWR := Lib.hid hwr
      have HPO := Lib.hid hpos
      clear hwr hon hv0 hrd hle hpos hlt hk
      go_wp2_with fail
      refine HWR.out.mono ?_
      rintro e w4 ⟨v1, v2, b4, rfl, hbel4, hsay⟩
      have HB4 := Lib.hid (hbel.out.trans (hbel4.out.mono hbel.out.size))
      cases b4
      · clear hsay
        go_wp2
        go_ret
        exact ⟨rfl, HB4.out⟩
      obtain ⟨cl, ck, vs, hch, hr1, hvl, hrows, hr2⟩ := hsay.out rfl
      have hwk := walkedW_any w4 a len cap ts HR.out.1 (HN.out.below HB4.out) (.slice a1 n1 c1) l (HR.out.2.1.reads (H1.out.1.below HB4.out) H1.out.2.1.1 H1.out.2.1.2) HR.out.2.1.once HPO.out a2 k c2 ps (HP.out.below HB4.out) hn8 wl (fun i hi => (hwl.out i hi).1) (fun i hi => (hwl.out i hi).2) cl ck hch
      have HWK := Lib.hid hwk
      have HROW := Lib.hid (And.intro hr1 (And.intro hvl (And.intro hrows hr2)))
      obtain ⟨sa1, sc1, hv1, _⟩ := hr1.nil
      obtain ⟨sa2, sc2, hv2, _⟩ := hr2.nil
      rw [hvl] at hv1
      rw [rowsK_len] at hv2
      subst hv1 hv2
      clear hsay hch hr1 hvl hrows hr2 hwk HWR hbel4 hbel hwl
      go_wp2_with fail
      refine HWK.out.mono ?_
      rintro e w5 ⟨v3, vs3, Ms, rfl, hr3, hms, hbel5⟩
      obtain ⟨sa3, sc3, hv3, _⟩ := hr3.out.nil
      rw [hms.out.1] at hv3
      subst hv3
      have HB5 := Lib.hid (HB4.out.trans (hbel5.out.mono HB4.out.size))
      have HROW5 := Lib.hid (And.intro (HROW.out.1.below hbel5.out) (And.intro HROW.out.2.1 (And.intro (fun j hj => (HROW.out.2.2.1 j hj).below hbel5.out) (HROW.out.2.2.2.below hbel5.out))))
      clear hbel5 HWK HROW HB4
      have hkk : ((k : Int) != (k : Int)) = false := by simp
      go_wp2
      go_loopw [13] (fun i wr => ∃ k2 : Nat, i = .int .i64 (k2 : Int) ∧ k2 ≤ k ∧ Hid (Below w5.heap.size w5 wr)) (fun i _ => k - (intOf i).toNat)
      case atStart => exact ⟨0, by go_num, by omega, Lib.hid (Below.refl _ _)⟩
      case round =>
        obtain ⟨j, rfl, hj, hbj⟩ := hrel
        by_cases hlt2 : j < k
        · have hjI : (j : Int) < (k : Int) := by omega
          have hA := (hms.out.2 j hlt2).2
          obtain ⟨b1, o1, e1, hc1⟩ : ∃ b o, sa1 = some ⟨b, o, none⟩ ∧ w5.cell? ⟨b, o + j, none⟩ = some (vs.getD j undef) := by
            obtain ⟨b, o, c, he, _, hcell⟩ := HROW5.out.1.at (by rw [HROW5.out.2.1]; omega)
            simp at he
            exact ⟨b, o, he.1, hcell j (by rw [HROW5.out.2.1]; exact hlt2)⟩
          obtain ⟨b3, o3, e3, hc3⟩ : ∃ b o, sa3 = some ⟨b, o, none⟩ ∧ w5.cell? ⟨b, o + j, none⟩ = some (vs3.getD j undef) := by
            obtain ⟨b, o, c, he, _, hcell⟩ := hr3.out.at (by rw [hms.out.1]; omega)
            simp at he
            exact ⟨b, o, he.1, hcell j (by rw [hms.out.1]; exact hlt2)⟩
          obtain ⟨b2, o2, e2, hc2⟩ : ∃ b o, sa2 = some ⟨b, o, none⟩ ∧ w5.cell? ⟨b, o + j, none⟩ = some (.bool (ck (j + 1))) := by
            obtain ⟨b, o, c, he, _, hcell⟩ := HROW5.out.2.2.2.at (by rw [rowsK_len]; omega)
            simp at he
            have h9 := hcell j (by rw [rowsK_len]; exact hlt2)
            have h8 : (rowsK ck k).getD j undef = .bool (ck (j + 1)) := by simp [rowsK, List.getD, hlt2]
            rw [h8] at h9
            exact ⟨b, o, he.1, h9⟩
          subst e1 e2 e3
          obtain ⟨vW, hvW⟩ : ∃ v, vs.getD j undef = v := ⟨_, rfl⟩
          obtain ⟨vS, hvS⟩ : ∃ v, vs3.getD j undef = v := ⟨_, rfl⟩
          obtain ⟨q, hq⟩ : ∃ q, ck (j + 1) = q := ⟨_, rfl⟩
          have hrW := HROW5.out.2.2.1 j hlt2
          have hrS := (hms.out.2 j hlt2).1
          rw [hvW] at hc1 hrW
          rw [hvS] at hc3 hrS
          rw [hq] at hc2 hA
          obtain ⟨L, hL⟩ : ∃ L, cl (j + 1) = L := ⟨_, rfl⟩
          obtain ⟨M, hM⟩ : ∃ M, Ms j = M := ⟨_, rfl⟩
          rw [hL] at hrW hA
          rw [hM] at hrS hA
          obtain ⟨wa1, wc1, hw1, _⟩ := hrW.nil
          obtain ⟨wa3, wc3, hw3, _⟩ := hrS.nil
          rw [List.length_map] at hw1 hw3
          subst hw1 hw3
          have HA := Lib.hid hA
          have HRS := Lib.hid (And.intro hrW hrS)
          have hlen := HR.out.1.le
          have hML : M.length ≤ 200 := Nat.le_trans hA.leP hlen
          have x1 := cell_below hbj.out hc1
          have x2 := cell_below hbj.out hc2
          have x3 := cell_below hbj.out hc3
          have HC := Lib.hid (And.intro hc1 (And.intro hc2 hc3))
          clear hA hrW hrS hvW hvS hq hL hM hc1 hc2 hc3
          go_wp2_with fail
          refine wp_region_any (by kernel_rfl) ?_
          try (change wpAny _ _ _ _ _ _ _ (World.drew _))
          obtain ⟨wd, hwd⟩ : ∃ wd, wr.drew = wd := ⟨_, rfl⟩
          have hbd : Below w5.heap.size w5 wd := by rw [← hwd]; exact hbj.out.drew
          rw [hwd]
          have hHeld : wd.cell? ⟨b3, o3 + j, none⟩ = some (.slice wa3 M.length wc3) ∧ wd.cell? ⟨b1, o1 + j, none⟩ = some (.slice wa1 L.length wc1) ∧ wd.cell? ⟨b2, o2 + j, none⟩ = some (.bool q) := ⟨cell_below hbd HC.out.2.2, cell_below hbd HC.out.1, cell_below hbd HC.out.2.1⟩
          have HBD := Lib.hid hbd
          have hso := sameOnce2_any (.slice wa3 M.length wc3) (.slice wa1 L.length wc1) M L wd (HRS.out.2.below hbd) (HRS.out.1.below hbd) HA.out.onceP HA.out.len.symm (fun x hx => (HA.out.mem x).1 hx) (by omega)
          have HSO := Lib.hid hso
          clear hwd hbd hso x1 x2 x3
          refine wpAny_of_held (S := fun w' => w'.cell? ⟨b3, o3 + j, none⟩ = some (.slice wa3 M.length wc3) ∧ w'.cell? ⟨b1, o1 + j, none⟩ = some (.slice wa1 L.length wc1) ∧ w'.cell? ⟨b2, o2 + j, none⟩ = some (.bool q)) _ _ _ _ ?_
          refine wpAnyH_take (i := 0) (oi := { dst := some 92, op := .move (.tmp 11), type := 36, pos := "laws7relatives.go:49", after := #[], guard := none }) (v := ?_) rfl (by kernel_rfl) (by kernel_rfl) (by kernel_rfl) (fun _ _ _ h => h) (Or.inl ⟨by rfl, ?_⟩) (by assumption) ?_
          rotate_left 1
          · (intro wx hSw; (try dsimp only at hSw); go_simp; try with_reducible rfl)
          try simp only [Act.put, List.setIfInBounds_toArray, List.set_cons_zero, List.set_cons_succ]
          refine wpAnyH_take (i := 1) (oi := { dst := some 93, op := .move (.tmp 13), type := 3, pos := "laws7relatives.go:49", after := #[], guard := none }) (v := ?_) rfl (by kernel_rfl) (by kernel_rfl) (by kernel_rfl) (fun _ _ _ h => h) (Or.inl ⟨by rfl, ?_⟩) (by assumption) ?_
          rotate_left 1
          · (intro wx hSw; (try dsimp only at hSw); go_simp; try with_reducible rfl)
          try simp only [Act.put, List.setIfInBounds_toArray, List.set_cons_zero, List.set_cons_succ]
          refine wpAnyH_take (i := 2) (oi := { dst := some 94, op := .indexAddr 36 (.tmp 92) (.tmp 93), type := 0, pos := "laws7relatives.go:49", after := #[{ on := 0, ground := .data }, { on := 1, ground := .data }], guard := none }) (v := ?_) rfl (by kernel_rfl) (by kernel_rfl) (by kernel_rfl) (fun _ _ _ h => h) (Or.inl ⟨by rfl, ?_⟩) (by assumption) ?_
          rotate_left 1
          · (intro wx hSw; (try dsimp only at hSw); go_simp; try with_reducible rfl)
          try simp only [Act.put, List.setIfInBounds_toArray, List.set_cons_zero, List.set_cons_succ]
          refine wpAnyH_take (i := 3) (oi := { dst := some 95, op := .load 23 (.tmp 94), type := 23, pos := "laws7relatives.go:49", after := #[{ on := 2, ground := .data }], guard := none }) (v := ?_) rfl (by kernel_rfl) (by kernel_rfl) (by kernel_rfl) (fun _ _ _ h => h) (Or.inl ⟨by rfl, ?_⟩) (by assumption) ?_
          rotate_left 1
          · (intro wz hSw; (try dsimp only at hSw); obtain ⟨s1, s2, s3⟩ := hSw; go_simp; try with_reducible rfl)
          try simp only [Act.put, List.setIfInBounds_toArray, List.set_cons_zero, List.set_cons_succ]
          refine wpAnyH_take (i := 4) (oi := { dst := some 96, op := .move (.tmp 8), type := 36, pos := "laws7relatives.go:49", after := #[], guard := none }) (v := ?_) rfl (by kernel_rfl) (by kernel_rfl) (by kernel_rfl) (fun _ _ _ h => h) (Or.inl ⟨by rfl, ?_⟩) (by assumption) ?_
          rotate_left 1
          · (intro wx hSw; (try dsimp only at hSw); go_simp; try with_reducible rfl)
          try simp only [Act.put, List.setIfInBounds_toArray, List.set_cons_zero, List.set_cons_succ]
          refine wpAnyH_take (i := 5) (oi := { dst := some 97, op := .move (.tmp 13), type := 3, pos := "laws7relatives.go:49", after := #[], guard := none }) (v := ?_) rfl (by kernel_rfl) (by kernel_rfl) (by kernel_rfl) (fun _ _ _ h => h) (Or.inl ⟨by rfl, ?_⟩) (by assumption) ?_
          rotate_left 1
          · (intro wx hSw; (try dsimp only at hSw); go_simp; try with_reducible rfl)
          try simp only [Act.put, List.setIfInBounds_toArray, List.set_cons_zero, List.set_cons_succ]
          refine wpAnyH_take (i := 6) (oi := { dst := some 98, op := .indexAddr 36 (.tmp 96) (.tmp 97), type := 0, pos := "laws7relatives.go:49", after := #[{ on := 4, ground := .data }, { on := 5, ground := .data }], guard := none }) (v := ?_) rfl (by kernel_rfl) (by kernel_rfl) (by kernel_rfl) (fun _ _ _ h => h) (Or.inl ⟨by rfl, ?_⟩) (by assumption) ?_
          rotate_left 1
          · (intro wx hSw; (try dsimp only at hSw); go_simp; try with_reducible rfl)
          try simp only [Act.put, List.setIfInBounds_toArray, List.set_cons_zero, List.set_cons_succ]
          refine wpAnyH_take (i := 7) (oi := { dst := some 99, op := .load 23 (.tmp 98), type := 23, pos := "laws7relatives.go:49", after := #[{ on := 6, ground := .data }], guard := none }) (v := ?_) rfl (by kernel_rfl) (by kernel_rfl) (by kernel_rfl) (fun _ _ _ h => h) (Or.inl ⟨by rfl, ?_⟩) (by assumption) ?_
          rotate_left 1
          · (intro wz hSw; (try dsimp only at hSw); obtain ⟨s1, s2, s3⟩ := hSw; go_simp; try with_reducible rfl)
          try simp only [Act.put, List.setIfInBounds_toArray, List.set_cons_zero, List.set_cons_succ]
          refine wpAnyH_ready (rs := [8]) (by kernel_rfl) (by simp) ?_
          refine AllReadyH.cons (o := { dst := some 100, op := .call { callee := .value (.func 10), args := #[.tmp 95, .tmp 99], argTypes := #[23, 23] }, type := 4, pos := "laws7relatives.go:49", after := #[{ on := 3, ground := .data }, { on := 7, ground := .data }], guard := none }) rfl (fun K hK => ?_) AllReadyH.nil
          go_simp
          go_wp2_with (go_at_call 10; refine HSO.out.mono ?_; rintro e w6 ⟨rfl, hb6⟩)
          have hb56 : Below w5.heap.size w5 w6 := HBD.out.trans (hb6.mono HBD.out.size)
          refine hK.out _ _ ⟨cell_below hb56 HC.out.2.2, cell_below hb56 HC.out.1, cell_below hb56 HC.out.2.1⟩ (fun hHeld => ?_)
          have HB6 := Lib.hid hb56
          clear hK K hb6 hb56 HSO HBD
          try simp only [Act.put, List.setIfInBounds_toArray, List.set_cons_zero, List.set_cons_succ]
          refine wpAnyH_take (i := 9) (oi := { dst := some 101, op := .unOp .not 4 (.tmp 100), type := 4, pos := "laws7relatives.go:49", after := #[{ on := 8, ground := .data }], guard := none }) (v := ?_) rfl (by kernel_rfl) (by kernel_rfl) (by kernel_rfl) (fun _ _ _ h => h) (Or.inl ⟨by rfl, ?_⟩) (by assumption) ?_
          rotate_left 1
          · (intro wx hSw; (try dsimp only at hSw); go_simp; try with_reducible rfl)
          try simp only [Act.put, List.setIfInBounds_toArray, List.set_cons_zero, List.set_cons_succ]
          refine wpAnyH_take (i := 10) (oi := { dst := some 102, op := .move (.tmp 101), type := 4, pos := "laws7relatives.go:49", after := #[{ on := 9, ground := .data }, { on := 8, ground := .chain }], guard := none }) (v := ?_) rfl (by kernel_rfl) (by kernel_rfl) (by kernel_rfl) (fun _ _ _ h => h) (Or.inl ⟨by rfl, ?_⟩) (by assumption) ?_
          rotate_left 1
          · (intro wx hSw; (try dsimp only at hSw); go_simp; try with_reducible rfl)
          try simp only [Act.put, List.setIfInBounds_toArray, List.set_cons_zero, List.set_cons_succ]
          refine wpAnyH_take (i := 11) (oi := { dst := some 103, op := .move (.tmp 9), type := 37, pos := "laws7relatives.go:49", after := #[{ on := 10, ground := .guard }], guard := some (10, false) }) (v := ?_) rfl (by kernel_rfl) (by kernel_rfl) (by kernel_rfl) (fun _ _ _ h => h) (Or.inl ⟨by rfl, ?_⟩) (by assumption) ?_
          rotate_left 1
          · (intro wx hSw; (try dsimp only at hSw); go_simp; try with_reducible rfl)
          try simp only [Act.put, List.setIfInBounds_toArray, List.set_cons_zero, List.set_cons_succ]
          refine wpAnyH_take (i := 12) (oi := { dst := some 104, op := .move (.tmp 13), type := 3, pos := "laws7relatives.go:49", after := #[{ on := 10, ground := .guard }], guard := some (10, false) }) (v := ?_) rfl (by kernel_rfl) (by kernel_rfl) (by kernel_rfl) (fun _ _ _ h => h) (Or.inl ⟨by rfl, ?_⟩) (by assumption) ?_
          rotate_left 1
          · (intro wx hSw; (try dsimp only at hSw); go_simp; try with_reducible rfl)
          try simp only [Act.put, List.setIfInBounds_toArray, List.set_cons_zero, List.set_cons_succ]
          refine wpAnyH_take (i := 13) (oi := { dst := some 105, op := .indexAddr 37 (.tmp 103) (.tmp 104), type := 0, pos := "laws7relatives.go:49", after := #[{ on := 11, ground := .data }, { on := 12, ground := .data }, { on := 10, ground := .guard }], guard := some (10, false) }) (v := ?_) rfl (by kernel_rfl) (by kernel_rfl) (by kernel_rfl) (fun _ _ _ h => h) (Or.inl ⟨by rfl, ?_⟩) (by assumption) ?_
          rotate_left 1
          · (intro wx hSw; (try dsimp only at hSw); go_simp; try with_reducible rfl)
          try simp only [Act.put, List.setIfInBounds_toArray, List.set_cons_zero, List.set_cons_succ]
          refine wpAnyH_take (i := 14) (oi := { dst := some 106, op := .load 4 (.tmp 105), type := 4, pos := "laws7relatives.go:49", after := #[{ on := 13, ground := .data }, { on := 10, ground := .guard }], guard := some (10, false) }) (v := ?_) rfl (by kernel_rfl) (by kernel_rfl) (by kernel_rfl) (fun _ _ _ h => h) (Or.inl ⟨by rfl, ?_⟩) (by assumption) ?_
          rotate_left 1
          · (intro wz hSw; (try dsimp only at hSw); obtain ⟨s1, s2, s3⟩ := hSw; go_simp; try with_reducible rfl)
          try simp only [Act.put, List.setIfInBounds_toArray, List.set_cons_zero, List.set_cons_succ]
          refine wpAnyH_take (i := 15) (oi := { dst := some 107, op := .move (.tmp 106), type := 4, pos := "laws7relatives.go:49", after := #[{ on := 14, ground := .data }, { on := 10, ground := .chain }, { on := 10, ground := .guard }], guard := some (10, false) }) (v := ?_) rfl (by kernel_rfl) (by kernel_rfl) (by kernel_rfl) (fun _ _ _ h => h) (Or.inl ⟨by rfl, ?_⟩) (by assumption) ?_
          rotate_left 1
          · (intro wx hSw; (try dsimp only at hSw); go_simp; try with_reducible rfl)
          try simp only [Act.put, List.setIfInBounds_toArray, List.set_cons_zero, List.set_cons_succ]
          cases q
          · skip
            refine wpAnyH_take (i := 16) (oi := { dst := some 108, op := .move (.tmp 11), type := 36, pos := "laws7relatives.go:49", after := #[{ on := 15, ground := .guard }], guard := some (15, true) }) (v := undef) rfl (by kernel_rfl) (by kernel_rfl) (by kernel_rfl) (fun _ _ _ h => h) (Or.inr ⟨by kernel_rfl, rfl⟩) (by assumption) ?_
            try simp only [Act.put, List.setIfInBounds_toArray, List.set_cons_zero, List.set_cons_succ]
            refine wpAnyH_take (i := 17) (oi := { dst := some 109, op := .move (.tmp 13), type := 3, pos := "laws7relatives.go:49", after := #[{ on := 15, ground := .guard }], guard := some (15, true) }) (v := undef) rfl (by kernel_rfl) (by kernel_rfl) (by kernel_rfl) (fun _ _ _ h => h) (Or.inr ⟨by kernel_rfl, rfl⟩) (by assumption) ?_
            try simp only [Act.put, List.setIfInBounds_toArray, List.set_cons_zero, List.set_cons_succ]
            refine wpAnyH_take (i := 18) (oi := { dst := some 110, op := .indexAddr 36 (.tmp 108) (.tmp 109), type := 0, pos := "laws7relatives.go:49", after := #[{ on := 16, ground := .data }, { on := 17, ground := .data }, { on := 15, ground := .guard }], guard := some (15, true) }) (v := undef) rfl (by kernel_rfl) (by kernel_rfl) (by kernel_rfl) (fun _ _ _ h => h) (Or.inr ⟨by kernel_rfl, rfl⟩) (by assumption) ?_
            try simp only [Act.put, List.setIfInBounds_toArray, List.set_cons_zero, List.set_cons_succ]
            refine wpAnyH_take (i := 19) (oi := { dst := some 111, op := .load 23 (.tmp 110), type := 23, pos := "laws7relatives.go:49", after := #[{ on := 18, ground := .data }, { on := 15, ground := .guard }], guard := some (15, true) }) (v := undef) rfl (by kernel_rfl) (by kernel_rfl) (by kernel_rfl) (fun _ _ _ h => h) (Or.inr ⟨by kernel_rfl, rfl⟩) (by assumption) ?_
            try simp only [Act.put, List.setIfInBounds_toArray, List.set_cons_zero, List.set_cons_succ]
            refine wpAnyH_take (i := 20) (oi := { dst := some 112, op := .move (.tmp 8), type := 36, pos := "laws7relatives.go:49", after := #[{ on := 15, ground := .guard }], guard := some (15, true) }) (v := undef) rfl (by kernel_rfl) (by kernel_rfl) (by kernel_rfl) (fun _ _ _ h => h) (Or.inr ⟨by kernel_rfl, rfl⟩) (by assumption) ?_
            try simp only [Act.put, List.setIfInBounds_toArray, List.set_cons_zero, List.set_cons_succ]
            refine wpAnyH_take (i := 21) (oi := { dst := some 113, op := .move (.tmp 13), type := 3, pos := "laws7relatives.go:49", after := #[{ on := 15, ground := .guard }], guard := some (15, true) }) (v := undef) rfl (by kernel_rfl) (by kernel_rfl) (by kernel_rfl) (fun _ _ _ h => h) (Or.inr ⟨by kernel_rfl, rfl⟩) (by assumption) ?_
            try simp only [Act.put, List.setIfInBounds_toArray, List.set_cons_zero, List.set_cons_succ]
            refine wpAnyH_take (i := 22) (oi := { dst := some 114, op := .indexAddr 36 (.tmp 112) (.tmp 113), type := 0, pos := "laws7relatives.go:49", after := #[{ on := 20, ground := .data }, { on := 21, ground := .data }, { on := 15, ground := .guard }], guard := some (15, true) }) (v := undef) rfl (by kernel_rfl) (by kernel_rfl) (by kernel_rfl) (fun _ _ _ h => h) (Or.inr ⟨by kernel_rfl, rfl⟩) (by assumption) ?_
            try simp only [Act.put, List.setIfInBounds_toArray, List.set_cons_zero, List.set_cons_succ]
            refine wpAnyH_take (i := 23) (oi := { dst := some 115, op := .load 23 (.tmp 114), type := 23, pos := "laws7relatives.go:49", after := #[{ on := 22, ground := .data }, { on := 15, ground := .guard }], guard := some (15, true) }) (v := undef) rfl (by kernel_rfl) (by kernel_rfl) (by kernel_rfl) (fun _ _ _ h => h) (Or.inr ⟨by kernel_rfl, rfl⟩) (by assumption) ?_
            try simp only [Act.put, List.setIfInBounds_toArray, List.set_cons_zero, List.set_cons_succ]
            refine wpAnyH_take (i := 24) (oi := { dst := some 116, op := .call { callee := .value (.func 16), args := #[.tmp 111, .tmp 115], argTypes := #[23, 23] }, type := 4, pos := "laws7relatives.go:49", after := #[{ on := 19, ground := .data }, { on := 23, ground := .data }, { on := 15, ground := .chain }, { on := 15, ground := .guard }], guard := some (15, true) }) (v := undef) rfl (by kernel_rfl) (by kernel_rfl) (by kernel_rfl) (fun _ _ _ h => h) (Or.inr ⟨by kernel_rfl, rfl⟩) (by assumption) ?_
            try simp only [Act.put, List.setIfInBounds_toArray, List.set_cons_zero, List.set_cons_succ]
            refine wpAnyH_take (i := 25) (oi := { dst := some 117, op := .unOp .not 4 (.tmp 116), type := 4, pos := "laws7relatives.go:49", after := #[{ on := 24, ground := .data }, { on := 15, ground := .guard }], guard := some (15, true) }) (v := undef) rfl (by kernel_rfl) (by kernel_rfl) (by kernel_rfl) (fun _ _ _ h => h) (Or.inr ⟨by kernel_rfl, rfl⟩) (by assumption) ?_
            try simp only [Act.put, List.setIfInBounds_toArray, List.set_cons_zero, List.set_cons_succ]
            refine wpAnyH_take (i := 26) (oi := { dst := some 118, op := .pick (.tmp 107) (.tmp 117) (.const (.bool false)), type := 4, pos := "laws7relatives.go:49", after := #[{ on := 15, ground := .data }, { on := 25, ground := .data }, { on := 10, ground := .guard }], guard := some (10, false) }) (v := ?_) rfl (by kernel_rfl) (by kernel_rfl) (by kernel_rfl) (fun _ _ _ h => h) (Or.inl ⟨by rfl, ?_⟩) (by assumption) ?_
            rotate_left 1
            · (intro wx hSw; (try dsimp only at hSw); go_simp; try with_reducible rfl)
            try simp only [Act.put, List.setIfInBounds_toArray, List.set_cons_zero, List.set_cons_succ]
            refine wpAnyH_take (i := 27) (oi := { dst := some 119, op := .pick (.tmp 102) (.const (.bool true)) (.tmp 118), type := 4, pos := "laws7relatives.go:49", after := #[{ on := 10, ground := .data }, { on := 26, ground := .data }], guard := none }) (v := ?_) rfl (by kernel_rfl) (by kernel_rfl) (by kernel_rfl) (fun _ _ _ h => h) (Or.inl ⟨by rfl, ?_⟩) (by assumption) ?_
            rotate_left 1
            · (intro wx hSw; (try dsimp only at hSw); go_simp; try with_reducible rfl)
            try simp only [Act.put, List.setIfInBounds_toArray, List.set_cons_zero, List.set_cons_succ]
            refine wpAnyH_done (by kernel_rfl) ?_ _
            clear hHeld
            go_wp2
            go_roundw
            case rel => exact ⟨j + 1, by go_num, by omega, HB6⟩
            case measure => simp [intOf]; omega
          · have hML2 : M = L := HA.out.eq rfl
            have hsl := sameList_any (.slice wa3 M.length wc3) (.slice wa1 L.length wc1) L w6 (by have := HRS.out.2.below HB6.out; rw [hML2] at this ⊢; exact this) (HRS.out.1.below HB6.out)
            have HSL := Lib.hid hsl
            clear hsl hML2
            refine wpAnyH_take (i := 16) (oi := { dst := some 108, op := .move (.tmp 11), type := 36, pos := "laws7relatives.go:49", after := #[{ on := 15, ground := .guard }], guard := some (15, true) }) (v := ?_) rfl (by kernel_rfl) (by kernel_rfl) (by kernel_rfl) (fun _ _ _ h => h) (Or.inl ⟨by rfl, ?_⟩) (by assumption) ?_
            rotate_left 1
            · (intro wx hSw; (try dsimp only at hSw); go_simp; try with_reducible rfl)
            try simp only [Act.put, List.setIfInBounds_toArray, List.set_cons_zero, List.set_cons_succ]
            refine wpAnyH_take (i := 17) (oi := { dst := some 109, op := .move (.tmp 13), type := 3, pos := "laws7relatives.go:49", after := #[{ on := 15, ground := .guard }], guard := some (15, true) }) (v := ?_) rfl (by kernel_rfl) (by kernel_rfl) (by kernel_rfl) (fun _ _ _ h => h) (Or.inl ⟨by rfl, ?_⟩) (by assumption) ?_
            rotate_left 1
            · (intro wx hSw; (try dsimp only at hSw); go_simp; try with_reducible rfl)
            try simp only [Act.put, List.setIfInBounds_toArray, List.set_cons_zero, List.set_cons_succ]
            refine wpAnyH_take (i := 18) (oi := { dst := some 110, op := .indexAddr 36 (.tmp 108) (.tmp 109), type := 0, pos := "laws7relatives.go:49", after := #[{ on := 16, ground := .data }, { on := 17, ground := .data }, { on := 15, ground := .guard }], guard := some (15, true) }) (v := ?_) rfl (by kernel_rfl) (by kernel_rfl) (by kernel_rfl) (fun _ _ _ h => h) (Or.inl ⟨by rfl, ?_⟩) (by assumption) ?_
            rotate_left 1
            · (intro wx hSw; (try dsimp only at hSw); go_simp; try with_reducible rfl)
            try simp only [Act.put, List.setIfInBounds_toArray, List.set_cons_zero, List.set_cons_succ]
            refine wpAnyH_take (i := 19) (oi := { dst := some 111, op := .load 23 (.tmp 110), type := 23, pos := "laws7relatives.go:49", after := #[{ on := 18, ground := .data }, { on := 15, ground := .guard }], guard := some (15, true) }) (v := ?_) rfl (by kernel_rfl) (by kernel_rfl) (by kernel_rfl) (fun _ _ _ h => h) (Or.inl ⟨by rfl, ?_⟩) (by assumption) ?_
            rotate_left 1
            · (intro wz hSw; (try dsimp only at hSw); obtain ⟨s1, s2, s3⟩ := hSw; go_simp; try with_reducible rfl)
            try simp only [Act.put, List.setIfInBounds_toArray, List.set_cons_zero, List.set_cons_succ]
            refine wpAnyH_take (i := 20) (oi := { dst := some 112, op := .move (.tmp 8), type := 36, pos := "laws7relatives.go:49", after := #[{ on := 15, ground := .guard }], guard := some (15, true) }) (v := ?_) rfl (by kernel_rfl) (by kernel_rfl) (by kernel_rfl) (fun _ _ _ h => h) (Or.inl ⟨by rfl, ?_⟩) (by assumption) ?_
            rotate_left 1
            · (intro wx hSw; (try dsimp only at hSw); go_simp; try with_reducible rfl)
            try simp only [Act.put, List.setIfInBounds_toArray, List.set_cons_zero, List.set_cons_succ]
            refine wpAnyH_take (i := 21) (oi := { dst := some 113, op := .move (.tmp 13), type := 3, pos := "laws7relatives.go:49", after := #[{ on := 15, ground := .guard }], guard := some (15, true) }) (v := ?_) rfl (by kernel_rfl) (by kernel_rfl) (by kernel_rfl) (fun _ _ _ h => h) (Or.inl ⟨by rfl, ?_⟩) (by assumption) ?_
            rotate_left 1
            · (intro wx hSw; (try dsimp only at hSw); go_simp; try with_reducible rfl)
            try simp only [Act.put, List.setIfInBounds_toArray, List.set_cons_zero, List.set_cons_succ]
            refine wpAnyH_take (i := 22) (oi := { dst := some 114, op := .indexAddr 36 (.tmp 112) (.tmp 113), type := 0, pos := "laws7relatives.go:49", after := #[{ on := 20, ground := .data }, { on := 21, ground := .data }, { on := 15, ground := .guard }], guard := some (15, true) }) (v := ?_) rfl (by kernel_rfl) (by kernel_rfl) (by kernel_rfl) (fun _ _ _ h => h) (Or.inl ⟨by rfl, ?_⟩) (by assumption) ?_
            rotate_left 1
            · (intro wx hSw; (try dsimp only at hSw); go_simp; try with_reducible rfl)
            try simp only [Act.put, List.setIfInBounds_toArray, List.set_cons_zero, List.set_cons_succ]
            refine wpAnyH_take (i := 23) (oi := { dst := some 115, op := .load 23 (.tmp 114), type := 23, pos := "laws7relatives.go:49", after := #[{ on := 22, ground := .data }, { on := 15, ground := .guard }], guard := some (15, true) }) (v := ?_) rfl (by kernel_rfl) (by kernel_rfl) (by kernel_rfl) (fun _ _ _ h => h) (Or.inl ⟨by rfl, ?_⟩) (by assumption) ?_
            rotate_left 1
            · (intro wz hSw; (try dsimp only at hSw); obtain ⟨s1, s2, s3⟩ := hSw; go_simp; try with_reducible rfl)
            try simp only [Act.put, List.setIfInBounds_toArray, List.set_cons_zero, List.set_cons_succ]
            refine wpAnyH_ready (rs := [24]) (by kernel_rfl) (by simp) ?_
            refine AllReadyH.cons (o := { dst := some 116, op := .call { callee := .value (.func 16), args := #[.tmp 111, .tmp 115], argTypes := #[23, 23] }, type := 4, pos := "laws7relatives.go:49", after := #[{ on := 19, ground := .data }, { on := 23, ground := .data }, { on := 15, ground := .chain }, { on := 15, ground := .guard }], guard := some (15, true) }) rfl (fun K hK => ?_) AllReadyH.nil
            go_simp
            go_wp2_with (go_at_call 16; refine HSL.out.mono ?_; rintro e w7 ⟨rfl, hb7⟩)
            have hb57 : Below w5.heap.size w5 w7 := HB6.out.trans (hb7.mono HB6.out.size)
            refine hK.out _ _ ⟨cell_below hb57 HC.out.2.2, cell_below hb57 HC.out.1, cell_below hb57 HC.out.2.1⟩ (fun hHeld => ?_)
            have HB7 := Lib.hid hb57
            clear hK K hb7 hb57 HSL HB6
            try simp only [Act.put, List.setIfInBounds_toArray, List.set_cons_zero, List.set_cons_succ]
            refine wpAnyH_take (i := 25) (oi := { dst := some 117, op := .unOp .not 4 (.tmp 116), type := 4, pos := "laws7relatives.go:49", after := #[{ on := 24, ground := .data }, { on := 15, ground := .guard }], guard := some (15, true) }) (v := ?_) rfl (by kernel_rfl) (by kernel_rfl) (by kernel_rfl) (fun _ _ _ h => h) (Or.inl ⟨by rfl, ?_⟩) (by assumption) ?_
            rotate_left 1
            · (intro wx hSw; (try dsimp only at hSw); go_simp; try with_reducible rfl)
            try simp only [Act.put, List.setIfInBounds_toArray, List.set_cons_zero, List.set_cons_succ]
            refine wpAnyH_take (i := 26) (oi := { dst := some 118, op := .pick (.tmp 107) (.tmp 117) (.const (.bool false)), type := 4, pos := "laws7relatives.go:49", after := #[{ on := 15, ground := .data }, { on := 25, ground := .data }, { on := 10, ground := .guard }], guard := some (10, false) }) (v := ?_) rfl (by kernel_rfl) (by kernel_rfl) (by kernel_rfl) (fun _ _ _ h => h) (Or.inl ⟨by rfl, ?_⟩) (by assumption) ?_
            rotate_left 1
            · (intro wx hSw; (try dsimp only at hSw); go_simp; try with_reducible rfl)
            try simp only [Act.put, List.setIfInBounds_toArray, List.set_cons_zero, List.set_cons_succ]
            refine wpAnyH_take (i := 27) (oi := { dst := some 119, op := .pick (.tmp 102) (.const (.bool true)) (.tmp 118), type := 4, pos := "laws7relatives.go:49", after := #[{ on := 10, ground := .data }, { on := 26, ground := .data }], guard := none }) (v := ?_) rfl (by kernel_rfl) (by kernel_rfl) (by kernel_rfl) (fun _ _ _ h => h) (Or.inl ⟨by rfl, ?_⟩) (by assumption) ?_
            rotate_left 1
            · (intro wx hSw; (try dsimp only at hSw); go_simp; try with_reducible rfl)
            try simp only [Act.put, List.setIfInBounds_toArray, List.set_cons_zero, List.set_cons_succ]
            refine wpAnyH_done (by kernel_rfl) ?_ _
            clear hHeld
            go_wp2
            go_roundw
            case rel => exact ⟨j + 1, by go_num, by omega, HB7⟩
            case measure => simp [intOf]; omega
        · obtain rfl : j = k := by omega
          have HFIN := Lib.hid (HB5.out.trans (hbj.out.mono HB5.out.size))
          clear hbj hlt2
          go_wp2
          go_ret
          exact ⟨rfl, HFIN.out⟩

end lawFnWalked
end Go.Proofs.YtphppdbhofeagaaGreat
