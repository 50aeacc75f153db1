/- spec.BesideOf, spec.upTo. (Printed by gen_beside.py.) -/
import Derived.Test.YtphppdbhofeagaaGreatSibEnd
namespace Go.Proofs.YtphppdbhofeagaaGreat
open Go.RowKit
set_option linter.unusedVariables false
set_option linter.unusedSimpArgs false

theorem lb_part {P : Nat → Bool} {x n : Nat} (h : x ≤ n) : (lb P n).filter (fun k => decide (k < x)) = lb P x := by
  rw [lb_filter]
  have h1 := lb_gap (P := fun k => P k && decide (k < x)) (a := x) (n - x) (fun k h2 h3 => by simp; omega)
  rw [show x + (n - x) = n by omega] at h1
  rw [h1]
  have : ∀ m, m ≤ x → lb (fun k => P k && decide (k < x)) m = lb P m := by
    intro m
    induction m with
    | zero => intro _; rfl
    | succ m ih =>
      intro hm
      simp only [lb]
      rw [ih (by omega)]
      have hd : decide (m < x) = true := decide_eq_true (by omega)
      simp only [hd, Bool.and_true]
  exact this x (Nat.le_refl _)

theorem rev_getD {l : List Nat} {k : Nat} (hk : k < l.length) : l.reverse.getD k 0 = l.getD (l.length - 1 - k) 0 := by
  rw [List.getD_eq_getElem?_getD, List.getD_eq_getElem?_getD, List.getElem?_reverse hk]

/-- A slice that reads as places. -/
def ReadsPost (l : List Nat) (w : World) (e : Ending) (w' : World) : Prop := ∃ v, e = .returned v ∧ Hid (ReadsAs w v (l.map intV)) ∧ w = w'

set_option maxRecDepth 100000 in
set_option maxHeartbeats 4000000 in
theorem beside_true (a : Option Addr) (len cap : Nat) (ts : List NodeD) (x : Nat) (w : World) (hN : Nodes w a len ts) (hR : RightT ts len) (hx : x < len) :
    Calls Tryz.prog 39 #[.slice a len cap, .int .i64 (x : Int), .bool true] w (OwnPlPost (nextL ts len x) w) := by
  have hlen := hR.le
  have hpar := parent_any a len cap ts x w hN hR.sizes (fun j hj => hR.nest.fit j hj) hx
  obtain ⟨i0, hi, hz0, hz1, hz2⟩ := info_parts Tryz.infoInt
  cases hp : par (sz ts) x with
  | none =>
    rw [hp] at hpar
    have hl : nextL ts len x = [] := by unfold nextL; rw [hp]
    rw [hl]
    have HPAR := Lib.hid hpar
    clear hpar hN hR hl hp
    go_enter Tryz.func39, Tryz.ntmps39
    go_wp2_with fail
    refine HPAR.out.mono ?_
    rintro e w1 ⟨rfl, rfl⟩
    simp only [parI]
    go_wp2
    go_ret
    exact ⟨_, rfl, Lib.hid (World.ownsRow_nil _ _ _ _), Lib.hid (Below.refl _ _)⟩
  | some p =>
    rw [hp] at hpar
    have hpx := (par_some hp).1
    have hel := elements_any a len cap ts p w hN hR (by omega)
    have hL : (lb (elKid ts p) len).filter (fun y => decide (x < y)) = nextL ts len x := by
      rw [nextL_of hp, ← rb_lb len (x + 1) (by omega)]
      rfl
    have hEl := lb_length_le (P := elKid ts p) len
    have hElt : ∀ y ∈ lb (elKid ts p) len, y < len := fun y hy => (lb_mem hy).1
    obtain ⟨E, hE⟩ : ∃ E, lb (elKid ts p) len = E := ⟨_, rfl⟩
    rw [hE] at hel hL hEl hElt
    have HPAR := Lib.hid hpar
    have HEL := Lib.hid hel
    have HL := Lib.hid (And.intro hL hElt)
    clear hpar hel hN hR hp hE hL hElt
    go_enter Tryz.func39, Tryz.ntmps39
    go_wp2_with fail
    refine HPAR.out.mono ?_
    rintro e w1 ⟨rfl, rfl⟩
    simp only [parI]
    go_wp2_with fail
    refine HEL.out.mono ?_
    rintro e w1 ⟨vk, rfl, hown, hb1⟩
    have hrd : ReadsAs w1 vk (E.map intV) := hown.out.reads
    obtain ⟨ka, kcap, kb, koff, rfl, hkm, hka, hkc⟩ := ints_open hrd
    have HKA := Lib.hid hka
    have HKC := Lib.hid hkc
    clear hrd hka hkc hown HEL HPAR
    go_wp2
    go_loopw [8, 10] (fun o i wr => ∃ (k : Nat) (done : List Nat), i = .int .i64 (k : Int) ∧ k ≤ E.length ∧ done.length ≤ k ∧ (E.take k).filter (fun y => decide (x < y)) = done ∧ OwnPl wr w1.heap.size o done ∧ Below w1.heap.size w1 wr)
      (fun _ i _ => E.length - (intOf i).toNat)
    case atStart => exact ⟨0, [], by go_num, by omega, by simp, rfl, World.ownsRow_nil _ _ _ _, Below.refl _ _⟩
    case round =>
      obtain ⟨k, done, rfl, hk, hdl, hdone, hown, hbel⟩ := hrel
      by_cases hlt : k < E.length
      · obtain rfl := HKA.out (by omega)
        have ck := cell_below hbel (HKC.out k hlt)
        have cj := cell_below hbel (HKC.out (E.length - 1 - k) (by omega))
        have hyl := HL.out.2 _ (getD_mem' (d := 0) hlt)
        have hzl := HL.out.2 _ (getD_mem' (d := 0) (show E.length - 1 - k < E.length by omega))
        obtain ⟨j, hj⟩ : ∃ j : Nat, E.length - 1 - k = j := ⟨_, rfl⟩
        have hjI : (E.length : Int) - 1 - (k : Int) = (j : Int) := by omega
        have hjlt : (j : Int) < (E.length : Int) := by omega
        have hkI : (k : Int) < (E.length : Int) := by omega
        have hst : (E.take (k + 1)).filter (fun y => decide (x < y)) = if decide (x < E.getD k 0) = true then done ++ [E.getD k 0] else done := by
          rw [take_snoc hlt, List.filter_append, hdone]
          split
          · rename_i h; simp only [List.filter_cons, h, if_true, List.filter_nil]
          · rename_i h; simp only [List.filter_cons, h, List.filter_nil]; simp
        rw [hj] at cj hzl
        obtain ⟨y, hy⟩ : ∃ y, E.getD k 0 = y := ⟨_, rfl⟩
        obtain ⟨z, hz⟩ : ∃ z, E.getD j 0 = z := ⟨_, rfl⟩
        rw [hy] at ck hyl hst
        rw [hz] at cj hzl
        have hown2 : wr.ownsRow w1.heap.size 3 1 u8 done.length (done.map intV) := hown
        have HST := Lib.hid hst
        have HBEL := Lib.hid hbel
        have HOWN := Lib.hid hown
        have hsz := hbel.size
        have cj0 := HKC.out j (by omega)
        rw [hz] at cj0
        have HCJ := Lib.hid cj0
        clear hy hz hst hbel hj hdone hown cj0
        by_cases hc : x < y
        · have g1 : (x : Int) < (y : Int) := by omega
          have g2 : decide ((x : Int) < (y : Int)) = true := decide_eq_true g1
          have g3 : decide (x < y) = true := decide_eq_true hc
          have HS2 := HST.out
          rw [if_pos g3] at HS2
          have HS3 := Lib.hid HS2
          clear HS2 hc
          go_wp2_with (at_builtin; refine wpList_append_own _ rfl _ _ 23 rfl w1.heap.size 3 i0 (.int .i64 0) 1 8 Tryz.underlying23 hi hz0 hz1 hz2 rfl (by decide) _ _ _ rfl (hown2.alloc _) ⟨wr.heap.size, 0, none⟩ 1 1 [.int .i64 (y : Int)] rfl rfl ?c1 ?c2 ?c3 ?c4 ?c5 ?_)
          case c2 => first | rfl | (intro u hu; simp at hu; subst hu; rfl)
          case c3 => unfold maxLen; omega
          case c4 => omega
          case c5 => first | omega | (simp; omega)
          intro v' w3 hown3 hgrow _
          have hbel3 : Below w1.heap.size w1 w3 := (HBEL.out.alloc HBEL.out.size _).grown hgrow (by first | omega | (simp; omega)) (fun q hq => (World.ownsRow.lt hown2 q hq).1)
          have hsn := ownInts_any_snoc (k := y) hown3
          have H3 := Lib.hid (And.intro hsn hbel3)
          have cj3 := cell_below hbel3 HCJ.out
          clear hown3 hgrow hbel3 hsn hown2 cj ck
          go_wp2
          go_roundw
          case rel => exact ⟨k + 1, done ++ [y], by go_num, by omega, by simp; omega, HS3.out, H3.out.1, H3.out.2⟩
          case measure => simp [intOf]; omega
        · have g1 : ¬ (x : Int) < (y : Int) := by omega
          have g2 : decide ((x : Int) < (y : Int)) = false := decide_eq_false g1
          have g3 : decide (x < y) = false := decide_eq_false hc
          have HS2 := HST.out
          rw [if_neg (by rw [g3]; simp)] at HS2
          have HS3 := Lib.hid HS2
          clear HS2 hc hown2
          go_wp2
          go_roundw
          case rel => exact ⟨k + 1, done, by go_num, by omega, by omega, HS3.out, HOWN.out, HBEL.out⟩
          case measure => simp [intOf]; omega
      · obtain rfl : k = E.length := by omega
        rw [List.take_length, HL.out.1] at hdone
        have HO : Hid (OwnPl wr w.heap.size u8 (nextL ts len x)) := Lib.hid (by rw [hdone]; exact ownsRow_base hown hb1.out.size)
        have hfin := Lib.hid (hb1.out.trans (hbel.mono hb1.out.size))
        clear hlt hdone hown hbel
        go_wp2
        go_ret
        exact ⟨_, rfl, HO, hfin⟩

set_option maxRecDepth 100000 in
set_option maxHeartbeats 4000000 in
theorem beside_false (a : Option Addr) (len cap : Nat) (ts : List NodeD) (x : Nat) (w : World) (hN : Nodes w a len ts) (hR : RightT ts len) (hx : x < len) :
    Calls Tryz.prog 39 #[.slice a len cap, .int .i64 (x : Int), .bool false] w (OwnPlPost (prevL ts x) w) := by
  have hlen := hR.le
  have hpar := parent_any a len cap ts x w hN hR.sizes (fun j hj => hR.nest.fit j hj) hx
  obtain ⟨i0, hi, hz0, hz1, hz2⟩ := info_parts Tryz.infoInt
  cases hp : par (sz ts) x with
  | none =>
    rw [hp] at hpar
    have hl : prevL ts x = [] := by unfold prevL; rw [hp]
    rw [hl]
    have HPAR := Lib.hid hpar
    clear hpar hN hR hl hp
    go_enter Tryz.func39, Tryz.ntmps39
    go_wp2_with fail
    refine HPAR.out.mono ?_
    rintro e w1 ⟨rfl, rfl⟩
    simp only [parI]
    go_wp2
    go_ret
    exact ⟨_, rfl, Lib.hid (World.ownsRow_nil _ _ _ _), Lib.hid (Below.refl _ _)⟩
  | some p =>
    rw [hp] at hpar
    have hpx := (par_some hp).1
    have hel := elements_any a len cap ts p w hN hR (by omega)
    have hL : (lb (elKid ts p) len).reverse.filter (fun y => decide (y < x)) = prevL ts x := by
      rw [prevL_of hp, List.filter_reverse, lb_part (by omega)]
    have hEl := lb_length_le (P := elKid ts p) len
    have hElt : ∀ y ∈ lb (elKid ts p) len, y < len := fun y hy => (lb_mem hy).1
    obtain ⟨E, hE⟩ : ∃ E, lb (elKid ts p) len = E := ⟨_, rfl⟩
    rw [hE] at hel hL hEl hElt
    have HPAR := Lib.hid hpar
    have HEL := Lib.hid hel
    have HL := Lib.hid (And.intro hL hElt)
    clear hpar hel hN hR hp hE hL hElt
    go_enter Tryz.func39, Tryz.ntmps39
    go_wp2_with fail
    refine HPAR.out.mono ?_
    rintro e w1 ⟨rfl, rfl⟩
    simp only [parI]
    go_wp2_with fail
    refine HEL.out.mono ?_
    rintro e w1 ⟨vk, rfl, hown, hb1⟩
    have hrd : ReadsAs w1 vk (E.map intV) := hown.out.reads
    obtain ⟨ka, kcap, kb, koff, rfl, hkm, hka, hkc⟩ := ints_open hrd
    have HKA := Lib.hid hka
    have HKC := Lib.hid hkc
    clear hrd hka hkc hown HEL HPAR
    go_wp2
    go_loopw [8, 10] (fun o i wr => ∃ (k : Nat) (done : List Nat), i = .int .i64 (k : Int) ∧ k ≤ E.length ∧ done.length ≤ k ∧ (E.reverse.take k).filter (fun y => decide (y < x)) = done ∧ OwnPl wr w1.heap.size o done ∧ Below w1.heap.size w1 wr)
      (fun _ i _ => E.length - (intOf i).toNat)
    case atStart => exact ⟨0, [], by go_num, by omega, by simp, rfl, World.ownsRow_nil _ _ _ _, Below.refl _ _⟩
    case round =>
      obtain ⟨k, done, rfl, hk, hdl, hdone, hown, hbel⟩ := hrel
      by_cases hlt : k < E.length
      · obtain rfl := HKA.out (by omega)
        have ck := cell_below hbel (HKC.out k hlt)
        have cj := cell_below hbel (HKC.out (E.length - 1 - k) (by omega))
        have hyl := HL.out.2 _ (getD_mem' (d := 0) hlt)
        have hzl := HL.out.2 _ (getD_mem' (d := 0) (show E.length - 1 - k < E.length by omega))
        obtain ⟨j, hj⟩ : ∃ j : Nat, E.length - 1 - k = j := ⟨_, rfl⟩
        have hjI : (E.length : Int) - 1 - (k : Int) = (j : Int) := by omega
        have hjlt : (j : Int) < (E.length : Int) := by omega
        have hkI : (k : Int) < (E.length : Int) := by omega
        have hst : (E.reverse.take (k + 1)).filter (fun y => decide (y < x)) = if decide (E.getD (E.length - 1 - k) 0 < x) = true then done ++ [E.getD (E.length - 1 - k) 0] else done := by
          rw [take_snoc (show k < E.reverse.length by simpa using hlt), rev_getD hlt, List.filter_append, hdone]
          split
          · rename_i h; simp only [List.filter_cons, h, if_true, List.filter_nil]
          · rename_i h; simp only [List.filter_cons, h, List.filter_nil]; simp
        rw [hj] at cj hzl hst
        obtain ⟨y, hy⟩ : ∃ y, E.getD k 0 = y := ⟨_, rfl⟩
        obtain ⟨z, hz⟩ : ∃ z, E.getD j 0 = z := ⟨_, rfl⟩
        rw [hy] at ck hyl
        rw [hz] at cj hzl hst
        have hown2 : wr.ownsRow w1.heap.size 3 1 u8 done.length (done.map intV) := hown
        have HST := Lib.hid hst
        have HBEL := Lib.hid hbel
        have HOWN := Lib.hid hown
        have hsz := hbel.size
        have cj0 := HKC.out j (by omega)
        rw [hz] at cj0
        have HCJ := Lib.hid cj0
        clear hy hz hst hbel hj hdone hown cj0
        by_cases hc : z < x
        · have g1 : (z : Int) < (x : Int) := by omega
          have g2 : decide ((z : Int) < (x : Int)) = true := decide_eq_true g1
          have g3 : decide (z < x) = true := decide_eq_true hc
          have HS2 := HST.out
          rw [if_pos g3] at HS2
          have HS3 := Lib.hid HS2
          clear HS2 hc
          go_wp2_with (at_builtin; refine wpList_append_own _ rfl _ _ 23 rfl w1.heap.size 3 i0 (.int .i64 0) 1 8 Tryz.underlying23 hi hz0 hz1 hz2 rfl (by decide) _ _ _ rfl (hown2.alloc _) ⟨wr.heap.size, 0, none⟩ 1 1 [.int .i64 (z : Int)] rfl rfl ?c1 ?c2 ?c3 ?c4 ?c5 ?_)
          case c2 => first | rfl | (intro u hu; simp at hu; subst hu; rfl)
          case c3 => unfold maxLen; omega
          case c4 => omega
          case c5 => first | omega | (simp; omega)
          intro v' w3 hown3 hgrow _
          have hbel3 : Below w1.heap.size w1 w3 := (HBEL.out.alloc HBEL.out.size _).grown hgrow (by first | omega | (simp; omega)) (fun q hq => (World.ownsRow.lt hown2 q hq).1)
          have hsn := ownInts_any_snoc (k := z) hown3
          have H3 := Lib.hid (And.intro hsn hbel3)
          clear hown3 hgrow hbel3 hsn hown2 cj ck
          go_wp2
          go_roundw
          case rel => exact ⟨k + 1, done ++ [z], by go_num, by omega, by simp; omega, HS3.out, H3.out.1, H3.out.2⟩
          case measure => simp [intOf]; omega
        · have g1 : ¬ (z : Int) < (x : Int) := by omega
          have g2 : decide ((z : Int) < (x : Int)) = false := decide_eq_false g1
          have g3 : decide (z < x) = false := decide_eq_false hc
          have HS2 := HST.out
          rw [if_neg (by rw [g3]; simp)] at HS2
          have HS3 := Lib.hid HS2
          clear HS2 hc hown2
          go_wp2
          go_roundw
          case rel => exact ⟨k + 1, done, by go_num, by omega, by omega, HS3.out, HOWN.out, HBEL.out⟩
          case measure => simp [intOf]; omega
      · obtain rfl : k = E.length := by omega
        rw [List.take_of_length_le (by simp), HL.out.1] at hdone
        have HO : Hid (OwnPl wr w.heap.size u8 (prevL ts x)) := Lib.hid (by rw [hdone]; exact ownsRow_base hown hb1.out.size)
        have hfin := Lib.hid (hb1.out.trans (hbel.mono hb1.out.size))
        clear hlt hdone hown hbel
        go_wp2
        go_ret
        exact ⟨_, rfl, HO, hfin⟩

set_option maxRecDepth 100000 in
set_option maxHeartbeats 2000000 in
theorem upTo_any (v v2 : Value) (l l2 : List Nat) (w : World) (h : ReadsAs w v (l.map intV)) (h2 : ReadsAs w v2 (l2.map intV)) :
    Calls Tryz.prog 38 #[v, v2] w (ReadsPost (upToL (fun y => decide (y ∈ l2)) l) w) := by
  have hin := fun (x : Nat) => specIn_any v2 l2 x w h2
  have H := Lib.hid h
  obtain ⟨a0, cap0, hv0, hcl, hcm, hrow⟩ := h
  rw [List.length_map] at hv0 hcl
  obtain ⟨a, cap, b, off, hv, hm, ha, hc⟩ := ints_open H.out
  rw [hv0] at hv
  simp at hv
  obtain ⟨rfl, rfl⟩ := hv
  obtain ⟨a2, c2, hv2, _⟩ := h2.nil
  rw [List.length_map] at hv2
  subst hv0 hv2
  have hpart : ∀ k, k ≤ l.length → ReadsAs w (.slice a0 k cap0) ((l.take k).map intV) := fun k hk => by
    obtain ⟨r1, r2, r3⟩ := hrow
    have hlk : (l.take k).length = k := by simp; omega
    refine ⟨a0, cap0, by rw [List.length_map, hlk], by rw [List.length_map, hlk]; omega, hcm, rfl, by rw [List.length_map, hlk]; rw [List.length_map] at r2; omega, fun h0 => ?_⟩
    rw [List.length_map, hlk] at h0 ⊢
    obtain ⟨b', off', e, hcc⟩ := r3 (by rw [List.length_map]; omega)
    refine ⟨b', off', e, fun i hi => ?_⟩
    rw [hcc i (by rw [List.length_map]; omega)]
    simp [List.getD, hi, show i < l.length by omega]
  have HA := Lib.hid ha
  have HC := Lib.hid hc
  have HIN := Lib.hid hin
  have HP := Lib.hid hpart
  clear h2 ha hc hin hrow hpart hcm
  go_enter Tryz.func38, Tryz.ntmps38
  go_wp2
  go_loop [5] (fun i => ∃ k : Nat, k ≤ l.length ∧ i = .int .i64 (k : Int) ∧ ∀ j, j < k → decide (l.getD j 0 ∈ l2) = false) (fun i => l.length - (intOf i).toNat)
  case atStart => exact ⟨0, by omega, by go_num, fun j hj => by omega⟩
  case round =>
    obtain ⟨k, hk, rfl, hno⟩ := hrel
    have HNO := Lib.hid hno
    clear hno
    by_cases hlt : k < l.length
    · obtain rfl := HA.out (by omega)
      have ck := HC.out k hlt
      have hcall := HIN.out (l.getD k 0)
      have hat := fun (h : decide (l.getD k 0 ∈ l2) = true) => upTo_at (U := fun y => decide (y ∈ l2)) hlt HNO.out h
      have hnx := fun (h : decide (l.getD k 0 ∈ l2) = false) (j : Nat) (hj : j < k + 1) => (if e : j = k then by rw [e]; exact h else HNO.out j (by omega) : decide (l.getD j 0 ∈ l2) = false)
      obtain ⟨q, hq⟩ : ∃ q, decide (l.getD k 0 ∈ l2) = q := ⟨_, rfl⟩
      rw [hq] at hcall hat hnx
      obtain ⟨x, hx⟩ : ∃ x, l.getD k 0 = x := ⟨_, rfl⟩
      rw [hx] at ck hcall
      have hkI : (k : Int) < (l.length : Int) := by omega
      have hkc : (k : Int) ≤ (cap0 : Int) := by omega
      have HCL := Lib.hid hcall
      have HAT := Lib.hid (And.intro hat hnx)
      clear hcall hat hnx hq hx
      go_wp2_with fail
      refine HCL.out.mono ?_
      rintro e w1 ⟨rfl, rfl⟩
      cases q
      · go_wp2
        go_round
        case rel => exact ⟨k + 1, by omega, by go_num, (by first | exact HAT.out.2 rfl | exact HAT.out.2 trivial | exact HAT.out.2)⟩
        case measure => simp [intOf]; omega
      · have HR : Hid (ReadsAs w (.slice (some ⟨b, off, none⟩) k cap0) ((upToL (fun y => decide (y ∈ l2)) l).map intV)) := Lib.hid (by rw [show upToL (fun y => decide (y ∈ l2)) l = l.take k by first | exact HAT.out.1 rfl | exact HAT.out.1 trivial | exact HAT.out.1]; exact HP.out k hk)
        clear HAT HCL
        go_wp2
        go_ret
        exact ⟨_, rfl, HR, rfl⟩
    · obtain rfl : k = l.length := by omega
      have HR : Hid (ReadsAs w (.slice a0 l.length cap0) ((upToL (fun y => decide (y ∈ l2)) l).map intV)) := Lib.hid (by rw [upTo_all (U := fun y => decide (y ∈ l2)) HNO.out]; exact H.out)
      clear hlt HNO
      go_wp2
      go_ret
      exact ⟨_, rfl, HR, rfl⟩

end Go.Proofs.YtphppdbhofeagaaGreat
