/- spec.Nearest, spec.SameSet. -/
import Derived.Test.YtobnglgnoflbnaaClosestSel
import Derived.Test.YtobnglgnoflbnaaMember
namespace Go.Proofs.Ytobnglgnoflbnaa
open Go.RowKit
set_option linter.unusedVariables false
set_option linter.unusedSimpArgs false

set_option maxRecDepth 100000 in
set_option maxHeartbeats 1000000 in
theorem sameSet_any (v1 v2 : Value) (l : List Nat) (w : World) (h1 : ReadsAs w v1 (l.map intV)) (h2 : ReadsAs w v2 (l.map intV)) :
    Calls Try.prog 41 #[v1, v2] w (YesB w) := by
  have hin1 := fun (x : Nat) => specIn_any v1 l x w h1
  have hin2 := fun (x : Nat) => specIn_any v2 l x w h2
  obtain ⟨a1, cap1, b1, off1, rfl, hm, ha1, hc1⟩ := ints_open h1
  obtain ⟨a2, cap2, b2, off2, rfl, _, ha2, hc2⟩ := ints_open h2
  have HA1 := Lib.hid ha1
  have HC1 := Lib.hid hc1
  have HA2 := Lib.hid ha2
  have HC2 := Lib.hid hc2
  have HI1 := Lib.hid hin1
  have HI2 := Lib.hid hin2
  clear h1 h2 ha1 hc1 ha2 hc2 hin1 hin2
  go_enter Try.func41, Try.ntmps41
  go_wp2
  go_loopw [5] (fun i wr => ∃ (k : Nat), i = .int .i64 k ∧ k ≤ l.length ∧ wr = w) (fun i _ => l.length - (intOf i).toNat)
  case atStart => exact ⟨0, by go_num, by omega, rfl⟩
  case round =>
    obtain ⟨k, rfl, hk, rfl⟩ := hrel
    by_cases hlt : k < l.length
    · obtain rfl := HA1.out (by omega)
      have ck := HC1.out k hlt
      have hkI : (k : Int) < (l.length : Int) := by omega
      have hcall := HI2.out (l.getD k 0)
      rw [show decide (l.getD k 0 ∈ l) = true by simpa using getD_mem' (d := 0) hlt] at hcall
      obtain ⟨x, hxx⟩ : ∃ x, l.getD k 0 = x := ⟨_, rfl⟩
      rw [hxx] at ck hcall
      have HCL := Lib.hid hcall
      clear hxx hcall
      go_wp2_with fail
      refine HCL.out.mono ?_
      rintro e w2 ⟨rfl, rfl⟩
      go_wp2
      go_roundw
      case rel => exact ⟨k + 1, by go_num, by omega, by first | trivial | rfl⟩
      case measure => simp [intOf]; omega
    · obtain rfl : k = l.length := by omega
      clear hlt
      go_wp2
      go_loopw [6] (fun i w' => ∃ (k : Nat), i = .int .i64 k ∧ k ≤ l.length ∧ w' = wr) (fun i _ => l.length - (intOf i).toNat)
      case atStart => exact ⟨0, by go_num, by omega, rfl⟩
      case round =>
        obtain ⟨k, rfl, hk, rfl⟩ := hrel
        by_cases hlt : k < l.length
        · obtain rfl := HA2.out (by omega)
          rename_i wz _
          have ck := HC2.out k hlt
          have hkI : (k : Int) < (l.length : Int) := by omega
          have hcall := HI1.out (l.getD k 0)
          rw [show decide (l.getD k 0 ∈ l) = true by simpa using getD_mem' (d := 0) hlt] at hcall
          obtain ⟨x, hxx⟩ : ∃ x, l.getD k 0 = x := ⟨_, rfl⟩
          rw [hxx] at ck hcall
          have HCL := Lib.hid hcall
          clear hxx hcall
          go_wp2_with fail
          refine HCL.out.mono ?_
          rintro e w2 ⟨rfl, rfl⟩
          go_wp2
          go_roundw
          case rel => exact ⟨k + 1, by go_num, by omega, by first | trivial | rfl⟩
          case measure => simp [intOf]; omega
        · obtain rfl : k = l.length := by omega
          clear hlt
          go_wp2
          go_ret
          exact ⟨rfl, Below.refl _ _⟩

set_option maxRecDepth 100000 in
set_option maxHeartbeats 3000000 in
theorem nearest_any (a : Option Addr) (len cap : Nat) (ts : List NodeD) (v1 v2 : Value) (l l2 : List Nat) (w : World) (hR : RightT ts len) (hN : Nodes w a len ts) (h1 : ReadsAs w v1 (l.map intV)) (h2 : ReadsAs w v2 (l2.map intV)) (hin : ∀ i ∈ l, i < len) (hn : l.length ≤ 200) :
    Calls Try.prog 40 #[.slice a len cap, v1, v2] w (OwnPlPost (onceF (stepL (nearOf ts l2) l)) w) := by
  have hlen := hR.le
  have hpar := fun (x : Nat) (w' : World) (h : Nodes w' a len ts) (hx : x < len) => parent_any a len cap ts x w' h hR.sizes (fun j hj => hR.nest.fit j hj) hx
  have hin2 := fun (x : Nat) (w' : World) (hb : Below w.heap.size w w') => specIn_any v2 l2 x w' (h2.below hb)
  obtain ⟨a1, cap1, b, off, rfl, hm, ha, hc⟩ := ints_open h1
  obtain ⟨a2, cap2, hv2, _⟩ := h2.nil
  rw [List.length_map] at hv2
  subst hv2
  have HA := Lib.hid ha
  have HC := Lib.hid hc
  have HP := Lib.hid hpar
  have HI2 := Lib.hid hin2
  have HIN := Lib.hid hin
  have HN := Lib.hid hN
  obtain ⟨i0, hi, hz0, hz1, hz2⟩ := info_parts Try.infoInt
  clear h1 h2 ha hc hpar hin2 hin hN
  go_enter Try.func40, Try.ntmps40
  go_wp2
  go_loopw [7, 8] (fun x i wr => ∃ (k : Nat) (done : List Nat), i = .int .i64 k ∧ k ≤ l.length ∧ done.length ≤ k ∧ onceF (stepL (nearOf ts l2) (l.take k)) = done ∧ OwnPl wr w.heap.size x done ∧ Below w.heap.size w wr)
    (fun _ i _ => l.length - (intOf i).toNat)
  case atStart => exact ⟨0, [], by go_num, by omega, by simp, rfl, World.ownsRow_nil _ _ _ _, Below.refl _ _⟩
  case round =>
    obtain ⟨k, done, rfl, hk, hdl, hdone, hown, hbel⟩ := hrel
    by_cases hlt : k < l.length
    · obtain rfl := HA.out (by omega)
      have ck := cell_below hbel (HC.out k hlt)
      have hxl := HIN.out _ (getD_mem' (d := 0) hlt)
      have hskip := stepO_skip (g := nearOf ts l2) hlt
      have hthere := fun p => stepO_there (g := nearOf ts l2) (p := p) hlt
      have hnew := fun p => stepO_new (g := nearOf ts l2) (p := p) hlt
      obtain ⟨x, hxx⟩ : ∃ x, l.getD k 0 = x := ⟨_, rfl⟩
      rw [hxx] at ck hxl hskip hthere hnew
      rw [hdone] at hskip hthere hnew
      obtain ⟨o, ho⟩ : ∃ o, nearOf ts l2 x = o := ⟨_, rfl⟩
      rw [ho] at hskip hthere hnew
      have HX := Lib.hid ho
      have HS := Lib.hid (And.intro hskip (And.intro hthere hnew))
      have HO := Lib.hid (And.intro hown hbel)
      have hkI : (k : Int) < (l.length : Int) := by omega
      obtain ⟨oa, oc, hu7, hoc⟩ := hown.reads.nil
      rw [List.length_map] at hu7 hoc
      subst hu7
      clear hskip hthere hnew hown hbel ho hxx hdone
      go_wp2
      go_loopg [7, 9] (x + 1) (fun gk y n w' => ((gk = 0 ∧ n = .int .i64 (-1) ∧ o = none) ∨ ∃ z : Nat, gk = z + 1 ∧ z < len ∧ n = .int .i64 (z : Int) ∧ nearOf ts l2 z = o) ∧ y = .slice oa done.length oc ∧ w' = wr)
      case atStart => exact ⟨.inr ⟨x, rfl, hxl, rfl, HX.out⟩, rfl, rfl⟩
      case round =>
        obtain ⟨⟨rfl, rfl, rfl⟩ | ⟨z, rfl, hz, rfl, hnz⟩, rfl, rfl⟩ := hrel
        · have g0 : decide ((0 : Int) ≤ -1) = false := by decide
          go_wp2
          go_roundw
          case rel => exact ⟨k + 1, done, by go_num, by omega, by omega, HS.out.1 rfl, HO.out.1, HO.out.2⟩
          case measure => simp [intOf]; omega
        · have hcz := HI2.out z wr HO.out.2
          cases hq : decide (z ∈ l2)
          · rw [hq] at hcz
            have HCL := Lib.hid hcz
            have hpz := HP.out z wr (HN.out.below HO.out.2) hz
            cases hp : par (sz ts) z with
            | none =>
              have hno : o = none := by rw [← hnz]; exact near_top hq hp
              rw [hp] at hpz
              have HPZ := Lib.hid hpz
              have HNO := Lib.hid hno
              clear hno hpz hcz hq hp hnz
              go_wp2_with fail
              refine HCL.out.mono ?_
              rintro e w2 ⟨rfl, rfl⟩
              go_wp2_with fail
              refine HPZ.out.mono ?_
              rintro e w3 ⟨rfl, rfl⟩
              simp only [parI]
              go_wp2
              go_roundg 0
              case measure => omega
              case rel => exact ⟨.inl ⟨rfl, rfl, HNO.out⟩, rfl, by first | trivial | rfl⟩
            | some p =>
              have hup : nearOf ts l2 p = o := by rw [← hnz]; exact (near_up hq hp).symm
              have hpl : p < z := (par_some hp).1
              rw [hp] at hpz
              have HPZ := Lib.hid hpz
              have HUP := Lib.hid hup
              clear hup hpz hcz hq hp hnz
              go_wp2_with fail
              refine HCL.out.mono ?_
              rintro e w2 ⟨rfl, rfl⟩
              go_wp2_with fail
              refine HPZ.out.mono ?_
              rintro e w3 ⟨rfl, rfl⟩
              simp only [parI]
              go_wp2
              go_roundg (p + 1)
              case measure => omega
              case rel => exact ⟨.inr ⟨p, rfl, by omega, rfl, HUP.out⟩, rfl, by first | trivial | rfl⟩
          · rw [hq] at hcz
            have hoz : o = some z := by rw [← hnz]; exact near_here hq
            subst hoz
            have HCL := Lib.hid hcz
            have hcd := specIn_any (.slice oa done.length oc) done z wr HO.out.1.reads
            clear hq hcz hnz
            by_cases hin : z ∈ done
            · rw [decide_eq_true hin] at hcd
              have HCD := Lib.hid hcd
              have HT := Lib.hid (HS.out.2.1 z rfl hin)
              clear hcd hin
              go_wp2_with fail
              refine HCL.out.mono ?_
              rintro e w2 ⟨rfl, rfl⟩
              go_wp2_with fail
              refine HCD.out.mono ?_
              rintro e w3 ⟨rfl, rfl⟩
              go_wp2
              go_roundw
              case rel => exact ⟨k + 1, done, by go_num, by omega, by omega, HT.out, HO.out.1, HO.out.2⟩
              case measure => simp [intOf]; omega
            · rw [decide_eq_false hin] at hcd
              have HCD := Lib.hid hcd
              have HT := Lib.hid (HS.out.2.2 z rfl hin)
              have hown2 : wr.ownsRow w.heap.size 3 1 (.slice oa done.length oc) done.length (done.map intV) := HO.out.1
              clear hcd hin
              go_wp2_with fail
              refine HCL.out.mono ?_
              rintro e w2 ⟨rfl, rfl⟩
              go_wp2_with fail
              refine HCD.out.mono ?_
              rintro e w3 ⟨rfl, rfl⟩
              go_wp2_with (at_builtin; refine wpList_append_own _ rfl _ _ 32 rfl w.heap.size 3 i0 (.int .i64 0) 1 8 Try.underlying32 hi hz0 hz1 hz2 rfl (by decide) _ _ _ rfl (hown2.alloc _) ⟨wr.heap.size, 0, none⟩ 1 1 [.int .i64 (z : Int)] rfl rfl ?c1 ?c2 ?c3 ?c4 ?c5 ?_)
              case c1 =>
                intro j u hj
                match j, hj with
                | 0, hj => simp at hj; subst hj; simp [Addr.add]
              case c2 => intro u hu; simp at hu; subst hu; rfl
              case c3 => unfold maxLen; omega
              case c4 => omega
              case c5 => have := HO.out.2.size; simp; omega
              intro v' w4 hown3 hgrow _
              have hbel3 : Below w.heap.size w w4 := (HO.out.2.alloc HO.out.2.size _).grown hgrow (by have := HO.out.2.size; simp; omega) (fun q hq => (World.ownsRow.lt hown2 q hq).1)
              have hsn := ownInts_any_snoc (k := z) hown3
              have H3 := Lib.hid (And.intro hsn hbel3)
              clear hown3 hgrow hbel3 hsn hown2
              go_wp2
              go_roundw
              case rel => exact ⟨k + 1, done ++ [z], by go_num, by omega, by simp; omega, HT.out, H3.out.1, H3.out.2⟩
              case measure => simp [intOf]; omega
    · obtain rfl : k = l.length := by omega
      rw [List.take_length] at hdone
      have HO : Hid (OwnPl wr w.heap.size u7 (onceF (stepL (nearOf ts l2) l))) := Lib.hid (by rw [hdone]; exact hown)
      have HB := Lib.hid hbel
      clear hdone hown hbel hlt
      go_wp2
      go_ret
      exact ⟨_, rfl, HO, HB⟩

end Go.Proofs.Ytobnglgnoflbnaa
