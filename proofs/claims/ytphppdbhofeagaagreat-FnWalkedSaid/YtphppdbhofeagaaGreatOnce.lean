/- spec.once, spec.SameOnce: a list without what is there already. -/
import Derived.Test.YtphppdbhofeagaaGreatMember
import Derived.Test.YtphppdbhofeagaaGreatPtrAll
import Derived.Test.YtphppdbhofeagaaGreatOnceF
namespace Go.Proofs.YtphppdbhofeagaaGreat
open Go.RowKit
set_option linter.unusedVariables false
set_option linter.unusedSimpArgs false

set_option maxRecDepth 100000 in
set_option maxHeartbeats 1000000 in
theorem once2_any (v : Value) (l : List Nat) (w : World) (h : ReadsAs w v (l.map intV)) (hn : l.length ≤ 100000) :
    Calls Tryz.prog 20 #[v] w (OwnPlPost (onceF l) w) := by
  obtain ⟨a, cap, b, off, rfl, hm, ha, hc⟩ := ints_open h
  have HA := Lib.hid ha
  have HC := Lib.hid hc
  clear h ha hc
  obtain ⟨i0, hi, hz0, hz1, hz2⟩ := info_parts Tryz.infoInt
  go_enter Tryz.func20, Tryz.ntmps20
  go_wp2
  go_loopw [3, 4] (fun x i wr => ∃ (k : Nat) (done : List Nat), i = .int .i64 k ∧ k ≤ l.length ∧ done.length ≤ k ∧ onceF (l.take k) = done ∧ OwnPl wr w.heap.size x done ∧ Below w.heap.size w wr)
    (fun _ i _ => l.length - (intOf i).toNat)
  case atStart => exact ⟨0, [], by go_num, by omega, by simp, rfl, World.ownsRow_nil _ _ _ _, Below.refl _ _⟩
  case round =>
    obtain ⟨k, done, rfl, hk, hdl, hdone, hown, hbel⟩ := hrel
    have hread := hown.reads
    have HDONE := Lib.hid hdone
    have HOWN := Lib.hid hown
    have HBEL := Lib.hid hbel
    clear hdone hown hbel
    by_cases hlt : k < l.length
    · obtain rfl := HA.out (by omega)
      have ck := cell_below HBEL.out (HC.out k hlt)
      have hkI : (k : Int) < (l.length : Int) := by omega
      have hkp := onceF_take hlt
      rw [HDONE.out] at hkp
      obtain ⟨x, hxx⟩ : ∃ x, l.getD k 0 = x := ⟨_, rfl⟩
      rw [hxx] at ck hkp
      have hcall := fun wr' (h : ReadsAs wr' u3 (done.map intV)) => specIn_any u3 done x wr' h
      obtain ⟨q, hq⟩ : ∃ q, decide (x ∈ done) = q := ⟨_, rfl⟩
      rw [hq] at hcall
      have hkp2 : onceF (l.take (k + 1)) = if q then done else done ++ [x] := by rw [hkp, ← hq]; simp
      have HCL := Lib.hid (hcall _ hread)
      have HKP := Lib.hid hkp2
      obtain ⟨oa, oc, hu3, hum⟩ := hread.nil
      rw [List.length_map] at hu3 hum
      clear hxx hcall hkp hkp2 hq hread
      subst hu3
      go_wp2_with fail
      refine HCL.out.mono ?_
      rintro e w2 ⟨rfl, rfl⟩
      have hown2 : wr.ownsRow w.heap.size 3 1 (.slice oa done.length oc) done.length (done.map intV) := HOWN.out
      cases q
      · go_wp2_with (at_builtin; refine wpList_append_own _ rfl _ _ 23 rfl w.heap.size 3 i0 (.int .i64 0) 1 8 Tryz.underlying23 hi hz0 hz1 hz2 rfl (by decide) _ _ _ rfl (hown2.alloc _) ⟨wr.heap.size, 0, none⟩ 1 1 [.int .i64 (x : Int)] rfl rfl ?c1 ?c2 ?c3 ?c4 ?c5 ?_)
        case c1 =>
          intro j u hj
          match j, hj with
          | 0, hj => simp at hj; subst hj; simp [Addr.add]
        case c2 => intro u hu; simp at hu; subst hu; rfl
        case c3 => unfold maxLen; omega
        case c4 => omega
        case c5 => have := HBEL.out.size; simp; omega
        intro v' w3 hown3 hgrow _
        have hbel3 : Below w.heap.size w w3 := (HBEL.out.alloc HBEL.out.size _).grown hgrow (by have := HBEL.out.size; simp; omega) (fun q hq => (World.ownsRow.lt hown2 q hq).1)
        have hsn := ownInts_any_snoc (k := x) hown3
        have H3 := Lib.hid (And.intro hsn hbel3)
        clear hown3 hgrow hbel3 hsn hown2
        go_wp2
        go_roundw
        case rel => exact ⟨k + 1, done ++ [x], by go_num, by omega, by simp; omega, HKP.out, H3.out.1, H3.out.2⟩
        case measure => simp [intOf]; omega
      · clear hown2
        go_wp2
        go_roundw
        case rel => exact ⟨k + 1, done, by go_num, by omega, by omega, HKP.out, HOWN.out, HBEL.out⟩
        case measure => simp [intOf]; omega
    · obtain rfl : k = l.length := by omega
      have HO : Hid (OwnPl wr w.heap.size u3 (onceF l)) := by rw [List.take_length] at HDONE; rw [HDONE.out]; exact HOWN
      clear hlt HDONE hread
      go_wp2
      go_ret
      exact ⟨_, rfl, HO, HBEL⟩

theorem once_any (v : Value) (l : List Nat) (w : World) (h : ReadsAs w v (l.map intV)) (hn : l.length ≤ 1000) :
    Calls Tryz.prog 20 #[v] w (OwnPlPost (onceF l) w) := once2_any v l w h (by omega)

set_option maxRecDepth 100000 in
set_option maxHeartbeats 1000000 in
theorem sameOnce_any (v1 v2 : Value) (l : List Nat) (w : World) (h1 : ReadsAs w v1 (l.map intV)) (h2 : ReadsAs w v2 (l.map intV)) (ho : Once l) (hn : l.length ≤ 1000) :
    Calls Tryz.prog 10 #[v1, v2] w (YesB w) := by
  have honce := once_any v1 l w h1 hn
  rw [onceF_of_once ho] at honce
  have hin := fun w' (hb : Below w.heap.size w w') (x : Nat) => specIn_any v2 l x w' (h2.below hb)
  obtain ⟨a1, cap1, b1, off1, rfl, hm, ha1, hc1⟩ := ints_open h1
  obtain ⟨a2, cap2, b2, off2, rfl, _, ha2, hc2⟩ := ints_open h2
  have HA1 := Lib.hid ha1
  have HC1 := Lib.hid hc1
  have HON := Lib.hid honce
  have HIN := Lib.hid hin
  clear h1 h2 ha1 hc1 ha2 hc2 honce hin ho
  go_enter Tryz.func10, Tryz.ntmps10
  go_wp2_with fail
  refine HON.out.mono ?_
  rintro e w1 ⟨vo, rfl, hown, hb⟩
  obtain ⟨oa, oc, hu3, hum⟩ := hown.out.reads.nil
  rw [List.length_map] at hu3 hum
  subst hu3
  clear HON hown
  go_wp2
  go_loopw [5] (fun i wr => ∃ (k : Nat), i = .int .i64 k ∧ k ≤ l.length ∧ wr = w1) (fun i _ => l.length - (intOf i).toNat)
  case atStart => exact ⟨0, by go_num, by omega, rfl⟩
  case round =>
    obtain ⟨k, rfl, hk, rfl⟩ := hrel
    by_cases hlt : k < l.length
    · obtain rfl := HA1.out (by omega)
      have ck := cell_below hb.out (HC1.out k hlt)
      have hkI : (k : Int) < (l.length : Int) := by omega
      have hcall := HIN.out wr hb.out (l.getD k 0)
      rw [show decide (l.getD k 0 ∈ l) = true by simpa using getD_mem' (d := 0) hlt] at hcall
      obtain ⟨x, hxx⟩ : ∃ x, l.getD k 0 = x := ⟨_, rfl⟩
      rw [hxx] at ck hcall
      have HCL := Lib.hid hcall
      clear hxx hcall
      go_wp2_with fail
      refine HCL.out.mono ?_
      rintro e w2 ⟨rfl, rfl⟩
      go_wp2
      go_roundw
      case rel => exact ⟨k + 1, by go_num, by omega, by first | trivial | rfl⟩
      case measure => simp [intOf]; omega
    · obtain rfl : k = l.length := by omega
      clear hlt
      go_wp2
      go_ret
      exact ⟨rfl, hb.out⟩

set_option maxRecDepth 100000 in
set_option maxHeartbeats 1000000 in
theorem sameOnce2_any (v1 v2 : Value) (l l2 : List Nat) (w : World) (h1 : ReadsAs w v1 (l.map intV)) (h2 : ReadsAs w v2 (l2.map intV)) (ho : Once l) (hll : l2.length = l.length) (hsub : ∀ x ∈ l, x ∈ l2) (hn : l.length ≤ 100000) :
    Calls Tryz.prog 10 #[v1, v2] w (YesB w) := by
  have honce := once2_any v1 l w h1 hn
  rw [onceF_of_once ho] at honce
  have hin := fun w' (hb : Below w.heap.size w w') (x : Nat) => specIn_any v2 l2 x w' (h2.below hb)
  obtain ⟨a1, cap1, b1, off1, rfl, hm, ha1, hc1⟩ := ints_open h1
  obtain ⟨a2, cap2, b2, off2, rfl, _, ha2, hc2⟩ := ints_open h2
  rw [hll]
  have HA1 := Lib.hid ha1
  have HC1 := Lib.hid hc1
  have HON := Lib.hid honce
  have HIN := Lib.hid hin
  have HSUB := Lib.hid hsub
  rw [hll] at HIN
  clear h1 h2 ha1 hc1 ha2 hc2 honce hin ho hsub hll
  go_enter Tryz.func10, Tryz.ntmps10
  go_wp2_with fail
  refine HON.out.mono ?_
  rintro e w1 ⟨vo, rfl, hown, hb⟩
  obtain ⟨oa, oc, hu3, hum⟩ := hown.out.reads.nil
  rw [List.length_map] at hu3 hum
  subst hu3
  clear HON hown
  go_wp2
  go_loopw [5] (fun i wr => ∃ (k : Nat), i = .int .i64 k ∧ k ≤ l.length ∧ wr = w1) (fun i _ => l.length - (intOf i).toNat)
  case atStart => exact ⟨0, by go_num, by omega, rfl⟩
  case round =>
    obtain ⟨k, rfl, hk, rfl⟩ := hrel
    by_cases hlt : k < l.length
    · obtain rfl := HA1.out (by omega)
      have ck := cell_below hb.out (HC1.out k hlt)
      have hkI : (k : Int) < (l.length : Int) := by omega
      have hcall := HIN.out wr hb.out (l.getD k 0)
      rw [show decide (l.getD k 0 ∈ l2) = true by simpa using HSUB.out _ (getD_mem' (d := 0) hlt)] at hcall
      obtain ⟨x, hxx⟩ : ∃ x, l.getD k 0 = x := ⟨_, rfl⟩
      rw [hxx] at ck hcall
      have HCL := Lib.hid hcall
      clear hxx hcall
      go_wp2_with fail
      refine HCL.out.mono ?_
      rintro e w2 ⟨rfl, rfl⟩
      go_wp2
      go_roundw
      case rel => exact ⟨k + 1, by go_num, by omega, by first | trivial | rfl⟩
      case measure => simp [intOf]; omega
    · obtain rfl : k = l.length := by omega
      clear hlt
      go_wp2
      go_ret
      exact ⟨rfl, hb.out⟩

end Go.Proofs.YtphppdbhofeagaaGreat
