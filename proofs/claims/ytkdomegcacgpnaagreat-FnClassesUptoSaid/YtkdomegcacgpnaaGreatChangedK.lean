/- The reference's Changed, of one step. -/
import Derived.Test.YtkdomegcacgpnaaGreatChosenK
import Derived.Test.YtkdomegcacgpnaaGreatListed
import Derived.Test.YtkdomegcacgpnaaGreatTakenAll
import Derived.Test.YtkdomegcacgpnaaGreatRightAll
namespace Go.Proofs.YtkdomegcacgpnaaGreat
open Go.RowKit
set_option linter.unusedVariables false
set_option linter.unusedSimpArgs false

theorem Knots.weaken {B B' : Nat} {w : World} {n : Nat} {kn : Nat → Nat} {kv av : Nat → Value} {pl : Nat → Int} {lab : Nat → NodeD} {F : Wd} (h : Knots B w n kn kv av pl lab F) (hB : B' ≤ B) : Knots B' w n kn kv av pl lab F :=
  ⟨h.node, fun i hi => ownsRow_base (h.row i hi) hB, fun i hi => ownsRow_base (h.attrs i hi) hB, fun i hi => Nat.le_trans hB (h.base i hi), h.inj⟩
theorem ForestK.weaken {B B' : Nat} {w : World} {f len : Nat} {vf : Value} {kn : Nat → Nat} {many : Int} {opn : Bool} (h : ForestK B w f vf len kn many opn) (hB : B' ≤ B) : ForestK B' w f vf len kn many opn :=
  ⟨h.obj, ownsRow_base h.all hB, Nat.le_trans hB h.base⟩

theorem out_of_listed {B : Nat} {W w' : World} {n : Nat} {kn : Nat → Nat} {kv av : Nat → Value} {pl : Nat → Int} {lab : Nat → NodeD} {F : Wd} (hK : Knots B W n kn kv av pl lab F) (hb : Below W.heap.size W w') (hB : B ≤ W.heap.size) {v : Value} {C : List (Nat × Nat)} (hlt : ∀ y ∈ C, y.1 < n) (h : w'.ownsRow W.heap.size 38 5 v (0 + C.length) ([] ++ outCells lab av C)) : OutAt w' B v lab C := by
  refine ⟨C.map fun y => (y.1, y.2, av y.1), ?_, ?_, fun y hy => ?_⟩
  · unfold szs
    rw [List.map_map]
    exact List.map_id _
  · rw [List.nil_append, Nat.zero_add] at h
    have e1 : outD lab (C.map fun y => (y.1, y.2, av y.1)) = outCells lab av C := by
      unfold outD outCells
      rw [List.flatMap_map]
    rw [e1, List.length_map]
    exact ownsRow_base h hB
  · obtain ⟨q, hq, rfl⟩ := List.mem_map.1 hy
    exact (hK.attrs _ (hlt q hq)).below hb

def ChangedPost (len : Nat) (ts : List NodeD) (Φ : Nat → (Nat → Int) → (Nat → NodeD) → Wd → Prop) (W : World) (e : Ending) (w' : World) : Prop :=
  (e = .returned (.tuple #[.slice none 0 0, .slice none 0 0, .bool false]) ∧ Hid (Below W.heap.size W w')) ∨
  ∃ n pl lab F C ov pv, RightT ts len ∧ Φ n pl lab F ∧ Fs F.kids [0] C ∧ e = .returned (.tuple #[ov, pv, .bool true]) ∧ Hid (OutAt w' W.heap.size ov lab C) ∧ Hid (OwnZ w' W.heap.size pv (atSet pl (List.replicate len (-1)) 0 C)) ∧ Hid (Below W.heap.size W w')

theorem made_int : (Tryz.prog.info? 3).map (fun i => (i.zero, i.size, i.bytes)) = some (some (.int .i64 0), 1, 8) := by kernel_rfl
theorem at_make (n : Nat) (hn : n ≤ 200) (w : World) : (Instr.makeSlice 23 (.int .i64 (n : Int)) (.int .i64 (n : Int))).run Tryz.prog w = .ok (.slice (some ⟨w.heap.size, 0, none⟩) n n) (w.alloc (.cells (madeCells #[.int .i64 0] n) 3)) :=
  run_make_row' 23 3 (.int .i64 0) 8 Tryz.underlying23 made_int rfl .i64 .i64 n (by omega) (by omega) w

theorem at_made (n : Nat) (hn : n ≤ 200) (w : World) (B : Nat) (hB : B ≤ w.heap.size) : (w.alloc (.cells (madeCells #[.int .i64 0] n) 3)).ownsRow B 3 1 (.slice (some ⟨w.heap.size, 0, none⟩) n n) n ((List.replicate 0 (-1 : Int) ++ List.replicate (n - 0) 0).map intZ) := by
  refine ⟨by simp, .inr ⟨w.heap.size, n, madeCells #[.int .i64 0] n, rfl, hB, heap_alloc_new w _, Nat.le_refl _, by unfold maxLen; omega, by rw [size_madeCells]; omega, ?_⟩⟩
  rw [toList_madeCells_one]
  simp [intZ]

theorem minus_step {n k : Nat} (hk : k < n) : ((List.replicate k (-1 : Int) ++ List.replicate (n - k) 0).map intZ).set k (.int .i64 (-1)) = (List.replicate (k + 1) (-1 : Int) ++ List.replicate (n - (k + 1)) 0).map intZ := by
  obtain ⟨d, hd⟩ : ∃ d, n - k = d + 1 := ⟨n - k - 1, by omega⟩
  rw [hd, show n - (k + 1) = d by omega, List.replicate_succ (n := d), List.map_append, List.set_append_right _ _ (by simp), List.replicate_succ' (n := k)]
  simp [intZ]

set_option maxRecDepth 100000 in
set_option maxHeartbeats 8000000 in
theorem changedL_any (W : World) (a : Option Addr) (len cap : Nat) (ts : List NodeD) (hN : Nodes W a len ts) (q : Nat) (op : Int) (a1 : Option Addr) (n1 c1 : Nat) (a2 : Option Addr) (n2 c2 : Nat) (a3 : Option Addr) (n3 c3 : Nat) (Φ : Nat → (Nat → Int) → (Nat → NodeD) → Wd → Prop)
    (s0 : W.cell? ⟨q, 0, none⟩ = some (.int .i64 op)) (s1 : W.cell? ⟨q, 1, none⟩ = some (.slice a1 n1 c1)) (s2 : W.cell? ⟨q, 2, none⟩ = some (.slice a2 n2 c2)) (s3 : W.cell? ⟨q, 3, none⟩ = some (.string ⟨#[]⟩)) (s4 : W.cell? ⟨q, 4, none⟩ = some (.string ⟨#[]⟩)) (s5 : W.cell? ⟨q, 5, none⟩ = some (.slice a3 n3 c3))
    (hΦ : ∀ n pl lab F, RightT ts len → Φ n pl lab F → WOk n F ∧ n ≤ 1000 ∧ 0 < n ∧ ∀ i, i < n → pl i < (len : Int))
    (hstep : ∀ (w : World) (f : Nat) (vf : Value) (kn : Nat → Nat) (kv av : Nat → Value), RightT ts len → Knots W.heap.size w len kn kv av (fun i => (i : Int)) (fun i => ts.getD i default) (wd0 (sz ts) len) → ForestK W.heap.size w f vf len kn len false → Below W.heap.size W w →
      Calls Tryz.prog 27 #[.pointer (some ⟨f, 0, none⟩), .agg #[.int .i64 op, .slice a1 n1 c1, .slice a2 n2 c2, .string ⟨#[]⟩, .string ⟨#[]⟩, .slice a3 n3 c3]] w (fun e w' => StepKPost W.heap.size f len vf kn Φ e w' w)) :
    Calls Tryz.prog 13 #[.slice a len cap, .slice (some ⟨q, 0, none⟩) 1 1] W (ChangedPost len ts Φ W) := by
  have hlm := hN.len.2
  have HN := Lib.hid hN
  have HS := Lib.hid hstep
  have HPHI := Lib.hid hΦ
  clear hN hstep hΦ
  go_enter Tryz.func13, Tryz.ntmps13
  go_wp2_with fail
  refine (right_any a len cap ts W HN.out).mono ?_
  rintro e w1 ⟨b1, hr1, rfl, hb1⟩
  have HB1 := Lib.hid hb1
  clear hb1
  cases b1
  · go_wp2
    go_ret3
    exact .inl ⟨rfl, HB1⟩
  have HR := Lib.hid (hr1 rfl)
  have hlen := HR.out.le
  have hpos := HR.out.pos
  clear hr1
  go_wp2_with fail
  refine (grownK_any w1 a len cap ts HR.out (HN.out.below HB1.out)).mono ?_
  rintro e w2 ⟨f, vf, kn, kv, av, rfl, hK, hFo, hb2⟩
  have hbs1 := HB1.out.size
  have HB2 := Lib.hid (HB1.out.trans (hb2.out.mono hbs1))
  have HK2 := Lib.hid (hK.out.weaken hbs1)
  have HF2 := Lib.hid (hFo.out.weaken hbs1)
  have HQ := Lib.hid (And.intro s0 (And.intro s1 (And.intro s2 (And.intro s3 (And.intro s4 s5)))))
  clear hK hFo hb2 HB1 s0 s1 s2 s3 s4 s5
  go_wp2
  go_loopw [8] (fun iv wr => ∃ k : Nat, iv = .int .i64 (k : Int) ∧ Hid (Below W.heap.size W wr) ∧ ((k = 0 ∧ Hid (Knots W.heap.size wr len kn kv av (fun i => (i : Int)) (fun i => ts.getD i default) (wd0 (sz ts) len)) ∧ Hid (ForestK W.heap.size wr f vf len kn len false)) ∨
    (k = 1 ∧ ∃ n kn' kv av pl lab F many, Hid (Φ n pl lab F) ∧ Hid (kn' 0 = kn 0) ∧ Hid (Knots W.heap.size wr n kn' kv av pl lab F) ∧ Hid (ForestK W.heap.size wr f vf len kn many false)))) (fun i _ => 1 - (intOf i).toNat)
  case atStart => exact ⟨0, by go_num, HB2, .inl ⟨rfl, HK2, HF2⟩⟩
  case round =>
    obtain ⟨k, rfl, HBr, hcase⟩ := hrel
    rcases hcase with ⟨rfl, HKr, HFr⟩ | ⟨rfl, n, kn', kv', av', pl, lab, F, many, HPH, HK0, HKr, HFr⟩
    · have t0 := cell_below HBr.out HQ.out.1
      have t1 := cell_below HBr.out HQ.out.2.1
      have t2 := cell_below HBr.out HQ.out.2.2.1
      have t3 := cell_below HBr.out HQ.out.2.2.2.1
      have t4 := cell_below HBr.out HQ.out.2.2.2.2.1
      have t5 := cell_below HBr.out HQ.out.2.2.2.2.2
      have HC := Lib.hid (HS.out wr f vf kn kv av HR.out HKr.out HFr.out HBr.out)
      go_wp2_with fail
      refine HC.out.mono ?_
      intro e w3 hp
      clear HC t0 t1 t2 t3 t4 t5
      rcases hp with ⟨rfl, hb3⟩ | ⟨n, kn', kv', av', pl, lab, F, many, opn, rfl, hph, hk0, hk3, hf3, hb3⟩ | ⟨rfl, many, hf3, hb3⟩
      · have HB3 := Lib.hid (HBr.out.trans hb3.out)
        clear hb3
        go_wp2
        go_ret3
        exact .inl ⟨rfl, HB3⟩
      · have HB3 := Lib.hid (HBr.out.trans hb3.out)
        have HPH := Lib.hid hph
        have HK0 := Lib.hid hk0
        have o2 := hf3.out.obj.cell (i := 2) (v := .bool opn) rfl
        clear hb3 hph hk0
        cases opn
        · go_wp2
          refine ⟨?rel, ?measure⟩
          case rel => exact ⟨1, by go_num, HB3, .inr ⟨rfl, n, kn', kv', av', pl, lab, F, many, HPH, HK0, hk3, hf3⟩⟩
          case measure => simp [intOf]
        · go_wp2
          go_ret3
          exact .inl ⟨rfl, HB3⟩
      · have HB3 := Lib.hid (HBr.out.trans hb3.out)
        have o2 := hf3.out.obj.cell (i := 2) (v := .bool true) rfl
        clear hb3
        go_wp2
        go_ret3
        exact .inl ⟨rfl, HB3⟩
    · obtain ⟨wo, hwo⟩ : ∃ wo, wo = wr := ⟨_, rfl⟩
      subst hwo
      obtain ⟨hwok, hn1, hn0, hpl⟩ := HPHI.out n pl lab F HR.out HPH.out
      have hWr := HBr.out.size
      have hmk := at_make len hlen wo
      have HMADE := Lib.hid (at_made len hlen wo wo.heap.size (Nat.le_refl _))
      have HW := Lib.hid (And.intro hwok hpl)
      clear hwok hpl
      go_wp2
      go_loopw [10] (fun iv w1 => ∃ k : Nat, k ≤ len ∧ iv = .int .i64 (k : Int) ∧ Hid (w1.ownsRow wo.heap.size 3 1 (.slice (some ⟨wo.heap.size, 0, none⟩) len len) len ((List.replicate k (-1 : Int) ++ List.replicate (len - k) 0).map intZ)) ∧ Hid (Below wo.heap.size wo w1)) (fun i _ => len - (intOf i).toNat)
      case atStart => exact ⟨0, by omega, by go_num, HMADE, Lib.hid ((Below.refl _ _).alloc (Nat.le_refl _) _)⟩
      case round =>
        obtain ⟨k, hk, rfl, HO, HB⟩ := hrel
        by_cases hlt : k < len
        · have hkI : (k : Int) < (len : Int) := by omega
          have hset := ownsRow_set HO.out (i := k) (by omega) (.int .i64 (-1))
          rw [minus_step hlt] at hset
          have hfr := own_free HO.out k
          obtain ⟨u9, hck⟩ : ∃ u, wr.cell? ⟨wo.heap.size, k, none⟩ = some u := ⟨_, own_cell HO.out (i := k) (by rw [HO.out.1]; omega)⟩
          have HSET := Lib.hid hset
          clear hset
          go_wp2
          go_roundw
          case rel => exact ⟨k + 1, by omega, by go_num, HSET, Lib.hid (Below.setCell HB.out (Nat.le_refl _) _)⟩
          case measure => simp [intOf]; omega
        · obtain rfl : k = len := by omega
          have hO := HO.out
          rw [Nat.sub_self, List.replicate_zero, List.append_nil] at hO
          have hwo := HBr.out.trans (HB.out.mono hWr)
          obtain ⟨g, fcap, hvf, hfc1, hfc2, f0, _, _, frow⟩ := (HFr.out.below HB.out).open hpos
          have r0 := frow 0 hpos
          obtain ⟨C, hC, hnd, hlt, hCl⟩ := HW.out.1.sized hn0
          have hls := listed_any HKr.out HW.out.1 wo.heap.size k C.length 0 C (.slice none 0 0) 0 [] (List.replicate k (-1)) wr hn0 hC (Nat.le_refl _) (by omega) (World.ownsRow_nil _ _ _ _) (by rw [List.length_replicate]; exact hO) (by simp [Value.ownBlock]) HB.out (by simp; omega) (by rw [List.length_replicate]; exact HW.out.2)
          rw [List.length_replicate, HK0.out] at hls
          have HLS := Lib.hid hls
          have HC := Lib.hid (And.intro hC hlt)
          have HWO := Lib.hid hwo
          clear hO hwo hvf frow hC hnd hlt hls
          go_wp2_with fail
          refine HLS.out.mono ?_
          rintro e w9 ⟨ov, rfl, ho9, ha9, _, hb9⟩
          have HB9 := Lib.hid (HBr.out.trans (hb9.out.mono hWr))
          have HOUT := Lib.hid (out_of_listed HKr.out hb9.out hWr HC.out.2 ho9.out)
          have hz := ha9.out
          rw [List.length_replicate] at hz
          have HZ : Hid (OwnZ w9 W.heap.size (.slice (some ⟨wo.heap.size, 0, none⟩) k k) (atSet pl (List.replicate k (-1)) 0 C)) := Lib.hid (by
            unfold OwnZ
            rw [atSet_length, List.length_replicate]
            exact ownsRow_base hz hWr)
          clear HLS ho9 ha9 hb9 hz
          go_wp2
          go_ret3
          exact .inr ⟨n, pl, lab, F, C, _, _, HR.out, HPH.out, HC.out.1, rfl, HOUT, HZ, HB9⟩

theorem changed_any (W : World) (a : Option Addr) (len cap : Nat) (ts : List NodeD) (hN : Nodes W a len ts) (q : Nat) (op : Int) (a1 : Option Addr) (n1 c1 : Nat) (a2 : Option Addr) (n2 c2 : Nat) (Φ : Nat → (Nat → Int) → (Nat → NodeD) → Wd → Prop)
    (s0 : W.cell? ⟨q, 0, none⟩ = some (.int .i64 op)) (s1 : W.cell? ⟨q, 1, none⟩ = some (.slice a1 n1 c1)) (s2 : W.cell? ⟨q, 2, none⟩ = some (.slice a2 n2 c2)) (s3 : W.cell? ⟨q, 3, none⟩ = some (.string ⟨#[]⟩)) (s4 : W.cell? ⟨q, 4, none⟩ = some (.string ⟨#[]⟩)) (s5 : W.cell? ⟨q, 5, none⟩ = some (.slice none 0 0))
    (hΦ : ∀ n pl lab F, RightT ts len → Φ n pl lab F → WOk n F ∧ n ≤ 1000 ∧ 0 < n ∧ ∀ i, i < n → pl i < (len : Int))
    (hstep : ∀ (w : World) (f : Nat) (vf : Value) (kn : Nat → Nat) (kv av : Nat → Value), RightT ts len → Knots W.heap.size w len kn kv av (fun i => (i : Int)) (fun i => ts.getD i default) (wd0 (sz ts) len) → ForestK W.heap.size w f vf len kn len false → Below W.heap.size W w →
      Calls Tryz.prog 27 #[.pointer (some ⟨f, 0, none⟩), .agg #[.int .i64 op, .slice a1 n1 c1, .slice a2 n2 c2, .string ⟨#[]⟩, .string ⟨#[]⟩, .slice none 0 0]] w (fun e w' => StepKPost W.heap.size f len vf kn Φ e w' w)) :
    Calls Tryz.prog 13 #[.slice a len cap, .slice (some ⟨q, 0, none⟩) 1 1] W (ChangedPost len ts Φ W) :=
  changedL_any W a len cap ts hN q op a1 n1 c1 a2 n2 c2 none 0 0 Φ s0 s1 s2 s3 s4 s5 hΦ hstep

end Go.Proofs.YtkdomegcacgpnaaGreat
