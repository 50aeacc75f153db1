/- Parts of a proof: SpecS3, SpecS, SelRel, SelRow, SelCompound0. -/
import Derived.Test.YtoanofdomhnafaaGreatDoorG28
import Derived.Test.YtoanofdomhnafaaGreatDoorG29
import Derived.Test.YtoanofdomhnafaaGreatDoorG26
import Derived.Maps.AppendAt
set_option linter.unusedVariables false
set_option linter.unusedSimpArgs false
namespace Go.Proofs.YtoanofdomhnafaaGreatDoor
open Go.RowKit
variable {l : List SelD}
set_option maxRecDepth 100000 in
set_option maxHeartbeats 8000000 in
theorem specS_max20 (hT : SelTree l) (hNP : NoPseudo l) (a : Option Addr) (len cap n : Nat) (ih : ∀ (i : Nat) (w : World), i < len → zs l i ≤ n → Sels w a len l → Calls Tryz.prog 17 #[.slice a len cap, .int .i64 (i : Int)] w (TriPost (S l i) w)) (i : Nat) (w : World) (hi : i < len) (hn : zs l i ≤ n + 1) (h : Sels w a len l) (hcl : kdS l i = 20 ∨ kdS l i = 23) :
  Calls Tryz.prog 17 #[.slice a len cap, .int .i64 (i : Int)] w (TriPost (S l i) w) := by
  have IH := Lib.hid ih
  have hl := h.len.1
  have hil : i < l.length := by omega
  have hlen60 : len ≤ 60 := by rw [← hl]; exact hT.small
  obtain ⟨hsz, hfit⟩ := hT.szs hl
  have h0 := objAt_alloc_new w #[.int .i64 0, .int .i64 0, .int .i64 0] 28
  have h1 := objAt_alloc_new (w.alloc (.cells #[.int .i64 0, .int .i64 0, .int .i64 0] 28)) #[.int .i64 0, .int .i64 0, .int .i64 0] 28
  have hb0 : Below w.heap.size w ((w.alloc (.cells #[.int .i64 0, .int .i64 0, .int .i64 0] 28)).alloc (.cells #[.int .i64 0, .int .i64 0, .int .i64 0] 28)) := ((Below.refl _ _).alloc (Nat.le_refl _) _).alloc (by simp) _
  have h0' := World.objAt.below h0 ((Below.refl _ _).alloc (Nat.le_refl _) (.cells #[.int .i64 0, .int .i64 0, .int .i64 0] 28)) (World.objAt.lt h0)
  obtain ⟨w0, hw0⟩ : ∃ w0, ((w.alloc (.cells #[.int .i64 0, .int .i64 0, .int .i64 0] 28)).alloc (.cells #[.int .i64 0, .int .i64 0, .int .i64 0] 28)) = w0 := ⟨_, rfl⟩
  rw [hw0] at h0' h1 hb0
  have hsz1 : (w.alloc (.cells #[.int .i64 0, .int .i64 0, .int .i64 0] 28)).heap.size = w.heap.size + 1 := by simp
  rw [hsz1] at h1
  obtain ⟨S0, hS⟩ : ∃ S0, w.heap.size = S0 := ⟨_, rfl⟩
  rw [hS] at h0' h1
  have hw0s : w0.heap.size = S0 + 1 + 1 := by rw [← hw0, ← hS]; simp
  have HSL := Lib.hid h
  have HKID := Lib.hid (fun w' (h' : Sels w' a len l) => selKids_any a len cap l i w' h' hsz hfit hi (by omega))
  have q0 : w0.cell? ⟨S0 + 1, 0, none⟩ = some (.int .i64 0) := World.objAt.cell h1 (i := 0) rfl
  have q1 : w0.cell? ⟨S0 + 1, 1, none⟩ = some (.int .i64 0) := World.objAt.cell h1 (i := 1) rfl
  have q2 : w0.cell? ⟨S0 + 1, 2, none⟩ = some (.int .i64 0) := World.objAt.cell h1 (i := 2) rfl
  have n0 : w0.frozen? ⟨S0 + 1, 0, none⟩ = false := World.objAt.free h1 0
  have n1 : w0.frozen? ⟨S0 + 1, 1, none⟩ = false := World.objAt.free h1 1
  have n2 : w0.frozen? ⟨S0 + 1, 2, none⟩ = false := World.objAt.free h1 2
  have H0 := Lib.hid (And.intro h0' (And.intro h1 hb0))
  have HSZ := Lib.hid (And.intro hsz hfit)
  clear h0 h0' h1 hb0 h hsz hfit
  go_enter Tryz.func17, Tryz.ntmps17
  go_wp2_with fail
  obtain ⟨w1, hw1⟩ : ∃ w1, (((w0.setCell ⟨S0 + 1, 0, none⟩ (.int .i64 0)).setCell ⟨S0 + 1, 1, none⟩ (.int .i64 0)).setCell ⟨S0 + 1, 2, none⟩ (.int .i64 0)) = w1 := ⟨_, rfl⟩
  have hr1 : World.objAt w1 S0 #[.int .i64 0, .int .i64 0, .int .i64 0] 28 := by
    rw [← hw1]
    exact objAt_offS (objAt_offS (objAt_offS H0.out.1 ⟨S0 + 1, 0, none⟩ (by show S0 ≠ S0 + 1; omega) _) ⟨S0 + 1, 1, none⟩ (by show S0 ≠ S0 + 1; omega) _) ⟨S0 + 1, 2, none⟩ (by show S0 ≠ S0 + 1; omega) _
  have ho1 : World.objAt w1 (S0 + 1) #[.int .i64 0, .int .i64 0, .int .i64 0] 28 := by
    rw [← hw1]
    exact World.objAt.set (World.objAt.set (World.objAt.set H0.out.2.1 0 _) 1 _) 2 _
  have hb1 : Below w.heap.size w w1 := by
    rw [← hw1]
    exact ((H0.out.2.2.setCell (p := ⟨S0 + 1, 0, none⟩) (by show _ ≤ S0 + 1; omega) _).setCell (p := ⟨S0 + 1, 1, none⟩) (by show _ ≤ S0 + 1; omega) _).setCell (p := ⟨S0 + 1, 2, none⟩) (by show _ ≤ S0 + 1; omega) _
  rw [hw1]
  have hs1 : S0 + 1 < w1.heap.size := World.objAt.lt ho1
  clear q0 q1 q2 n0 n1 n2 hw1
  refine (HKID.out w1 (HSL.out.later hb1 (Nat.le_refl _))).mono ?_
  rintro e w2 ⟨kv, rfl, hkv, hbk⟩
  obtain ⟨ks, hks⟩ : ∃ ks, kids (zs l) i = ks := ⟨_, rfl⟩
  rw [hks] at hkv
  have hbel2 := hb1.trans (hbk.mono hb1.size)
  have hS2 := HSL.out.later hbel2 (Nat.le_refl _)
  obtain ⟨b, off, rfl, hc⟩ := hS2.at (by omega)
  have c := hc i hi
  have c0 := c.kind
  have c1 := c.op
  have c2 := c.key
  have c3 := c.val
  have c4 := c.a
  have c5 := c.b
  have c6 := c.flag
  have c7 := c.size
  have hr2 := World.objAt.below hr1 hbk (World.objAt.lt hr1)
  have ho2 := World.objAt.below ho1 hbk (World.objAt.lt ho1)
  obtain ⟨kd_, hkd⟩ : ∃ kd_, (l.getD i default).kind = kd_ := ⟨_, rfl⟩
  obtain ⟨op_, hop⟩ : ∃ op_, (l.getD i default).op = op_ := ⟨_, rfl⟩
  obtain ⟨key, hkey⟩ : ∃ key, (l.getD i default).key = key := ⟨_, rfl⟩
  obtain ⟨val, hval⟩ : ∃ val, (l.getD i default).val = val := ⟨_, rfl⟩
  obtain ⟨a_, ha_⟩ : ∃ a_, (l.getD i default).a = a_ := ⟨_, rfl⟩
  obtain ⟨b_, hb_⟩ : ∃ b_, (l.getD i default).b = b_ := ⟨_, rfl⟩
  obtain ⟨fl_, hfl⟩ : ∃ fl_, (l.getD i default).flag = fl_ := ⟨_, rfl⟩
  obtain ⟨sz_, hsz_⟩ : ∃ sz_, (l.getD i default).size = sz_ := ⟨_, rfl⟩
  rw [hkd] at c0
  rw [hop] at c1
  rw [hkey] at c2
  rw [hval] at c3
  rw [ha_] at c4
  rw [hb_] at c5
  rw [hfl] at c6
  rw [hsz_] at c7
  have hX : S0 + 1 < w2.heap.size := by have := hbk.size; omega
  have hsp : Sp3 w (w2.alloc (.cells #[.int .i64 kd_, .int .i64 op_, .string key, .string val, .int .i64 a_, .int .i64 b_, .int .i64 fl_, .int .i64 sz_] 25)) S0 w2.heap.size (0, 0, 0) #[.int .i64 kd_, .int .i64 op_, .string key, .string val, .int .i64 a_, .int .i64 b_, .int .i64 fl_, .int .i64 sz_] :=
    ⟨World.objAt.below hr2 ((Below.refl _ _).alloc (Nat.le_refl _) _) (World.objAt.lt hr2), World.objAt.below ho2 ((Below.refl _ _).alloc (Nat.le_refl _) _) (World.objAt.lt ho2), objAt_alloc_new w2 _ _, hbel2.alloc hbel2.size _, hS, hX⟩
  have hkv3 := hkv.ints.below ((Below.refl w2.heap.size w2).alloc (Nat.le_refl _) (.cells #[.int .i64 kd_, .int .i64 op_, .string key, .string val, .int .i64 a_, .int .i64 b_, .int .i64 fl_, .int .i64 sz_] 25))
  obtain ⟨w3, hw3⟩ : ∃ w3, w2.alloc (.cells #[.int .i64 kd_, .int .i64 op_, .string key, .string val, .int .i64 a_, .int .i64 b_, .int .i64 fl_, .int .i64 sz_] 25) = w3 := ⟨_, rfl⟩
  obtain ⟨X, hX2⟩ : ∃ X, w2.heap.size = X := ⟨_, rfl⟩
  rw [hw3, hX2] at hsp
  rw [hw3] at hkv3
  have HSP := Lib.hid hsp
  have HKV := Lib.hid hkv3
  have HOWN := Lib.hid (show ∀ q, kv.ownBlock = some q → S0 + 2 ≤ q from fun q hq => by have := (World.ownsRow.lt hkv q hq).1; omega)
  have hkd2 : kdS l i = kd_ := hkd
  have HKD := Lib.hid (And.intro hkd2 (And.intro hval hks))
  have hrange := (hT.shape i hil).range
  rw [hkd2] at hrange
  rw [hkd2] at hcl
  clear hkv hbk hbel2 hS2 hc c hr2 ho2 hkd hop hkey hval ha_ hb_ hfl hsz_ hsp hkv3 hkd2 hks HKID H0 hsz1 hX hr1 ho1 hb1 hs1
  have k0 : w3.cell? ⟨X, 0, none⟩ = some (.int .i64 kd_) := World.objAt.cell HSP.out.node (i := 0) rfl
  have hk := hcl
  clear hcl
  obtain ⟨f, hf⟩ : ∃ f : Nat → Tri, f = fun j => S l (ks.getD j 0) := ⟨_, rfl⟩
  have hks3 : kidsS l i = ks := HKD.out.2.2
  have HS := Lib.hid (show S l i = pmax f ks.length by
    rw [S_max hT hil (by rw [HKD.out.1]; omega), hks3, hf]
    exact pmax_all (S l) ks)
  have hkid : ∀ j, j < ks.length → ks.getD j 0 < len ∧ zs l (ks.getD j 0) ≤ n := fun j hj => by
    have := hT.kid hil (k := ks.getD j 0) (by rw [hks3]; exact getD_mem0 hj)
    exact ⟨by omega, by omega⟩
  have HKID := Lib.hid hkid
  have hfk : ∀ j, f j = S l (ks.getD j 0) := fun j => by rw [hf]
  have HFK := Lib.hid hfk
  have hkl := hT.kidslen hil
  rw [hks3] at hkl
  clear hkid hfk hks3 hf
  obtain ⟨ka, kcap, rfl, hk1, hk2, hrow⟩ := id HKV.out
  clear hrow
  have x1 : (kd_ == 1) = false := by simp; omega
  have x2 : (kd_ == 2) = false := by simp; omega
  have x4 : (kd_ == 4) = false := by simp; omega
  have x21 : (kd_ == 21) = false := by simp; omega
  have x22 : (kd_ == 22) = false := by simp; omega
  rcases hk with hk | hk
  all_goals
    first | (have x18 : (kd_ == 18) = true := by rw [hk]; rfl) | (have x18 : (kd_ == 18) = false := by rw [hk]; rfl)
    first | (have x19 : (kd_ == 19) = true := by rw [hk]; rfl) | (have x19 : (kd_ == 19) = false := by rw [hk]; rfl)
    first | (have x20 : (kd_ == 20) = true := by rw [hk]; rfl) | (have x20 : (kd_ == 20) = false := by rw [hk]; rfl)
    first | (have x23 : (kd_ == 23) = true := by rw [hk]; rfl) | (have x23 : (kd_ == 23) = false := by rw [hk]; rfl)
    clear hk
    go_wp2
    go_loopw [11] (fun i wr => ∃ k : Nat, k ≤ ks.length ∧ i = .int .i64 (k : Int) ∧ Hid (Sp3 w wr S0 X (pmax f k) #[.int .i64 kd_, .int .i64 op_, .string key, .string val, .int .i64 a_, .int .i64 b_, .int .i64 fl_, .int .i64 sz_]) ∧ Hid (IntsOf wr (.slice ka ks.length kcap) ks)) (fun i _ => ks.length - (intOf i).toNat)
    case atStart => exact ⟨0, by omega, by go_num, HSP, HKV⟩
    case round =>
      obtain ⟨k, hk, rfl, hH, hI⟩ := hrel
      by_cases hlt : k < ks.length
      · obtain ⟨ka', kcap', hva, _, _, hrow2⟩ := hI.out
        obtain ⟨rfl, rfl⟩ : ka = ka' ∧ kcap = kcap' := by simpa using hva
        obtain ⟨g, o, rfl, hcell⟩ := hrow2.2.2 (by omega)
        have ck := hcell k (by simpa using hlt)
        rw [show (ks.map fun (n : Nat) => Value.int .i64 (n : Int)).getD k undef = .int .i64 ((ks.getD k 0 : Nat) : Int) by simp [List.getD_eq_getElem?_getD, hlt]] at ck
        obtain ⟨z, hz⟩ : ∃ z, ks.getD k 0 = z := ⟨_, rfl⟩
        rw [hz] at ck
        have hzz := HKID.out k hlt
        rw [hz] at hzz
        have hfz := HFK.out k
        rw [hz] at hfz
        have HCALL := Lib.hid (IH.out z wr hzz.1 hzz.2 (HSL.out.later hH.out.below (Nat.le_refl _)))
        rw [← hfz] at HCALL
        have HPS := Lib.hid (show pmax f (k + 1) = triMax (pmax f k) (f k) from rfl)
        obtain ⟨p, hp⟩ : ∃ p, pmax f k = p := ⟨_, rfl⟩
        obtain ⟨y, hy⟩ : ∃ y, f k = y := ⟨_, rfl⟩
        rw [hp] at hH HPS
        rw [hy] at HCALL HPS
        clear hp hy hz hfz hcell hrow2 hva hzz
        go_wp2_with fail
        refine HCALL.out.mono ?_
        rintro e w5 ⟨rfl, hb5⟩
        have HH5 := Lib.hid (hH.out.later hb5.out)
        have HI5 := Lib.hid (hI.out.below hb5.out)
        have HLE := Lib.hid (fun w' => lessS_any p y w')
        obtain ⟨bl, hbl⟩ : ∃ bl, triLess p y = bl := ⟨_, rfl⟩
        rw [hbl] at HLE
        have HBL := Lib.hid hbl
        obtain ⟨p0, p1, p2⟩ := p
        obtain ⟨y0, y1, y2⟩ := y
        unfold triS at HLE ⊢
        clear HCALL hH hI hb5 ck hbl
        have hy5 := objAt_alloc_new w5 #[.int .i64 (y0 : Int), .int .i64 (y1 : Int), .int .i64 (y2 : Int)] 28
        have HH6 := Lib.hid (HH5.out.alloc (.cells #[.int .i64 (y0 : Int), .int .i64 (y1 : Int), .int .i64 (y2 : Int)] 28))
        have HI6 := Lib.hid (HI5.out.below ((Below.refl _ _).alloc (Nat.le_refl _) (.cells #[.int .i64 (y0 : Int), .int .i64 (y1 : Int), .int .i64 (y2 : Int)] 28)))
        have hX5 := World.objAt.lt HH5.out.node
        obtain ⟨w6, hw6⟩ : ∃ w6, w5.alloc (.cells #[.int .i64 (y0 : Int), .int .i64 (y1 : Int), .int .i64 (y2 : Int)] 28) = w6 := ⟨_, rfl⟩
        obtain ⟨Y, hY⟩ : ∃ Y, w5.heap.size = Y := ⟨_, rfl⟩
        rw [hw6] at HH6 HI6
        rw [hw6, hY] at hy5
        rw [hY] at hX5
        have HY6 := Lib.hid hy5
        have hSX := HH6.out.lt
        clear hy5 HH5 HI5
        have q0 : w6.cell? ⟨S0 + 1, 0, none⟩ = some (.int .i64 (p0 : Int)) := World.objAt.cell HH6.out.out (i := 0) rfl
        have q1 : w6.cell? ⟨S0 + 1, 1, none⟩ = some (.int .i64 (p1 : Int)) := World.objAt.cell HH6.out.out (i := 1) rfl
        have q2 : w6.cell? ⟨S0 + 1, 2, none⟩ = some (.int .i64 (p2 : Int)) := World.objAt.cell HH6.out.out (i := 2) rfl
        have v0 : w6.cell? ⟨Y, 0, none⟩ = some (.int .i64 (y0 : Int)) := World.objAt.cell HY6.out (i := 0) rfl
        have v1 : w6.cell? ⟨Y, 1, none⟩ = some (.int .i64 (y1 : Int)) := World.objAt.cell HY6.out (i := 1) rfl
        have v2 : w6.cell? ⟨Y, 2, none⟩ = some (.int .i64 (y2 : Int)) := World.objAt.cell HY6.out (i := 2) rfl
        go_wp2_with fail
        refine (HLE.out w6).mono ?_
        rintro e w7 ⟨rfl, hb7⟩
        have HH7 := Lib.hid (HH6.out.later hb7.out)
        have HI7 := Lib.hid (HI6.out.below hb7.out)
        have HY7 := Lib.hid (World.objAt.below HY6.out hb7.out (World.objAt.lt HY6.out))
        clear HH6 HI6 HY6 HLE hb7 q0 q1 q2 v0 v1 v2
        have v0 : w7.cell? ⟨Y, 0, none⟩ = some (.int .i64 (y0 : Int)) := World.objAt.cell HY7.out (i := 0) rfl
        have v1 : w7.cell? ⟨Y, 1, none⟩ = some (.int .i64 (y1 : Int)) := World.objAt.cell HY7.out (i := 1) rfl
        have v2 : w7.cell? ⟨Y, 2, none⟩ = some (.int .i64 (y2 : Int)) := World.objAt.cell HY7.out (i := 2) rfl
        have q0 : w7.cell? ⟨S0 + 1, 0, none⟩ = some (.int .i64 (p0 : Int)) := World.objAt.cell HH7.out.out (i := 0) rfl
        have q1 : w7.cell? ⟨S0 + 1, 1, none⟩ = some (.int .i64 (p1 : Int)) := World.objAt.cell HH7.out.out (i := 1) rfl
        have q2 : w7.cell? ⟨S0 + 1, 2, none⟩ = some (.int .i64 (p2 : Int)) := World.objAt.cell HH7.out.out (i := 2) rfl
        have n0 : w7.frozen? ⟨S0 + 1, 0, none⟩ = false := World.objAt.free HH7.out.out 0
        have n1 : w7.frozen? ⟨S0 + 1, 1, none⟩ = false := World.objAt.free HH7.out.out 1
        have n2 : w7.frozen? ⟨S0 + 1, 2, none⟩ = false := World.objAt.free HH7.out.out 2
        cases bl
        · go_wp2
          go_roundw
          case rel => exact ⟨k + 1, by omega, by go_num, Lib.hid (by rw [HPS.out]; unfold triMax; rw [HBL.out]; exact HH7.out), HI7⟩
          case measure => simp [intOf]; omega
        · go_wp2
          go_roundw
          case rel =>
            refine ⟨k + 1, by omega, by go_num, Lib.hid ?_, Lib.hid (((HI7.out.set ⟨S0 + 1, 0, none⟩ (by have := HOWN.out g rfl; show g ≠ S0 + 1; omega) _).set ⟨S0 + 1, 1, none⟩ (by have := HOWN.out g rfl; show g ≠ S0 + 1; omega) _).set ⟨S0 + 1, 2, none⟩ (by have := HOWN.out g rfl; show g ≠ S0 + 1; omega) _)⟩
            rw [HPS.out]
            unfold triMax
            rw [HBL.out]
            exact ((HH7.out.set (i := 0) (v := .int .i64 (y0 : Int)) (t' := (y0, p1, p2)) rfl).set (i := 1) (v := .int .i64 (y1 : Int)) (t' := (y0, y1, p2)) rfl).set (i := 2) (v := .int .i64 (y2 : Int)) (t' := (y0, y1, y2)) rfl
          case measure => simp [intOf]; omega
      · obtain rfl : k = ks.length := by omega
        have q0 : wr.cell? ⟨S0 + 1, 0, none⟩ = some (.int .i64 ((pmax f ks.length).1 : Int)) := World.objAt.cell hH.out.out (i := 0) rfl
        have n0 : wr.frozen? ⟨S0 + 1, 0, none⟩ = false := World.objAt.free hH.out.out 0
        have q1 : wr.cell? ⟨S0 + 1, 1, none⟩ = some (.int .i64 ((pmax f ks.length).2.1 : Int)) := World.objAt.cell hH.out.out (i := 1) rfl
        have n1 : wr.frozen? ⟨S0 + 1, 1, none⟩ = false := World.objAt.free hH.out.out 1
        have q2 : wr.cell? ⟨S0 + 1, 2, none⟩ = some (.int .i64 ((pmax f ks.length).2.2 : Int)) := World.objAt.cell hH.out.out (i := 2) rfl
        have n2 : wr.frozen? ⟨S0 + 1, 2, none⟩ = false := World.objAt.free hH.out.out 2
        have r0 : wr.cell? ⟨S0, 0, none⟩ = some (.int .i64 0) := World.objAt.cell hH.out.res (i := 0) rfl
        have m0 : wr.frozen? ⟨S0, 0, none⟩ = false := World.objAt.free hH.out.res 0
        have r1 : wr.cell? ⟨S0, 1, none⟩ = some (.int .i64 0) := World.objAt.cell hH.out.res (i := 1) rfl
        have m1 : wr.frozen? ⟨S0, 1, none⟩ = false := World.objAt.free hH.out.res 1
        have r2 : wr.cell? ⟨S0, 2, none⟩ = some (.int .i64 0) := World.objAt.cell hH.out.res (i := 2) rfl
        have m2 : wr.frozen? ⟨S0, 2, none⟩ = false := World.objAt.free hH.out.res 2
        go_wp2
        refine bodyPost_ret (v := triS (pmax f ks.length)) ?_ rfl ?_
        · rw [results_cell1 rfl]
          go_simp
          rfl
        · have hq2 := hH.out.at_
          refine ⟨by rw [HS.out], Lib.hid ?_⟩
          exact ((hH.out.below.setCell (p := ⟨S0, 0, none⟩) (by show _ ≤ S0; omega) _).setCell (p := ⟨S0, 1, none⟩) (by show _ ≤ S0; omega) _).setCell (p := ⟨S0, 2, none⟩) (by show _ ≤ S0; omega) _
variable {l : List SelD}
theorem specS_any (hT : SelTree l) (hNP : NoPseudo l) (a : Option Addr) (len cap : Nat) : ∀ (n i : Nat) (w : World), i < len → zs l i ≤ n → Sels w a len l →
    Calls Tryz.prog 17 #[.slice a len cap, .int .i64 (i : Int)] w (TriPost (S l i) w)
  | 0, i, w, hi, hn, h => by
    have := hT.nest.pos i (by rw [h.len.1]; exact hi)
    omega
  | n + 1, i, w, hi, hn, h => by
    have ih := specS_any hT hNP a len cap n
    have hr := (hT.shape i (by rw [h.len.1]; exact hi)).range
    by_cases h1 : kdS l i = 1
    · exact specS_k1 hT hNP a len cap n ih i w hi hn h h1
    · by_cases h2 : kdS l i = 2
      · exact specS_k2 hT hNP a len cap n ih i w hi hn h h2
      · by_cases h4 : kdS l i = 4
        · exact specS_k4 hT hNP a len cap n ih i w hi hn h h4
        · by_cases h17 : kdS l i ≤ 17
          · exact specS_kc hT hNP a len cap n ih i w hi hn h (by omega)
          · by_cases h21 : kdS l i = 21 ∨ kdS l i = 22
            · exact specS_sum hT hNP a len cap n ih i w hi hn h h21
            · by_cases h18 : kdS l i = 18 ∨ kdS l i = 19
              · exact specS_max18 hT hNP a len cap n ih i w hi hn h h18
              · exact specS_max20 hT hNP a len cap n ih i w hi hn h (by omega)
set_option maxRecDepth 100000 in
set_option maxHeartbeats 8000000 in
/-- spec.Specificity. -/
theorem specificityS_any (hT : SelTree l) (hNP : NoPseudo l) (a : Option Addr) (len cap : Nat) (w : World) (h : Sels w a len l) :
    Calls Tryz.prog 10 #[.slice a len cap] w (TriPost (S l 0) w) := by
  have hl := h.len.1
  have hpos := hT.pos
  have h0 := objAt_alloc_new w #[.int .i64 0, .int .i64 0, .int .i64 0] 28
  have hb0 : Below w.heap.size w (w.alloc (.cells #[.int .i64 0, .int .i64 0, .int .i64 0] 28)) := (Below.refl _ _).alloc (Nat.le_refl _) _
  obtain ⟨w0, hw0⟩ : ∃ w0, w.alloc (.cells #[.int .i64 0, .int .i64 0, .int .i64 0] 28) = w0 := ⟨_, rfl⟩
  rw [hw0] at h0 hb0
  obtain ⟨S0, hS⟩ : ∃ S0, w.heap.size = S0 := ⟨_, rfl⟩
  rw [hS] at h0
  have HC := Lib.hid (specS_any hT hNP a len cap (zs l 0) 0 w0 (by omega) (Nat.le_refl _) (h.later hb0 (Nat.le_refl _)))
  have H0 := Lib.hid (And.intro h0 hb0)
  have g0 : ((len : Int) == 0) = false := by simp; omega
  obtain ⟨⟨t0, t1, t2⟩, ht⟩ : ∃ t, S l 0 = t := ⟨_, rfl⟩
  rw [ht] at HC
  rw [ht]
  clear h0 hb0 h ht
  go_enter Tryz.func10, Tryz.ntmps10
  go_wp2_with fail
  refine HC.out.mono ?_
  rintro e w2 ⟨rfl, hb2⟩
  unfold triS
  have h2 := World.objAt.below H0.out.1 hb2.out (World.objAt.lt H0.out.1)
  have HB2 := Lib.hid (H0.out.2.trans (hb2.out.mono H0.out.2.size))
  have m0 : w2.frozen? ⟨S0, 0, none⟩ = false := World.objAt.free h2 0
  have m1 : w2.frozen? ⟨S0, 1, none⟩ = false := World.objAt.free h2 1
  have m2 : w2.frozen? ⟨S0, 2, none⟩ = false := World.objAt.free h2 2
  have r0 : w2.cell? ⟨S0, 0, none⟩ = some (.int .i64 0) := World.objAt.cell h2 (i := 0) rfl
  have r1 : w2.cell? ⟨S0, 1, none⟩ = some (.int .i64 0) := World.objAt.cell h2 (i := 1) rfl
  have r2 : w2.cell? ⟨S0, 2, none⟩ = some (.int .i64 0) := World.objAt.cell h2 (i := 2) rfl
  clear h2 HC H0 hb2
  go_wp2
  refine bodyPost_ret (v := triS (t0, t1, t2)) ?_ rfl ?_
  · rw [results_cell1 rfl]
    go_simp
    rfl
  · exact ⟨rfl, Lib.hid (((HB2.out.setCell (p := ⟨S0, 0, none⟩) (by show _ ≤ S0; omega) _).setCell (p := ⟨S0, 1, none⟩) (by show _ ≤ S0; omega) _).setCell (p := ⟨S0, 2, none⟩) (by show _ ≤ S0; omega) _)⟩
theorem selRel {w : World} {A n : Nat} (c : Nat) (z : ByteArray) {v : Nat → Value} {f : Nat → Tri} (Fs : Nat → Nat → Prop) (hn : n ≤ 10000) (hA : A < w.heap.size) (hcell : ∀ j, j < n → w.cell? ⟨A, j, none⟩ = some (v j))
    (hsem : ∀ j, j < n → SelSem w (Fs j) (v j) (f j)) :
    SelSem w (fun b => b = A ∨ ∃ j, j < n ∧ Fs j b) (.iface 100 (.agg #[.string z, .slice (some ⟨A, 0, none⟩) n c])) (pmax f n) := by
  refine ⟨fun b h => ?_, _, _, 152, .agg #[.string z, .slice (some ⟨A, 0, none⟩) n c], rfl, fun _ => by kernel_rfl, fun _ => by kernel_rfl, fun w' ha => ?_⟩
  · rcases h with rfl | ⟨j, hj, hb⟩
    · exact hA
    · exact (hsem j hj).1 b hb
  · have hh := ha A (.inl rfl)
    have hA' : A < w'.heap.size := by
      have h2 := hh
      rw [Array.getElem?_eq_getElem hA] at h2
      exact (Array.getElem?_eq_some_iff.mp h2).1
    exact relSpec w' A n c z hn hA' v f (fun j hj => (World.cell?_of_block (w := w) (a := ⟨A, j, none⟩) hh).trans (hcell j hj)) (fun j hj => ⟨Fs j, (hsem j hj).keep fun b hb => ha b (.inr ⟨j, hj, hb⟩)⟩)
variable {d : Int}
/-- A row of n selectors in a block from L on; the blocks that a value's specificity asks are from L on and not the row's. -/
structure RowS (w : World) (L : Nat) (v : Value) (n : Nat) (vs : List Value) (f : Nat → Tri) : Prop where
  own : w.ownsRow L 36 1 v n vs
  sem : ∀ j, j < n → ∃ F, SelSem w F (vs.getD j undef) (f j) ∧ ∀ b, F b → L ≤ b ∧ some b ≠ v.ownBlock
theorem ownsRow_keptS {w w' : World} {B : Nat} {e : TypeId} {size : Nat} {v : Value} {n : Nat} {xs : List Value} (h : w.ownsRow B e size v n xs) (hk : ∀ b, v.ownBlock = some b → w'.heap[b]? = w.heap[b]?) : w'.ownsRow B e size v n xs := by
  refine ⟨h.1, ?_⟩
  rcases h.2 with h2 | ⟨g, cap, cur, rfl, b, hg, r⟩
  · exact .inl h2
  · exact .inr ⟨g, cap, cur, rfl, b, by rw [hk g rfl]; exact hg, r⟩
theorem RowS.nil (w : World) (L : Nat) (f : Nat → Tri) : RowS w L (.slice none 0 0) 0 [] f :=
  ⟨World.ownsRow_nil _ _ _ _, fun j hj => absurd hj (by omega)⟩
theorem RowS.keep {w w' : World} {L B n : Nat} {v : Value} {vs : List Value} {f : Nat → Tri} (h : RowS w L v n vs f) (hk : Keep B w w') (hB : B < L) : RowS w' L v n vs f := by
  refine ⟨ownsRow_keptS h.own fun b hb => ?_, fun j hj => ?_⟩
  · have := World.ownsRow.lt h.own b hb
    exact hk.rest b (by omega) this.2
  · obtain ⟨F, hs, hF⟩ := h.sem j hj
    exact ⟨F, hs.keep fun b hb => hk.rest b (by have := (hF b hb).1; omega) (hs.1 b hb), hF⟩
theorem RowS.snoc {w w1 : World} {L n : Nat} {v v' y : Value} {vs : List Value} {f : Nat → Tri} {F : Nat → Prop} (h : RowS w L v n vs f) (hs : SelSem w F y (f n)) (hF : ∀ b, F b → L ≤ b ∧ some b ≠ v.ownBlock)
    (ho : w1.ownsRow L 36 1 v' (n + 1) (vs ++ [y])) (hg : w.grownBy w1 v.ownBlock) (hat : v'.ownBlock = v.ownBlock ∨ v'.ownBlock = some w.heap.size) : RowS w1 L v' (n + 1) (vs ++ [y]) f := by
  have hlen : vs.length = n := by have := h.own.1; simpa using this
  have hall : ∀ (G : Nat → Prop) (z : Value) (t : Tri), SelSem w G z t → (∀ b, G b → L ≤ b ∧ some b ≠ v.ownBlock) → SelSem w1 G z t ∧ ∀ b, G b → L ≤ b ∧ some b ≠ v'.ownBlock := fun G z t hz hG =>
    ⟨hz.keep fun b hb => hg.block b (hz.1 b hb) (hG b hb).2, fun b hb => ⟨(hG b hb).1, by
      rcases hat with e | e
      · rw [e]; exact (hG b hb).2
      · rw [e]
        have := hz.1 b hb
        simp
        omega⟩⟩
  refine ⟨ho, fun j hj => ?_⟩
  rcases Nat.lt_or_ge j n with hlt | hge
  · obtain ⟨G, hz, hG⟩ := h.sem j hlt
    have e : (vs ++ [y]).getD j undef = vs.getD j undef := by simp [List.getD_eq_getElem?_getD, List.getElem?_append_left (show j < vs.length by omega)]
    rw [e]
    exact ⟨G, hall G _ _ hz hG⟩
  · obtain rfl : j = n := by omega
    have e : (vs ++ [y]).getD j undef = y := by simp [List.getD_eq_getElem?_getD, ← hlen]
    rw [e]
    exact ⟨F, hall F _ _ hs hF⟩
/-- The cells of a row that is there. -/
theorem RowS.cells {w : World} {L n : Nat} {v : Value} {vs : List Value} {f : Nat → Tri} (h : RowS w L v n vs f) (hn : 0 < n) : ∃ A c, v = .slice (some ⟨A, 0, none⟩) n c ∧ L ≤ A ∧ A < w.heap.size ∧ (∀ j, j < n → w.cell? ⟨A, j, none⟩ = some (vs.getD j undef)) := by
  have hlen : vs.length = n := by have := h.own.1; simpa using this
  rcases h.own.2 with ⟨_, h0⟩ | ⟨g, cap, cur, rfl, hb, hg, _⟩
  · omega
  · refine ⟨g, cap, rfl, hb, (World.ownsRow.lt h.own g rfl).2, fun j hj => ?_⟩
    have hc := World.ownsRow.cells h.own (g := g) rfl j (vs.getD j undef) (by rw [List.getD_eq_getElem?_getD]; simp [show j < vs.length by omega])
    have hadd : (⟨g, 0, none⟩ : Addr).add j = ⟨g, j, none⟩ := by unfold Addr.add; split <;> simp_all
    rwa [hadd] at hc
/-- The parser behind an append to a row of the call's own. -/
theorem PK.grown {W w w1 : World} {B L k n : Nat} {s : ByteArray} {v : Value} {vs : List Value} (h : PK d W w B s k) (ho : w.ownsRow L 36 1 v n vs) (hB : B < L) (hL : L = W.heap.size) (hg : w.grownBy w1 v.ownBlock) : PK d W w1 B s k := by
  have hr : ∀ q, v.ownBlock = some q → L ≤ q := fun q hq => (World.ownsRow.lt ho q hq).1
  have hlt := World.objAt.lt h.prs
  have hsz := h.keep.below.size
  refine ⟨?_, ⟨h.keep.below.grown hg (Nat.le_of_lt hlt) (fun q hq => by have := hr q hq; omega), fun b h1 h2 => ?_⟩⟩
  · have hp := h.prs
    unfold Prs World.objAt at hp ⊢
    rw [hg.block B hlt (fun e => by have := hr B e.symm; omega)]
    exact hp
  · exact (hg.block b (Nat.lt_of_lt_of_le h2 hsz) (fun e => by have := hr b e.symm; omega)).trans (h.keep.rest b h1 h2)
theorem PK.alloc {W w : World} {B k : Nat} {s : ByteArray} (h : PK d W w B s k) (o : Obj) : PK d W (w.alloc o) B s k := h.below ((Below.refl _ _).alloc (Nat.le_refl _) o)
theorem RowS.alloc {w : World} {L n : Nat} {v : Value} {vs : List Value} {f : Nat → Tri} (h : RowS w L v n vs f) (o : Obj) : RowS (w.alloc o) L v n vs f :=
  ⟨World.ownsRow.alloc h.own o, fun j hj => by
    obtain ⟨F, hs, hF⟩ := h.sem j hj
    exact ⟨F, hs.below ((Below.refl _ _).alloc (Nat.le_refl _) o), hF⟩⟩
theorem RowS.drew {w : World} {L n : Nat} {v : Value} {vs : List Value} {f : Nat → Tri} (h : RowS w L v n vs f) (q : Nat) : RowS (w.drewN q) L v n vs f :=
  ⟨ownsRow_keptS h.own (fun b _ => by rw [World.heap_drewN]), fun j hj => by
    obtain ⟨F, hs, hF⟩ := h.sem j hj
    exact ⟨F, hs.keep (fun b _ => by rw [World.heap_drewN]), hF⟩⟩
/-- A selector is read: its value answers t. -/
def SelRead (d : Int) (s : ByteArray) (B j : Nat) (t : Tri) (w : World) (e : Ending) (w' : World) : Prop :=
  ∃ T v F, e = .returned (.tuple #[.iface T v, .nilIface]) ∧ Hid (Prs d w' B s j) ∧ Hid (Keep B w w') ∧ Hid (SelSem w' F (.iface T v) t ∧ ∀ b, F b → w.heap.size ≤ b)
/-- A pseudo-class is read: its value answers t. -/
def PsSem (d : Int) (s : ByteArray) (B j : Nat) (t : Tri) (w : World) (e : Ending) (w' : World) : Prop :=
  ∃ T v F, e = .returned (.tuple #[.iface T v, .string ⟨#[]⟩, .nilIface]) ∧ Hid (Prs d w' B s j) ∧ Hid (Keep B w w') ∧ Hid (SelSem w' F (.iface T v) t ∧ ∀ b, F b → w.heap.size ≤ b)
/-- A part of a compound stands at i and ends at j. -/
def PartCalls (d : Int) (s : ByteArray) (B i j : Nat) (t : Tri) : Prop :=
  (nx s i = 35 ∧ t = (1, 0, 0) ∧ ∀ w, Prs d w B s i → Calls Tryz.prog 42 #[.pointer (some ⟨B, 0, none⟩)] w (OneRead d s B j w)) ∨
  (nx s i = 46 ∧ t = (0, 1, 0) ∧ ∀ w, Prs d w B s i → Calls Tryz.prog 43 #[.pointer (some ⟨B, 0, none⟩)] w (OneRead d s B j w)) ∨
  (nx s i = 91 ∧ t = (0, 1, 0) ∧ ∀ w, Prs d w B s i → Calls Tryz.prog 44 #[.pointer (some ⟨B, 0, none⟩)] w (AttrRead d s B j w)) ∨
  (nx s i = 58 ∧ ∀ w, Prs d w B s i → Calls Tryz.prog 45 #[.pointer (some ⟨B, 0, none⟩)] w (PsSem d s B j t w))
variable {d : Int}
def CompAt0 (w wr : World) (S : Nat) : Prop :=
  World.objAt wr S #[.slice none 0 0, .string ⟨#[]⟩] 91 ∧ World.objAt wr (S + 1) #[.int .i64 0, .int .i64 0, .int .i64 0] 41 ∧ World.objAt wr (S + 1 + 1) #[.int .i64 0, .int .i64 0, .int .i64 0] 41 ∧ Below w.heap.size w wr ∧ w.heap.size = S
set_option maxRecDepth 100000 in
set_option maxHeartbeats 8000000 in
theorem compoundSpec0 (w : World) :
    Calls Tryz.prog 146 #[.agg #[.slice none 0 0, .string ⟨#[]⟩]] w (SpecPost (0, 0, 0) w) := by
  go_enter Tryz.func146, Tryz.ntmps146
  go_wp2
  obtain ⟨S, hS⟩ : ∃ S, w.heap.size = S := ⟨_, rfl⟩
  obtain ⟨w1, hw1⟩ : ∃ w1, (((w.alloc (.cells #[.slice none 0 0, .string ⟨#[]⟩] 91)).alloc (.cells #[.int .i64 0, .int .i64 0, .int .i64 0] 41)).alloc (.cells #[.int .i64 0, .int .i64 0, .int .i64 0] 41)) = w1 := ⟨_, rfl⟩
  have h1 : CompAt0 w w1 S := by
    rw [← hw1, ← hS]
    refine ⟨World.objAt.below (World.objAt.below (objAt_alloc_new w _ _) ((Below.refl (w.heap.size + 1) _).alloc (by simp) _) (by omega)) ((Below.refl (w.heap.size + 1) _).alloc (by simp) _) (by omega), ?_, ?_, (((Below.refl w.heap.size w).alloc (Nat.le_refl _) _).alloc (by simp) _).alloc (by simp; omega) _, rfl⟩
    · have h2 := objAt_alloc_new (w.alloc (.cells #[.slice none 0 0, .string ⟨#[]⟩] 91)) #[.int .i64 0, .int .i64 0, .int .i64 0] 41
      have h3 : World.objAt ((w.alloc (.cells #[.slice none 0 0, .string ⟨#[]⟩] 91)).alloc (.cells #[.int .i64 0, .int .i64 0, .int .i64 0] 41)) (w.heap.size + 1) #[.int .i64 0, .int .i64 0, .int .i64 0] 41 := by simpa using h2
      exact World.objAt.below h3 ((Below.refl (w.heap.size + 1 + 1) _).alloc (by simp) _) (by omega)
    · have h2 := objAt_alloc_new ((w.alloc (.cells #[.slice none 0 0, .string ⟨#[]⟩] 91)).alloc (.cells #[.int .i64 0, .int .i64 0, .int .i64 0] 41)) #[.int .i64 0, .int .i64 0, .int .i64 0] 41
      simpa using h2
  rw [hw1]
  try rw [hS]
  have H1 := Lib.hid h1
  clear h1 hw1
  go_loopw [9] (fun i wr => i = .int .i64 0 ∧ Hid (CompAt0 w wr S)) (fun i _ => 0)
  case atStart => exact ⟨by go_num, H1⟩
  case round =>
    obtain ⟨rfl, hH⟩ := hrel
    have p1 : wr.cell? ⟨S, 1, none⟩ = some (.string ⟨#[]⟩) := World.objAt.cell hH.out.1 (i := 1) rfl
    have q0 : wr.cell? ⟨S + 1 + 1, 0, none⟩ = some (.int .i64 0) := World.objAt.cell hH.out.2.2.1 (i := 0) rfl
    have q1 : wr.cell? ⟨S + 1 + 1, 1, none⟩ = some (.int .i64 0) := World.objAt.cell hH.out.2.2.1 (i := 1) rfl
    have q2 : wr.cell? ⟨S + 1 + 1, 2, none⟩ = some (.int .i64 0) := World.objAt.cell hH.out.2.2.1 (i := 2) rfl
    have r0 : wr.cell? ⟨S + 1, 0, none⟩ = some (.int .i64 0) := World.objAt.cell hH.out.2.1 (i := 0) rfl
    have r1 : wr.cell? ⟨S + 1, 1, none⟩ = some (.int .i64 0) := World.objAt.cell hH.out.2.1 (i := 1) rfl
    have r2 : wr.cell? ⟨S + 1, 2, none⟩ = some (.int .i64 0) := World.objAt.cell hH.out.2.1 (i := 2) rfl
    have m0 : wr.frozen? ⟨S + 1, 0, none⟩ = false := World.objAt.free hH.out.2.1 0
    have m1 : wr.frozen? ⟨S + 1, 1, none⟩ = false := World.objAt.free hH.out.2.1 1
    have m2 : wr.frozen? ⟨S + 1, 2, none⟩ = false := World.objAt.free hH.out.2.1 2
    go_wp2
    refine bodyPost_ret (v := triV (0, 0, 0)) ?_ rfl ?_
    · rw [results_cell1 rfl]
      go_simp
      rfl
    · have hq2 : w.heap.size ≤ S + 1 := by omega
      exact ⟨rfl, Lib.hid (((hH.out.2.2.2.1.setCell (p := ⟨S + 1, 0, none⟩) hq2 _).setCell (p := ⟨S + 1, 1, none⟩) hq2 _).setCell (p := ⟨S + 1, 2, none⟩) hq2 _)⟩
theorem selCompound0 (w : World) : SelSem w (fun _ => False) (.iface 91 (.agg #[.slice none 0 0, .string ⟨#[]⟩])) (0, 0, 0) :=
  ⟨fun _ h => h.elim, _, _, 146, .agg #[.slice none 0 0, .string ⟨#[]⟩], rfl, fun _ => by kernel_rfl, fun _ => by kernel_rfl, fun w' _ => compoundSpec0 w'⟩
/-- A family of feet. -/
theorem choose_feet0 {n : Nat} {P : Nat → (Nat → Prop) → Prop} (h : ∀ j, j < n → ∃ F, P j F) : ∃ Fs : Nat → Nat → Prop, ∀ j, j < n → P j (Fs j) := by
  refine ⟨fun j => if hj : j < n then Classical.choose (h j hj) else fun _ => False, fun j hj => ?_⟩
  simp only [dif_pos hj]
  exact Classical.choose_spec (h j hj)
/-- A row, made a compound. -/
theorem RowS.compound {w : World} {L n : Nat} {v : Value} {vs : List Value} {f : Nat → Tri} (h : RowS w L v n vs f) (hn : n ≤ 100) (hf : ∀ j, j < n → Tri9 (f j)) (hp : ∀ j, j ≤ n → Tri9 (psum f j)) :
    ∃ F, SelSem w F (.iface 91 (.agg #[v, .string ⟨#[]⟩])) (psum f n) ∧ ∀ b, F b → L ≤ b := by
  rcases Nat.lt_or_ge 0 n with h0 | h0
  · obtain ⟨A, c, rfl, hL, hA, hc⟩ := h.cells h0
    obtain ⟨Fs, hFs⟩ := choose_feet0 h.sem
    exact ⟨_, selCompound c Fs (by omega) hA hc (fun j hj => (hFs j hj).1) hf hp, fun b hb => by
      rcases hb with rfl | ⟨j, hj, hb⟩
      · exact hL
      · exact ((hFs j hj).2 b hb).1⟩
  · obtain rfl : n = 0 := by omega
    rcases h.own.2 with ⟨rfl, _⟩ | ⟨g, cap, cur, rfl, hb, hg, _⟩
    · exact ⟨_, selCompound0 w, fun b hb => hb.elim⟩
    · exact ⟨_, selCompound (v := fun _ => undef) cap (fun _ _ => False) (by omega) (World.ownsRow.lt h.own g rfl).2 (fun j hj => absurd hj (by omega)) (fun j hj => absurd hj (by omega)) hf hp, fun b hb' => by
        rcases hb' with rfl | ⟨j, hj, _⟩
        · exact hb
        · omega⟩
theorem Tryz.infoSel : (Tryz.prog.info? 36).map (fun i => (i.zero, i.size, i.bytes)) = some (some .nilIface, 1, 16) := by kernel_rfl
/-- How many a slice holds. -/
def sliceLen : Value → Nat
  | .slice _ n _ => n
  | _ => 0
theorem RowS.len {w : World} {L n : Nat} {v : Value} {vs : List Value} {f : Nat → Tri} (h : RowS w L v n vs f) : sliceLen v = n := by
  rcases h.own.2 with ⟨rfl, h0⟩ | ⟨g, cap, cur, rfl, _⟩
  · exact h0.symm
  · rfl
theorem RowS.isSlice {w : World} {L n : Nat} {v : Value} {vs : List Value} {f : Nat → Tri} (h : RowS w L v n vs f) : ∃ a c, v = .slice a n c := by
  rcases h.own.2 with ⟨rfl, rfl⟩ | ⟨g, cap, cur, rfl, _⟩
  · exact ⟨_, _, rfl⟩
  · exact ⟨_, _, rfl⟩
end Go.Proofs.YtoanofdomhnafaaGreatDoor
