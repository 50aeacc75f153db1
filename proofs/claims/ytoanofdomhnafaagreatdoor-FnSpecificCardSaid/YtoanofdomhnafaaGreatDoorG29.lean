/- Parts of a proof: SpecS1, SpecS2. -/
import Derived.Test.YtoanofdomhnafaaGreatDoorG28
set_option linter.unusedVariables false
set_option linter.unusedSimpArgs false
namespace Go.Proofs.YtoanofdomhnafaaGreatDoor
open Go.RowKit
variable {l : List SelD}
set_option maxRecDepth 100000 in
set_option maxHeartbeats 8000000 in
theorem specS_sum (hT : SelTree l) (hNP : NoPseudo l) (a : Option Addr) (len cap n : Nat) (ih : ∀ (i : Nat) (w : World), i < len → zs l i ≤ n → Sels w a len l → Calls Tryz.prog 17 #[.slice a len cap, .int .i64 (i : Int)] w (TriPost (S l i) w)) (i : Nat) (w : World) (hi : i < len) (hn : zs l i ≤ n + 1) (h : Sels w a len l) (hcl : kdS l i = 21 ∨ kdS l i = 22) :
  Calls Tryz.prog 17 #[.slice a len cap, .int .i64 (i : Int)] w (TriPost (S l i) w) := by
  have IH := Lib.hid ih
  have hl := h.len.1
  have hil : i < l.length := by omega
  have hlen60 : len ≤ 60 := by rw [← hl]; exact hT.small
  obtain ⟨hsz, hfit⟩ := hT.szs hl
  have h0 := objAt_alloc_new w #[.int .i64 0, .int .i64 0, .int .i64 0] 28
  have h1 := objAt_alloc_new (w.alloc (.cells #[.int .i64 0, .int .i64 0, .int .i64 0] 28)) #[.int .i64 0, .int .i64 0, .int .i64 0] 28
  have hb0 : Below w.heap.size w ((w.alloc (.cells #[.int .i64 0, .int .i64 0, .int .i64 0] 28)).alloc (.cells #[.int .i64 0, .int .i64 0, .int .i64 0] 28)) := ((Below.refl _ _).alloc (Nat.le_refl _) _).alloc (by simp) _
  have h0' := World.objAt.below h0 ((Below.refl _ _).alloc (Nat.le_refl _) (.cells #[.int .i64 0, .int .i64 0, .int .i64 0] 28)) (World.objAt.lt h0)
  obtain ⟨w0, hw0⟩ : ∃ w0, ((w.alloc (.cells #[.int .i64 0, .int .i64 0, .int .i64 0] 28)).alloc (.cells #[.int .i64 0, .int .i64 0, .int .i64 0] 28)) = w0 := ⟨_, rfl⟩
  rw [hw0] at h0' h1 hb0
  have hsz1 : (w.alloc (.cells #[.int .i64 0, .int .i64 0, .int .i64 0] 28)).heap.size = w.heap.size + 1 := by simp
  rw [hsz1] at h1
  obtain ⟨S0, hS⟩ : ∃ S0, w.heap.size = S0 := ⟨_, rfl⟩
  rw [hS] at h0' h1
  have hw0s : w0.heap.size = S0 + 1 + 1 := by rw [← hw0, ← hS]; simp
  have HSL := Lib.hid h
  have HKID := Lib.hid (fun w' (h' : Sels w' a len l) => selKids_any a len cap l i w' h' hsz hfit hi (by omega))
  have q0 : w0.cell? ⟨S0 + 1, 0, none⟩ = some (.int .i64 0) := World.objAt.cell h1 (i := 0) rfl
  have q1 : w0.cell? ⟨S0 + 1, 1, none⟩ = some (.int .i64 0) := World.objAt.cell h1 (i := 1) rfl
  have q2 : w0.cell? ⟨S0 + 1, 2, none⟩ = some (.int .i64 0) := World.objAt.cell h1 (i := 2) rfl
  have n0 : w0.frozen? ⟨S0 + 1, 0, none⟩ = false := World.objAt.free h1 0
  have n1 : w0.frozen? ⟨S0 + 1, 1, none⟩ = false := World.objAt.free h1 1
  have n2 : w0.frozen? ⟨S0 + 1, 2, none⟩ = false := World.objAt.free h1 2
  have H0 := Lib.hid (And.intro h0' (And.intro h1 hb0))
  have HSZ := Lib.hid (And.intro hsz hfit)
  clear h0 h0' h1 hb0 h hsz hfit
  go_enter Tryz.func17, Tryz.ntmps17
  go_wp2_with fail
  obtain ⟨w1, hw1⟩ : ∃ w1, (((w0.setCell ⟨S0 + 1, 0, none⟩ (.int .i64 0)).setCell ⟨S0 + 1, 1, none⟩ (.int .i64 0)).setCell ⟨S0 + 1, 2, none⟩ (.int .i64 0)) = w1 := ⟨_, rfl⟩
  have hr1 : World.objAt w1 S0 #[.int .i64 0, .int .i64 0, .int .i64 0] 28 := by
    rw [← hw1]
    exact objAt_offS (objAt_offS (objAt_offS H0.out.1 ⟨S0 + 1, 0, none⟩ (by show S0 ≠ S0 + 1; omega) _) ⟨S0 + 1, 1, none⟩ (by show S0 ≠ S0 + 1; omega) _) ⟨S0 + 1, 2, none⟩ (by show S0 ≠ S0 + 1; omega) _
  have ho1 : World.objAt w1 (S0 + 1) #[.int .i64 0, .int .i64 0, .int .i64 0] 28 := by
    rw [← hw1]
    exact World.objAt.set (World.objAt.set (World.objAt.set H0.out.2.1 0 _) 1 _) 2 _
  have hb1 : Below w.heap.size w w1 := by
    rw [← hw1]
    exact ((H0.out.2.2.setCell (p := ⟨S0 + 1, 0, none⟩) (by show _ ≤ S0 + 1; omega) _).setCell (p := ⟨S0 + 1, 1, none⟩) (by show _ ≤ S0 + 1; omega) _).setCell (p := ⟨S0 + 1, 2, none⟩) (by show _ ≤ S0 + 1; omega) _
  rw [hw1]
  have hs1 : S0 + 1 < w1.heap.size := World.objAt.lt ho1
  clear q0 q1 q2 n0 n1 n2 hw1
  refine (HKID.out w1 (HSL.out.later hb1 (Nat.le_refl _))).mono ?_
  rintro e w2 ⟨kv, rfl, hkv, hbk⟩
  obtain ⟨ks, hks⟩ : ∃ ks, kids (zs l) i = ks := ⟨_, rfl⟩
  rw [hks] at hkv
  have hbel2 := hb1.trans (hbk.mono hb1.size)
  have hS2 := HSL.out.later hbel2 (Nat.le_refl _)
  obtain ⟨b, off, rfl, hc⟩ := hS2.at (by omega)
  have c := hc i hi
  have c0 := c.kind
  have c1 := c.op
  have c2 := c.key
  have c3 := c.val
  have c4 := c.a
  have c5 := c.b
  have c6 := c.flag
  have c7 := c.size
  have hr2 := World.objAt.below hr1 hbk (World.objAt.lt hr1)
  have ho2 := World.objAt.below ho1 hbk (World.objAt.lt ho1)
  obtain ⟨kd_, hkd⟩ : ∃ kd_, (l.getD i default).kind = kd_ := ⟨_, rfl⟩
  obtain ⟨op_, hop⟩ : ∃ op_, (l.getD i default).op = op_ := ⟨_, rfl⟩
  obtain ⟨key, hkey⟩ : ∃ key, (l.getD i default).key = key := ⟨_, rfl⟩
  obtain ⟨val, hval⟩ : ∃ val, (l.getD i default).val = val := ⟨_, rfl⟩
  obtain ⟨a_, ha_⟩ : ∃ a_, (l.getD i default).a = a_ := ⟨_, rfl⟩
  obtain ⟨b_, hb_⟩ : ∃ b_, (l.getD i default).b = b_ := ⟨_, rfl⟩
  obtain ⟨fl_, hfl⟩ : ∃ fl_, (l.getD i default).flag = fl_ := ⟨_, rfl⟩
  obtain ⟨sz_, hsz_⟩ : ∃ sz_, (l.getD i default).size = sz_ := ⟨_, rfl⟩
  rw [hkd] at c0
  rw [hop] at c1
  rw [hkey] at c2
  rw [hval] at c3
  rw [ha_] at c4
  rw [hb_] at c5
  rw [hfl] at c6
  rw [hsz_] at c7
  have hX : S0 + 1 < w2.heap.size := by have := hbk.size; omega
  have hsp : Sp3 w (w2.alloc (.cells #[.int .i64 kd_, .int .i64 op_, .string key, .string val, .int .i64 a_, .int .i64 b_, .int .i64 fl_, .int .i64 sz_] 25)) S0 w2.heap.size (0, 0, 0) #[.int .i64 kd_, .int .i64 op_, .string key, .string val, .int .i64 a_, .int .i64 b_, .int .i64 fl_, .int .i64 sz_] :=
    ⟨World.objAt.below hr2 ((Below.refl _ _).alloc (Nat.le_refl _) _) (World.objAt.lt hr2), World.objAt.below ho2 ((Below.refl _ _).alloc (Nat.le_refl _) _) (World.objAt.lt ho2), objAt_alloc_new w2 _ _, hbel2.alloc hbel2.size _, hS, hX⟩
  have hkv3 := hkv.ints.below ((Below.refl w2.heap.size w2).alloc (Nat.le_refl _) (.cells #[.int .i64 kd_, .int .i64 op_, .string key, .string val, .int .i64 a_, .int .i64 b_, .int .i64 fl_, .int .i64 sz_] 25))
  obtain ⟨w3, hw3⟩ : ∃ w3, w2.alloc (.cells #[.int .i64 kd_, .int .i64 op_, .string key, .string val, .int .i64 a_, .int .i64 b_, .int .i64 fl_, .int .i64 sz_] 25) = w3 := ⟨_, rfl⟩
  obtain ⟨X, hX2⟩ : ∃ X, w2.heap.size = X := ⟨_, rfl⟩
  rw [hw3, hX2] at hsp
  rw [hw3] at hkv3
  have HSP := Lib.hid hsp
  have HKV := Lib.hid hkv3
  have HOWN := Lib.hid (show ∀ q, kv.ownBlock = some q → S0 + 2 ≤ q from fun q hq => by have := (World.ownsRow.lt hkv q hq).1; omega)
  have hkd2 : kdS l i = kd_ := hkd
  have HKD := Lib.hid (And.intro hkd2 (And.intro hval hks))
  have hrange := (hT.shape i hil).range
  rw [hkd2] at hrange
  rw [hkd2] at hcl
  clear hkv hbk hbel2 hS2 hc c hr2 ho2 hkd hop hkey hval ha_ hb_ hfl hsz_ hsp hkv3 hkd2 hks HKID H0 hsz1 hX hr1 ho1 hb1 hs1
  have k0 : w3.cell? ⟨X, 0, none⟩ = some (.int .i64 kd_) := World.objAt.cell HSP.out.node (i := 0) rfl
  have hk := hcl
  clear hcl
  obtain ⟨f, hf⟩ : ∃ f : Nat → Tri, f = fun j => S l (ks.getD j 0) := ⟨_, rfl⟩
  have hks3 : kidsS l i = ks := HKD.out.2.2
  have HS := Lib.hid (show S l i = psum f ks.length by
    rw [S_sum hT hil (by rw [HKD.out.1]; exact hk), hks3, hf]
    exact psum_all (S l) ks)
  have hkid : ∀ j, j < ks.length → ks.getD j 0 < len ∧ zs l (ks.getD j 0) ≤ n := fun j hj => by
    have := hT.kid hil (k := ks.getD j 0) (by rw [hks3]; exact getD_mem0 hj)
    exact ⟨by omega, by omega⟩
  have HKID := Lib.hid hkid
  have hb60 : ∀ j, j ≤ ks.length → tot (psum f j) ≤ 60 := fun j hj => by
    have h1 := psum_mono f j (ks.length - j)
    rw [show j + (ks.length - j) = ks.length by omega, ← HS.out] at h1
    have := S_60 hT hil
    omega
  have HB60 := Lib.hid hb60
  have hfk : ∀ j, f j = S l (ks.getD j 0) := fun j => by rw [hf]
  have HFK := Lib.hid hfk
  have hkl := hT.kidslen hil
  rw [hks3] at hkl
  have hval0 : kd_ = 21 → val = ⟨#[]⟩ := fun h21 => by
    rw [← HKD.out.2.1]
    exact hNP i hil (by rw [HKD.out.1]; exact h21)
  have HV := Lib.hid hval0
  clear hkid hb60 hfk hks3 hf hval0
  obtain ⟨ka, kcap, rfl, hk1, hk2, hrow⟩ := id HKV.out
  have HROW := Lib.hid hrow
  clear hrow
  have x1 : (kd_ == 1) = false := by simp; omega
  have x2 : (kd_ == 2) = false := by simp; omega
  have x4 : (kd_ == 4) = false := by simp; omega
  have hxx : ((kd_ == 21) = true ∧ (kd_ == 22) = false) ∨ ((kd_ == 21) = false ∧ (kd_ == 22) = true) := by rcases hk with rfl | rfl <;> simp
  have HK := Lib.hid hk
  clear hk
  rcases hxx with ⟨x21, x22⟩ | ⟨x21, x22⟩
  · go_wp2
    go_loopw [8] (fun i wr => ∃ k : Nat, k ≤ ks.length ∧ i = .int .i64 (k : Int) ∧ Hid (Sp3 w wr S0 X (psum f k) #[.int .i64 kd_, .int .i64 op_, .string key, .string val, .int .i64 a_, .int .i64 b_, .int .i64 fl_, .int .i64 sz_]) ∧ Hid (IntsOf wr (.slice ka ks.length kcap) ks)) (fun i _ => ks.length - (intOf i).toNat)
    case atStart => exact ⟨0, by omega, by go_num, HSP, HKV⟩
    case round =>
      obtain ⟨k, hk, rfl, hH, hI⟩ := hrel
      by_cases hlt : k < ks.length
      · obtain ⟨ka', kcap', hva, _, _, hrow2⟩ := hI.out
        obtain ⟨rfl, rfl⟩ : ka = ka' ∧ kcap = kcap' := by simpa using hva
        obtain ⟨g, o, rfl, hcell⟩ := hrow2.2.2 (by omega)
        have ck := hcell k (by simpa using hlt)
        rw [show (ks.map fun (n : Nat) => Value.int .i64 (n : Int)).getD k undef = .int .i64 ((ks.getD k 0 : Nat) : Int) by simp [List.getD_eq_getElem?_getD, hlt]] at ck
        obtain ⟨z, hz⟩ : ∃ z, ks.getD k 0 = z := ⟨_, rfl⟩
        rw [hz] at ck
        have hzz := HKID.out k hlt
        rw [hz] at hzz
        have hfz := HFK.out k
        rw [hz] at hfz
        have HCALL := Lib.hid (IH.out z wr hzz.1 hzz.2 (HSL.out.later hH.out.below (Nat.le_refl _)))
        have hp60 := HB60.out (k + 1) (by omega)
        rw [← hfz] at HCALL
        have HPS := Lib.hid (show psum f (k + 1) = triAdd (psum f k) (f k) from rfl)
        rw [HPS.out] at hp60
        obtain ⟨⟨p0, p1, p2⟩, hp⟩ : ∃ p, psum f k = p := ⟨_, rfl⟩
        obtain ⟨⟨y0, y1, y2⟩, hy⟩ : ∃ y, f k = y := ⟨_, rfl⟩
        rw [hp] at hH HPS
        rw [hp, hy] at hp60
        rw [hy] at HCALL HPS
        simp only [tot, triAdd] at hp60
        clear hp hy hz hfz hcell hrow2 hva hzz
        go_wp2_with fail
        refine HCALL.out.mono ?_
        rintro e w5 ⟨rfl, hb5⟩
        unfold triS
        have HH5 := Lib.hid (hH.out.later hb5.out)
        have HI5 := Lib.hid (hI.out.below hb5.out)
        clear HCALL hH hI hb5 ck
        have hy5 := objAt_alloc_new w5 #[.int .i64 (y0 : Int), .int .i64 (y1 : Int), .int .i64 (y2 : Int)] 28
        have HH6 := Lib.hid (HH5.out.alloc (.cells #[.int .i64 (y0 : Int), .int .i64 (y1 : Int), .int .i64 (y2 : Int)] 28))
        have HI6 := Lib.hid (HI5.out.below ((Below.refl _ _).alloc (Nat.le_refl _) (.cells #[.int .i64 (y0 : Int), .int .i64 (y1 : Int), .int .i64 (y2 : Int)] 28)))
        have hX5 := World.objAt.lt HH5.out.node
        obtain ⟨w6, hw6⟩ : ∃ w6, w5.alloc (.cells #[.int .i64 (y0 : Int), .int .i64 (y1 : Int), .int .i64 (y2 : Int)] 28) = w6 := ⟨_, rfl⟩
        obtain ⟨Y, hY⟩ : ∃ Y, w5.heap.size = Y := ⟨_, rfl⟩
        rw [hw6] at HH6 HI6
        rw [hw6, hY] at hy5
        rw [hY] at hX5
        have HY6 := Lib.hid hy5
        have hSX := HH6.out.lt
        clear hy5 HH5 HI5
        go_wp2
        have HI0 := Lib.hid (And.intro HH6.out (And.intro HI6.out HY6.out))
        clear HH6 HI6 HY6
        go_loopw [10] (fun j wi => (j = .int .i64 0 ∧ Hid (Sp3 w wi S0 X (p0, p1, p2) #[.int .i64 kd_, .int .i64 op_, .string key, .string val, .int .i64 a_, .int .i64 b_, .int .i64 fl_, .int .i64 sz_] ∧ IntsOf wi (.slice (some ⟨g, o, none⟩) ks.length kcap) ks ∧ World.objAt wi Y #[.int .i64 (y0 : Int), .int .i64 (y1 : Int), .int .i64 (y2 : Int)] 28)) ∨ (j = .int .i64 1 ∧ Hid (Sp3 w wi S0 X (p0 + y0, p1, p2) #[.int .i64 kd_, .int .i64 op_, .string key, .string val, .int .i64 a_, .int .i64 b_, .int .i64 fl_, .int .i64 sz_] ∧ IntsOf wi (.slice (some ⟨g, o, none⟩) ks.length kcap) ks ∧ World.objAt wi Y #[.int .i64 (y0 : Int), .int .i64 (y1 : Int), .int .i64 (y2 : Int)] 28)) ∨ (j = .int .i64 2 ∧ Hid (Sp3 w wi S0 X (p0 + y0, p1 + y1, p2) #[.int .i64 kd_, .int .i64 op_, .string key, .string val, .int .i64 a_, .int .i64 b_, .int .i64 fl_, .int .i64 sz_] ∧ IntsOf wi (.slice (some ⟨g, o, none⟩) ks.length kcap) ks ∧ World.objAt wi Y #[.int .i64 (y0 : Int), .int .i64 (y1 : Int), .int .i64 (y2 : Int)] 28)) ∨ (j = .int .i64 3 ∧ Hid (Sp3 w wi S0 X (p0 + y0, p1 + y1, p2 + y2) #[.int .i64 kd_, .int .i64 op_, .string key, .string val, .int .i64 a_, .int .i64 b_, .int .i64 fl_, .int .i64 sz_] ∧ IntsOf wi (.slice (some ⟨g, o, none⟩) ks.length kcap) ks ∧ World.objAt wi Y #[.int .i64 (y0 : Int), .int .i64 (y1 : Int), .int .i64 (y2 : Int)] 28))) (fun j _ => 3 - (intOf j).toNat)
        case atStart => exact .inl ⟨rfl, HI0⟩
        case round =>
          clear HI0
          rcases hrel with ⟨rfl, hI⟩ | ⟨rfl, hI⟩ | ⟨rfl, hI⟩ | ⟨rfl, hI⟩
          · have q0 : wr.cell? ⟨S0 + 1, 0, none⟩ = some (.int .i64 ((p0 : Nat) : Int)) := World.objAt.cell hI.out.1.out (i := 0) rfl
            have n0 : wr.frozen? ⟨S0 + 1, 0, none⟩ = false := World.objAt.free hI.out.1.out 0
            have y0c : wr.cell? ⟨Y, 0, none⟩ = some (.int .i64 (y0 : Int)) := World.objAt.cell hI.out.2.2 (i := 0) rfl
            go_wp2
            go_region
            obtain ⟨wn, hwn⟩ : ∃ wn, (wr.setCell ⟨S0 + 1, 0, none⟩ (.int .i64 ((p0 : Int) + (y0 : Int)))).drew = wn := ⟨_, rfl⟩
            have hN : Hid (Sp3 w wn S0 X (p0 + y0, p1, p2) #[.int .i64 kd_, .int .i64 op_, .string key, .string val, .int .i64 a_, .int .i64 b_, .int .i64 fl_, .int .i64 sz_] ∧ IntsOf wn (.slice (some ⟨g, o, none⟩) ks.length kcap) ks ∧ World.objAt wn Y #[.int .i64 (y0 : Int), .int .i64 (y1 : Int), .int .i64 (y2 : Int)] 28) := by
              rw [← hwn, show (p0 : Int) + (y0 : Int) = ((p0 + y0 : Nat) : Int) by omega]
              exact Lib.hid ⟨(hI.out.1.set (t' := (p0 + y0, p1, p2)) rfl).drew1, (hI.out.2.1.set ⟨S0 + 1, 0, none⟩ (by have := HOWN.out g rfl; show g ≠ S0 + 1; omega) _).drew1, objAt_offS hI.out.2.2 ⟨S0 + 1, 0, none⟩ (by show Y ≠ S0 + 1; omega) _⟩
            rw [hwn]
            clear hwn q0 n0 y0c hI
            go_wp2
            go_roundw
            case rel => exact .inr (.inl ⟨by go_num, hN⟩)
            case measure => simp [intOf]
          · have q1 : wr.cell? ⟨S0 + 1, 1, none⟩ = some (.int .i64 ((p1 : Nat) : Int)) := World.objAt.cell hI.out.1.out (i := 1) rfl
            have n1 : wr.frozen? ⟨S0 + 1, 1, none⟩ = false := World.objAt.free hI.out.1.out 1
            have y1c : wr.cell? ⟨Y, 1, none⟩ = some (.int .i64 (y1 : Int)) := World.objAt.cell hI.out.2.2 (i := 1) rfl
            go_wp2
            go_region
            obtain ⟨wn, hwn⟩ : ∃ wn, (wr.setCell ⟨S0 + 1, 1, none⟩ (.int .i64 ((p1 : Int) + (y1 : Int)))).drew = wn := ⟨_, rfl⟩
            have hN : Hid (Sp3 w wn S0 X (p0 + y0, p1 + y1, p2) #[.int .i64 kd_, .int .i64 op_, .string key, .string val, .int .i64 a_, .int .i64 b_, .int .i64 fl_, .int .i64 sz_] ∧ IntsOf wn (.slice (some ⟨g, o, none⟩) ks.length kcap) ks ∧ World.objAt wn Y #[.int .i64 (y0 : Int), .int .i64 (y1 : Int), .int .i64 (y2 : Int)] 28) := by
              rw [← hwn, show (p1 : Int) + (y1 : Int) = ((p1 + y1 : Nat) : Int) by omega]
              exact Lib.hid ⟨(hI.out.1.set (t' := (p0 + y0, p1 + y1, p2)) rfl).drew1, (hI.out.2.1.set ⟨S0 + 1, 1, none⟩ (by have := HOWN.out g rfl; show g ≠ S0 + 1; omega) _).drew1, objAt_offS hI.out.2.2 ⟨S0 + 1, 1, none⟩ (by show Y ≠ S0 + 1; omega) _⟩
            rw [hwn]
            clear hwn q1 n1 y1c hI
            go_wp2
            go_roundw
            case rel => exact .inr (.inr (.inl ⟨by go_num, hN⟩))
            case measure => simp [intOf]
          · have q2 : wr.cell? ⟨S0 + 1, 2, none⟩ = some (.int .i64 ((p2 : Nat) : Int)) := World.objAt.cell hI.out.1.out (i := 2) rfl
            have n2 : wr.frozen? ⟨S0 + 1, 2, none⟩ = false := World.objAt.free hI.out.1.out 2
            have y2c : wr.cell? ⟨Y, 2, none⟩ = some (.int .i64 (y2 : Int)) := World.objAt.cell hI.out.2.2 (i := 2) rfl
            go_wp2
            go_region
            obtain ⟨wn, hwn⟩ : ∃ wn, (wr.setCell ⟨S0 + 1, 2, none⟩ (.int .i64 ((p2 : Int) + (y2 : Int)))).drew = wn := ⟨_, rfl⟩
            have hN : Hid (Sp3 w wn S0 X (p0 + y0, p1 + y1, p2 + y2) #[.int .i64 kd_, .int .i64 op_, .string key, .string val, .int .i64 a_, .int .i64 b_, .int .i64 fl_, .int .i64 sz_] ∧ IntsOf wn (.slice (some ⟨g, o, none⟩) ks.length kcap) ks ∧ World.objAt wn Y #[.int .i64 (y0 : Int), .int .i64 (y1 : Int), .int .i64 (y2 : Int)] 28) := by
              rw [← hwn, show (p2 : Int) + (y2 : Int) = ((p2 + y2 : Nat) : Int) by omega]
              exact Lib.hid ⟨(hI.out.1.set (t' := (p0 + y0, p1 + y1, p2 + y2)) rfl).drew1, (hI.out.2.1.set ⟨S0 + 1, 2, none⟩ (by have := HOWN.out g rfl; show g ≠ S0 + 1; omega) _).drew1, objAt_offS hI.out.2.2 ⟨S0 + 1, 2, none⟩ (by show Y ≠ S0 + 1; omega) _⟩
            rw [hwn]
            clear hwn q2 n2 y2c hI
            go_wp2
            go_roundw
            case rel => exact .inr (.inr (.inr ⟨by go_num, hN⟩))
            case measure => simp [intOf]
          · go_wp2
            exact ⟨⟨k + 1, by omega, by go_num, Lib.hid (by rw [HPS.out]; exact hI.out.1), Lib.hid hI.out.2.1⟩, by simp [intOf]; omega⟩
      · obtain rfl : k = ks.length := by omega
        obtain rfl := HV.out (by simpa using x21)
        have kX0 : wr.cell? ⟨X, 0, none⟩ = some (.int .i64 kd_) := World.objAt.cell hH.out.node (i := 0) rfl
        have kX3 : wr.cell? ⟨X, 3, none⟩ = some (.string ⟨#[]⟩) := World.objAt.cell hH.out.node (i := 3) rfl
        have q0 : wr.cell? ⟨S0 + 1, 0, none⟩ = some (.int .i64 ((psum f ks.length).1 : Int)) := World.objAt.cell hH.out.out (i := 0) rfl
        have n0 : wr.frozen? ⟨S0 + 1, 0, none⟩ = false := World.objAt.free hH.out.out 0
        have q1 : wr.cell? ⟨S0 + 1, 1, none⟩ = some (.int .i64 ((psum f ks.length).2.1 : Int)) := World.objAt.cell hH.out.out (i := 1) rfl
        have n1 : wr.frozen? ⟨S0 + 1, 1, none⟩ = false := World.objAt.free hH.out.out 1
        have q2 : wr.cell? ⟨S0 + 1, 2, none⟩ = some (.int .i64 ((psum f ks.length).2.2 : Int)) := World.objAt.cell hH.out.out (i := 2) rfl
        have n2 : wr.frozen? ⟨S0 + 1, 2, none⟩ = false := World.objAt.free hH.out.out 2
        have r0 : wr.cell? ⟨S0, 0, none⟩ = some (.int .i64 0) := World.objAt.cell hH.out.res (i := 0) rfl
        have m0 : wr.frozen? ⟨S0, 0, none⟩ = false := World.objAt.free hH.out.res 0
        have r1 : wr.cell? ⟨S0, 1, none⟩ = some (.int .i64 0) := World.objAt.cell hH.out.res (i := 1) rfl
        have m1 : wr.frozen? ⟨S0, 1, none⟩ = false := World.objAt.free hH.out.res 1
        have r2 : wr.cell? ⟨S0, 2, none⟩ = some (.int .i64 0) := World.objAt.cell hH.out.res (i := 2) rfl
        have m2 : wr.frozen? ⟨S0, 2, none⟩ = false := World.objAt.free hH.out.res 2
        go_wp2
        refine bodyPost_ret (v := triS (psum f ks.length)) ?_ rfl ?_
        · rw [results_cell1 rfl]
          go_simp
          rfl
        · have hq2 := hH.out.at_
          refine ⟨by rw [HS.out], Lib.hid ?_⟩
          exact ((hH.out.below.setCell (p := ⟨S0, 0, none⟩) (by show _ ≤ S0; omega) _).setCell (p := ⟨S0, 1, none⟩) (by show _ ≤ S0; omega) _).setCell (p := ⟨S0, 2, none⟩) (by show _ ≤ S0; omega) _
  · go_wp2
    go_loopw [8] (fun i wr => ∃ k : Nat, k ≤ ks.length ∧ i = .int .i64 (k : Int) ∧ Hid (Sp3 w wr S0 X (psum f k) #[.int .i64 kd_, .int .i64 op_, .string key, .string val, .int .i64 a_, .int .i64 b_, .int .i64 fl_, .int .i64 sz_]) ∧ Hid (IntsOf wr (.slice ka ks.length kcap) ks)) (fun i _ => ks.length - (intOf i).toNat)
    case atStart => exact ⟨0, by omega, by go_num, HSP, HKV⟩
    case round =>
      obtain ⟨k, hk, rfl, hH, hI⟩ := hrel
      by_cases hlt : k < ks.length
      · obtain ⟨ka', kcap', hva, _, _, hrow2⟩ := hI.out
        obtain ⟨rfl, rfl⟩ : ka = ka' ∧ kcap = kcap' := by simpa using hva
        obtain ⟨g, o, rfl, hcell⟩ := hrow2.2.2 (by omega)
        have ck := hcell k (by simpa using hlt)
        rw [show (ks.map fun (n : Nat) => Value.int .i64 (n : Int)).getD k undef = .int .i64 ((ks.getD k 0 : Nat) : Int) by simp [List.getD_eq_getElem?_getD, hlt]] at ck
        obtain ⟨z, hz⟩ : ∃ z, ks.getD k 0 = z := ⟨_, rfl⟩
        rw [hz] at ck
        have hzz := HKID.out k hlt
        rw [hz] at hzz
        have hfz := HFK.out k
        rw [hz] at hfz
        have HCALL := Lib.hid (IH.out z wr hzz.1 hzz.2 (HSL.out.later hH.out.below (Nat.le_refl _)))
        have hp60 := HB60.out (k + 1) (by omega)
        rw [← hfz] at HCALL
        have HPS := Lib.hid (show psum f (k + 1) = triAdd (psum f k) (f k) from rfl)
        rw [HPS.out] at hp60
        obtain ⟨⟨p0, p1, p2⟩, hp⟩ : ∃ p, psum f k = p := ⟨_, rfl⟩
        obtain ⟨⟨y0, y1, y2⟩, hy⟩ : ∃ y, f k = y := ⟨_, rfl⟩
        rw [hp] at hH HPS
        rw [hp, hy] at hp60
        rw [hy] at HCALL HPS
        simp only [tot, triAdd] at hp60
        clear hp hy hz hfz hcell hrow2 hva hzz
        go_wp2_with fail
        refine HCALL.out.mono ?_
        rintro e w5 ⟨rfl, hb5⟩
        unfold triS
        have HH5 := Lib.hid (hH.out.later hb5.out)
        have HI5 := Lib.hid (hI.out.below hb5.out)
        clear HCALL hH hI hb5 ck
        have hy5 := objAt_alloc_new w5 #[.int .i64 (y0 : Int), .int .i64 (y1 : Int), .int .i64 (y2 : Int)] 28
        have HH6 := Lib.hid (HH5.out.alloc (.cells #[.int .i64 (y0 : Int), .int .i64 (y1 : Int), .int .i64 (y2 : Int)] 28))
        have HI6 := Lib.hid (HI5.out.below ((Below.refl _ _).alloc (Nat.le_refl _) (.cells #[.int .i64 (y0 : Int), .int .i64 (y1 : Int), .int .i64 (y2 : Int)] 28)))
        have hX5 := World.objAt.lt HH5.out.node
        obtain ⟨w6, hw6⟩ : ∃ w6, w5.alloc (.cells #[.int .i64 (y0 : Int), .int .i64 (y1 : Int), .int .i64 (y2 : Int)] 28) = w6 := ⟨_, rfl⟩
        obtain ⟨Y, hY⟩ : ∃ Y, w5.heap.size = Y := ⟨_, rfl⟩
        rw [hw6] at HH6 HI6
        rw [hw6, hY] at hy5
        rw [hY] at hX5
        have HY6 := Lib.hid hy5
        have hSX := HH6.out.lt
        clear hy5 HH5 HI5
        go_wp2
        have HI0 := Lib.hid (And.intro HH6.out (And.intro HI6.out HY6.out))
        clear HH6 HI6 HY6
        go_loopw [10] (fun j wi => (j = .int .i64 0 ∧ Hid (Sp3 w wi S0 X (p0, p1, p2) #[.int .i64 kd_, .int .i64 op_, .string key, .string val, .int .i64 a_, .int .i64 b_, .int .i64 fl_, .int .i64 sz_] ∧ IntsOf wi (.slice (some ⟨g, o, none⟩) ks.length kcap) ks ∧ World.objAt wi Y #[.int .i64 (y0 : Int), .int .i64 (y1 : Int), .int .i64 (y2 : Int)] 28)) ∨ (j = .int .i64 1 ∧ Hid (Sp3 w wi S0 X (p0 + y0, p1, p2) #[.int .i64 kd_, .int .i64 op_, .string key, .string val, .int .i64 a_, .int .i64 b_, .int .i64 fl_, .int .i64 sz_] ∧ IntsOf wi (.slice (some ⟨g, o, none⟩) ks.length kcap) ks ∧ World.objAt wi Y #[.int .i64 (y0 : Int), .int .i64 (y1 : Int), .int .i64 (y2 : Int)] 28)) ∨ (j = .int .i64 2 ∧ Hid (Sp3 w wi S0 X (p0 + y0, p1 + y1, p2) #[.int .i64 kd_, .int .i64 op_, .string key, .string val, .int .i64 a_, .int .i64 b_, .int .i64 fl_, .int .i64 sz_] ∧ IntsOf wi (.slice (some ⟨g, o, none⟩) ks.length kcap) ks ∧ World.objAt wi Y #[.int .i64 (y0 : Int), .int .i64 (y1 : Int), .int .i64 (y2 : Int)] 28)) ∨ (j = .int .i64 3 ∧ Hid (Sp3 w wi S0 X (p0 + y0, p1 + y1, p2 + y2) #[.int .i64 kd_, .int .i64 op_, .string key, .string val, .int .i64 a_, .int .i64 b_, .int .i64 fl_, .int .i64 sz_] ∧ IntsOf wi (.slice (some ⟨g, o, none⟩) ks.length kcap) ks ∧ World.objAt wi Y #[.int .i64 (y0 : Int), .int .i64 (y1 : Int), .int .i64 (y2 : Int)] 28))) (fun j _ => 3 - (intOf j).toNat)
        case atStart => exact .inl ⟨rfl, HI0⟩
        case round =>
          clear HI0
          rcases hrel with ⟨rfl, hI⟩ | ⟨rfl, hI⟩ | ⟨rfl, hI⟩ | ⟨rfl, hI⟩
          · have q0 : wr.cell? ⟨S0 + 1, 0, none⟩ = some (.int .i64 ((p0 : Nat) : Int)) := World.objAt.cell hI.out.1.out (i := 0) rfl
            have n0 : wr.frozen? ⟨S0 + 1, 0, none⟩ = false := World.objAt.free hI.out.1.out 0
            have y0c : wr.cell? ⟨Y, 0, none⟩ = some (.int .i64 (y0 : Int)) := World.objAt.cell hI.out.2.2 (i := 0) rfl
            go_wp2
            go_region
            obtain ⟨wn, hwn⟩ : ∃ wn, (wr.setCell ⟨S0 + 1, 0, none⟩ (.int .i64 ((p0 : Int) + (y0 : Int)))).drew = wn := ⟨_, rfl⟩
            have hN : Hid (Sp3 w wn S0 X (p0 + y0, p1, p2) #[.int .i64 kd_, .int .i64 op_, .string key, .string val, .int .i64 a_, .int .i64 b_, .int .i64 fl_, .int .i64 sz_] ∧ IntsOf wn (.slice (some ⟨g, o, none⟩) ks.length kcap) ks ∧ World.objAt wn Y #[.int .i64 (y0 : Int), .int .i64 (y1 : Int), .int .i64 (y2 : Int)] 28) := by
              rw [← hwn, show (p0 : Int) + (y0 : Int) = ((p0 + y0 : Nat) : Int) by omega]
              exact Lib.hid ⟨(hI.out.1.set (t' := (p0 + y0, p1, p2)) rfl).drew1, (hI.out.2.1.set ⟨S0 + 1, 0, none⟩ (by have := HOWN.out g rfl; show g ≠ S0 + 1; omega) _).drew1, objAt_offS hI.out.2.2 ⟨S0 + 1, 0, none⟩ (by show Y ≠ S0 + 1; omega) _⟩
            rw [hwn]
            clear hwn q0 n0 y0c hI
            go_wp2
            go_roundw
            case rel => exact .inr (.inl ⟨by go_num, hN⟩)
            case measure => simp [intOf]
          · have q1 : wr.cell? ⟨S0 + 1, 1, none⟩ = some (.int .i64 ((p1 : Nat) : Int)) := World.objAt.cell hI.out.1.out (i := 1) rfl
            have n1 : wr.frozen? ⟨S0 + 1, 1, none⟩ = false := World.objAt.free hI.out.1.out 1
            have y1c : wr.cell? ⟨Y, 1, none⟩ = some (.int .i64 (y1 : Int)) := World.objAt.cell hI.out.2.2 (i := 1) rfl
            go_wp2
            go_region
            obtain ⟨wn, hwn⟩ : ∃ wn, (wr.setCell ⟨S0 + 1, 1, none⟩ (.int .i64 ((p1 : Int) + (y1 : Int)))).drew = wn := ⟨_, rfl⟩
            have hN : Hid (Sp3 w wn S0 X (p0 + y0, p1 + y1, p2) #[.int .i64 kd_, .int .i64 op_, .string key, .string val, .int .i64 a_, .int .i64 b_, .int .i64 fl_, .int .i64 sz_] ∧ IntsOf wn (.slice (some ⟨g, o, none⟩) ks.length kcap) ks ∧ World.objAt wn Y #[.int .i64 (y0 : Int), .int .i64 (y1 : Int), .int .i64 (y2 : Int)] 28) := by
              rw [← hwn, show (p1 : Int) + (y1 : Int) = ((p1 + y1 : Nat) : Int) by omega]
              exact Lib.hid ⟨(hI.out.1.set (t' := (p0 + y0, p1 + y1, p2)) rfl).drew1, (hI.out.2.1.set ⟨S0 + 1, 1, none⟩ (by have := HOWN.out g rfl; show g ≠ S0 + 1; omega) _).drew1, objAt_offS hI.out.2.2 ⟨S0 + 1, 1, none⟩ (by show Y ≠ S0 + 1; omega) _⟩
            rw [hwn]
            clear hwn q1 n1 y1c hI
            go_wp2
            go_roundw
            case rel => exact .inr (.inr (.inl ⟨by go_num, hN⟩))
            case measure => simp [intOf]
          · have q2 : wr.cell? ⟨S0 + 1, 2, none⟩ = some (.int .i64 ((p2 : Nat) : Int)) := World.objAt.cell hI.out.1.out (i := 2) rfl
            have n2 : wr.frozen? ⟨S0 + 1, 2, none⟩ = false := World.objAt.free hI.out.1.out 2
            have y2c : wr.cell? ⟨Y, 2, none⟩ = some (.int .i64 (y2 : Int)) := World.objAt.cell hI.out.2.2 (i := 2) rfl
            go_wp2
            go_region
            obtain ⟨wn, hwn⟩ : ∃ wn, (wr.setCell ⟨S0 + 1, 2, none⟩ (.int .i64 ((p2 : Int) + (y2 : Int)))).drew = wn := ⟨_, rfl⟩
            have hN : Hid (Sp3 w wn S0 X (p0 + y0, p1 + y1, p2 + y2) #[.int .i64 kd_, .int .i64 op_, .string key, .string val, .int .i64 a_, .int .i64 b_, .int .i64 fl_, .int .i64 sz_] ∧ IntsOf wn (.slice (some ⟨g, o, none⟩) ks.length kcap) ks ∧ World.objAt wn Y #[.int .i64 (y0 : Int), .int .i64 (y1 : Int), .int .i64 (y2 : Int)] 28) := by
              rw [← hwn, show (p2 : Int) + (y2 : Int) = ((p2 + y2 : Nat) : Int) by omega]
              exact Lib.hid ⟨(hI.out.1.set (t' := (p0 + y0, p1 + y1, p2 + y2)) rfl).drew1, (hI.out.2.1.set ⟨S0 + 1, 2, none⟩ (by have := HOWN.out g rfl; show g ≠ S0 + 1; omega) _).drew1, objAt_offS hI.out.2.2 ⟨S0 + 1, 2, none⟩ (by show Y ≠ S0 + 1; omega) _⟩
            rw [hwn]
            clear hwn q2 n2 y2c hI
            go_wp2
            go_roundw
            case rel => exact .inr (.inr (.inr ⟨by go_num, hN⟩))
            case measure => simp [intOf]
          · go_wp2
            exact ⟨⟨k + 1, by omega, by go_num, Lib.hid (by rw [HPS.out]; exact hI.out.1), Lib.hid hI.out.2.1⟩, by simp [intOf]; omega⟩
      · obtain rfl : k = ks.length := by omega
        have kX0 : wr.cell? ⟨X, 0, none⟩ = some (.int .i64 kd_) := World.objAt.cell hH.out.node (i := 0) rfl
        have kX3 : wr.cell? ⟨X, 3, none⟩ = some (.string val) := World.objAt.cell hH.out.node (i := 3) rfl
        have q0 : wr.cell? ⟨S0 + 1, 0, none⟩ = some (.int .i64 ((psum f ks.length).1 : Int)) := World.objAt.cell hH.out.out (i := 0) rfl
        have n0 : wr.frozen? ⟨S0 + 1, 0, none⟩ = false := World.objAt.free hH.out.out 0
        have q1 : wr.cell? ⟨S0 + 1, 1, none⟩ = some (.int .i64 ((psum f ks.length).2.1 : Int)) := World.objAt.cell hH.out.out (i := 1) rfl
        have n1 : wr.frozen? ⟨S0 + 1, 1, none⟩ = false := World.objAt.free hH.out.out 1
        have q2 : wr.cell? ⟨S0 + 1, 2, none⟩ = some (.int .i64 ((psum f ks.length).2.2 : Int)) := World.objAt.cell hH.out.out (i := 2) rfl
        have n2 : wr.frozen? ⟨S0 + 1, 2, none⟩ = false := World.objAt.free hH.out.out 2
        have r0 : wr.cell? ⟨S0, 0, none⟩ = some (.int .i64 0) := World.objAt.cell hH.out.res (i := 0) rfl
        have m0 : wr.frozen? ⟨S0, 0, none⟩ = false := World.objAt.free hH.out.res 0
        have r1 : wr.cell? ⟨S0, 1, none⟩ = some (.int .i64 0) := World.objAt.cell hH.out.res (i := 1) rfl
        have m1 : wr.frozen? ⟨S0, 1, none⟩ = false := World.objAt.free hH.out.res 1
        have r2 : wr.cell? ⟨S0, 2, none⟩ = some (.int .i64 0) := World.objAt.cell hH.out.res (i := 2) rfl
        have m2 : wr.frozen? ⟨S0, 2, none⟩ = false := World.objAt.free hH.out.res 2
        go_wp2
        refine bodyPost_ret (v := triS (psum f ks.length)) ?_ rfl ?_
        · rw [results_cell1 rfl]
          go_simp
          rfl
        · have hq2 := hH.out.at_
          refine ⟨by rw [HS.out], Lib.hid ?_⟩
          exact ((hH.out.below.setCell (p := ⟨S0, 0, none⟩) (by show _ ≤ S0; omega) _).setCell (p := ⟨S0, 1, none⟩) (by show _ ≤ S0; omega) _).setCell (p := ⟨S0, 2, none⟩) (by show _ ≤ S0; omega) _
variable {l : List SelD}
set_option maxRecDepth 100000 in
set_option maxHeartbeats 8000000 in
theorem specS_max18 (hT : SelTree l) (hNP : NoPseudo l) (a : Option Addr) (len cap n : Nat) (ih : ∀ (i : Nat) (w : World), i < len → zs l i ≤ n → Sels w a len l → Calls Tryz.prog 17 #[.slice a len cap, .int .i64 (i : Int)] w (TriPost (S l i) w)) (i : Nat) (w : World) (hi : i < len) (hn : zs l i ≤ n + 1) (h : Sels w a len l) (hcl : kdS l i = 18 ∨ kdS l i = 19) :
  Calls Tryz.prog 17 #[.slice a len cap, .int .i64 (i : Int)] w (TriPost (S l i) w) := by
  have IH := Lib.hid ih
  have hl := h.len.1
  have hil : i < l.length := by omega
  have hlen60 : len ≤ 60 := by rw [← hl]; exact hT.small
  obtain ⟨hsz, hfit⟩ := hT.szs hl
  have h0 := objAt_alloc_new w #[.int .i64 0, .int .i64 0, .int .i64 0] 28
  have h1 := objAt_alloc_new (w.alloc (.cells #[.int .i64 0, .int .i64 0, .int .i64 0] 28)) #[.int .i64 0, .int .i64 0, .int .i64 0] 28
  have hb0 : Below w.heap.size w ((w.alloc (.cells #[.int .i64 0, .int .i64 0, .int .i64 0] 28)).alloc (.cells #[.int .i64 0, .int .i64 0, .int .i64 0] 28)) := ((Below.refl _ _).alloc (Nat.le_refl _) _).alloc (by simp) _
  have h0' := World.objAt.below h0 ((Below.refl _ _).alloc (Nat.le_refl _) (.cells #[.int .i64 0, .int .i64 0, .int .i64 0] 28)) (World.objAt.lt h0)
  obtain ⟨w0, hw0⟩ : ∃ w0, ((w.alloc (.cells #[.int .i64 0, .int .i64 0, .int .i64 0] 28)).alloc (.cells #[.int .i64 0, .int .i64 0, .int .i64 0] 28)) = w0 := ⟨_, rfl⟩
  rw [hw0] at h0' h1 hb0
  have hsz1 : (w.alloc (.cells #[.int .i64 0, .int .i64 0, .int .i64 0] 28)).heap.size = w.heap.size + 1 := by simp
  rw [hsz1] at h1
  obtain ⟨S0, hS⟩ : ∃ S0, w.heap.size = S0 := ⟨_, rfl⟩
  rw [hS] at h0' h1
  have hw0s : w0.heap.size = S0 + 1 + 1 := by rw [← hw0, ← hS]; simp
  have HSL := Lib.hid h
  have HKID := Lib.hid (fun w' (h' : Sels w' a len l) => selKids_any a len cap l i w' h' hsz hfit hi (by omega))
  have q0 : w0.cell? ⟨S0 + 1, 0, none⟩ = some (.int .i64 0) := World.objAt.cell h1 (i := 0) rfl
  have q1 : w0.cell? ⟨S0 + 1, 1, none⟩ = some (.int .i64 0) := World.objAt.cell h1 (i := 1) rfl
  have q2 : w0.cell? ⟨S0 + 1, 2, none⟩ = some (.int .i64 0) := World.objAt.cell h1 (i := 2) rfl
  have n0 : w0.frozen? ⟨S0 + 1, 0, none⟩ = false := World.objAt.free h1 0
  have n1 : w0.frozen? ⟨S0 + 1, 1, none⟩ = false := World.objAt.free h1 1
  have n2 : w0.frozen? ⟨S0 + 1, 2, none⟩ = false := World.objAt.free h1 2
  have H0 := Lib.hid (And.intro h0' (And.intro h1 hb0))
  have HSZ := Lib.hid (And.intro hsz hfit)
  clear h0 h0' h1 hb0 h hsz hfit
  go_enter Tryz.func17, Tryz.ntmps17
  go_wp2_with fail
  obtain ⟨w1, hw1⟩ : ∃ w1, (((w0.setCell ⟨S0 + 1, 0, none⟩ (.int .i64 0)).setCell ⟨S0 + 1, 1, none⟩ (.int .i64 0)).setCell ⟨S0 + 1, 2, none⟩ (.int .i64 0)) = w1 := ⟨_, rfl⟩
  have hr1 : World.objAt w1 S0 #[.int .i64 0, .int .i64 0, .int .i64 0] 28 := by
    rw [← hw1]
    exact objAt_offS (objAt_offS (objAt_offS H0.out.1 ⟨S0 + 1, 0, none⟩ (by show S0 ≠ S0 + 1; omega) _) ⟨S0 + 1, 1, none⟩ (by show S0 ≠ S0 + 1; omega) _) ⟨S0 + 1, 2, none⟩ (by show S0 ≠ S0 + 1; omega) _
  have ho1 : World.objAt w1 (S0 + 1) #[.int .i64 0, .int .i64 0, .int .i64 0] 28 := by
    rw [← hw1]
    exact World.objAt.set (World.objAt.set (World.objAt.set H0.out.2.1 0 _) 1 _) 2 _
  have hb1 : Below w.heap.size w w1 := by
    rw [← hw1]
    exact ((H0.out.2.2.setCell (p := ⟨S0 + 1, 0, none⟩) (by show _ ≤ S0 + 1; omega) _).setCell (p := ⟨S0 + 1, 1, none⟩) (by show _ ≤ S0 + 1; omega) _).setCell (p := ⟨S0 + 1, 2, none⟩) (by show _ ≤ S0 + 1; omega) _
  rw [hw1]
  have hs1 : S0 + 1 < w1.heap.size := World.objAt.lt ho1
  clear q0 q1 q2 n0 n1 n2 hw1
  refine (HKID.out w1 (HSL.out.later hb1 (Nat.le_refl _))).mono ?_
  rintro e w2 ⟨kv, rfl, hkv, hbk⟩
  obtain ⟨ks, hks⟩ : ∃ ks, kids (zs l) i = ks := ⟨_, rfl⟩
  rw [hks] at hkv
  have hbel2 := hb1.trans (hbk.mono hb1.size)
  have hS2 := HSL.out.later hbel2 (Nat.le_refl _)
  obtain ⟨b, off, rfl, hc⟩ := hS2.at (by omega)
  have c := hc i hi
  have c0 := c.kind
  have c1 := c.op
  have c2 := c.key
  have c3 := c.val
  have c4 := c.a
  have c5 := c.b
  have c6 := c.flag
  have c7 := c.size
  have hr2 := World.objAt.below hr1 hbk (World.objAt.lt hr1)
  have ho2 := World.objAt.below ho1 hbk (World.objAt.lt ho1)
  obtain ⟨kd_, hkd⟩ : ∃ kd_, (l.getD i default).kind = kd_ := ⟨_, rfl⟩
  obtain ⟨op_, hop⟩ : ∃ op_, (l.getD i default).op = op_ := ⟨_, rfl⟩
  obtain ⟨key, hkey⟩ : ∃ key, (l.getD i default).key = key := ⟨_, rfl⟩
  obtain ⟨val, hval⟩ : ∃ val, (l.getD i default).val = val := ⟨_, rfl⟩
  obtain ⟨a_, ha_⟩ : ∃ a_, (l.getD i default).a = a_ := ⟨_, rfl⟩
  obtain ⟨b_, hb_⟩ : ∃ b_, (l.getD i default).b = b_ := ⟨_, rfl⟩
  obtain ⟨fl_, hfl⟩ : ∃ fl_, (l.getD i default).flag = fl_ := ⟨_, rfl⟩
  obtain ⟨sz_, hsz_⟩ : ∃ sz_, (l.getD i default).size = sz_ := ⟨_, rfl⟩
  rw [hkd] at c0
  rw [hop] at c1
  rw [hkey] at c2
  rw [hval] at c3
  rw [ha_] at c4
  rw [hb_] at c5
  rw [hfl] at c6
  rw [hsz_] at c7
  have hX : S0 + 1 < w2.heap.size := by have := hbk.size; omega
  have hsp : Sp3 w (w2.alloc (.cells #[.int .i64 kd_, .int .i64 op_, .string key, .string val, .int .i64 a_, .int .i64 b_, .int .i64 fl_, .int .i64 sz_] 25)) S0 w2.heap.size (0, 0, 0) #[.int .i64 kd_, .int .i64 op_, .string key, .string val, .int .i64 a_, .int .i64 b_, .int .i64 fl_, .int .i64 sz_] :=
    ⟨World.objAt.below hr2 ((Below.refl _ _).alloc (Nat.le_refl _) _) (World.objAt.lt hr2), World.objAt.below ho2 ((Below.refl _ _).alloc (Nat.le_refl _) _) (World.objAt.lt ho2), objAt_alloc_new w2 _ _, hbel2.alloc hbel2.size _, hS, hX⟩
  have hkv3 := hkv.ints.below ((Below.refl w2.heap.size w2).alloc (Nat.le_refl _) (.cells #[.int .i64 kd_, .int .i64 op_, .string key, .string val, .int .i64 a_, .int .i64 b_, .int .i64 fl_, .int .i64 sz_] 25))
  obtain ⟨w3, hw3⟩ : ∃ w3, w2.alloc (.cells #[.int .i64 kd_, .int .i64 op_, .string key, .string val, .int .i64 a_, .int .i64 b_, .int .i64 fl_, .int .i64 sz_] 25) = w3 := ⟨_, rfl⟩
  obtain ⟨X, hX2⟩ : ∃ X, w2.heap.size = X := ⟨_, rfl⟩
  rw [hw3, hX2] at hsp
  rw [hw3] at hkv3
  have HSP := Lib.hid hsp
  have HKV := Lib.hid hkv3
  have HOWN := Lib.hid (show ∀ q, kv.ownBlock = some q → S0 + 2 ≤ q from fun q hq => by have := (World.ownsRow.lt hkv q hq).1; omega)
  have hkd2 : kdS l i = kd_ := hkd
  have HKD := Lib.hid (And.intro hkd2 (And.intro hval hks))
  have hrange := (hT.shape i hil).range
  rw [hkd2] at hrange
  rw [hkd2] at hcl
  clear hkv hbk hbel2 hS2 hc c hr2 ho2 hkd hop hkey hval ha_ hb_ hfl hsz_ hsp hkv3 hkd2 hks HKID H0 hsz1 hX hr1 ho1 hb1 hs1
  have k0 : w3.cell? ⟨X, 0, none⟩ = some (.int .i64 kd_) := World.objAt.cell HSP.out.node (i := 0) rfl
  have hk := hcl
  clear hcl
  obtain ⟨f, hf⟩ : ∃ f : Nat → Tri, f = fun j => S l (ks.getD j 0) := ⟨_, rfl⟩
  have hks3 : kidsS l i = ks := HKD.out.2.2
  have HS := Lib.hid (show S l i = pmax f ks.length by
    rw [S_max hT hil (by rw [HKD.out.1]; omega), hks3, hf]
    exact pmax_all (S l) ks)
  have hkid : ∀ j, j < ks.length → ks.getD j 0 < len ∧ zs l (ks.getD j 0) ≤ n := fun j hj => by
    have := hT.kid hil (k := ks.getD j 0) (by rw [hks3]; exact getD_mem0 hj)
    exact ⟨by omega, by omega⟩
  have HKID := Lib.hid hkid
  have hfk : ∀ j, f j = S l (ks.getD j 0) := fun j => by rw [hf]
  have HFK := Lib.hid hfk
  have hkl := hT.kidslen hil
  rw [hks3] at hkl
  clear hkid hfk hks3 hf
  obtain ⟨ka, kcap, rfl, hk1, hk2, hrow⟩ := id HKV.out
  clear hrow
  have x1 : (kd_ == 1) = false := by simp; omega
  have x2 : (kd_ == 2) = false := by simp; omega
  have x4 : (kd_ == 4) = false := by simp; omega
  have x21 : (kd_ == 21) = false := by simp; omega
  have x22 : (kd_ == 22) = false := by simp; omega
  rcases hk with hk | hk
  all_goals
    first | (have x18 : (kd_ == 18) = true := by rw [hk]; rfl) | (have x18 : (kd_ == 18) = false := by rw [hk]; rfl)
    first | (have x19 : (kd_ == 19) = true := by rw [hk]; rfl) | (have x19 : (kd_ == 19) = false := by rw [hk]; rfl)
    first | (have x20 : (kd_ == 20) = true := by rw [hk]; rfl) | (have x20 : (kd_ == 20) = false := by rw [hk]; rfl)
    first | (have x23 : (kd_ == 23) = true := by rw [hk]; rfl) | (have x23 : (kd_ == 23) = false := by rw [hk]; rfl)
    clear hk
    go_wp2
    go_loopw [11] (fun i wr => ∃ k : Nat, k ≤ ks.length ∧ i = .int .i64 (k : Int) ∧ Hid (Sp3 w wr S0 X (pmax f k) #[.int .i64 kd_, .int .i64 op_, .string key, .string val, .int .i64 a_, .int .i64 b_, .int .i64 fl_, .int .i64 sz_]) ∧ Hid (IntsOf wr (.slice ka ks.length kcap) ks)) (fun i _ => ks.length - (intOf i).toNat)
    case atStart => exact ⟨0, by omega, by go_num, HSP, HKV⟩
    case round =>
      obtain ⟨k, hk, rfl, hH, hI⟩ := hrel
      by_cases hlt : k < ks.length
      · obtain ⟨ka', kcap', hva, _, _, hrow2⟩ := hI.out
        obtain ⟨rfl, rfl⟩ : ka = ka' ∧ kcap = kcap' := by simpa using hva
        obtain ⟨g, o, rfl, hcell⟩ := hrow2.2.2 (by omega)
        have ck := hcell k (by simpa using hlt)
        rw [show (ks.map fun (n : Nat) => Value.int .i64 (n : Int)).getD k undef = .int .i64 ((ks.getD k 0 : Nat) : Int) by simp [List.getD_eq_getElem?_getD, hlt]] at ck
        obtain ⟨z, hz⟩ : ∃ z, ks.getD k 0 = z := ⟨_, rfl⟩
        rw [hz] at ck
        have hzz := HKID.out k hlt
        rw [hz] at hzz
        have hfz := HFK.out k
        rw [hz] at hfz
        have HCALL := Lib.hid (IH.out z wr hzz.1 hzz.2 (HSL.out.later hH.out.below (Nat.le_refl _)))
        rw [← hfz] at HCALL
        have HPS := Lib.hid (show pmax f (k + 1) = triMax (pmax f k) (f k) from rfl)
        obtain ⟨p, hp⟩ : ∃ p, pmax f k = p := ⟨_, rfl⟩
        obtain ⟨y, hy⟩ : ∃ y, f k = y := ⟨_, rfl⟩
        rw [hp] at hH HPS
        rw [hy] at HCALL HPS
        clear hp hy hz hfz hcell hrow2 hva hzz
        go_wp2_with fail
        refine HCALL.out.mono ?_
        rintro e w5 ⟨rfl, hb5⟩
        have HH5 := Lib.hid (hH.out.later hb5.out)
        have HI5 := Lib.hid (hI.out.below hb5.out)
        have HLE := Lib.hid (fun w' => lessS_any p y w')
        obtain ⟨bl, hbl⟩ : ∃ bl, triLess p y = bl := ⟨_, rfl⟩
        rw [hbl] at HLE
        have HBL := Lib.hid hbl
        obtain ⟨p0, p1, p2⟩ := p
        obtain ⟨y0, y1, y2⟩ := y
        unfold triS at HLE ⊢
        clear HCALL hH hI hb5 ck hbl
        have hy5 := objAt_alloc_new w5 #[.int .i64 (y0 : Int), .int .i64 (y1 : Int), .int .i64 (y2 : Int)] 28
        have HH6 := Lib.hid (HH5.out.alloc (.cells #[.int .i64 (y0 : Int), .int .i64 (y1 : Int), .int .i64 (y2 : Int)] 28))
        have HI6 := Lib.hid (HI5.out.below ((Below.refl _ _).alloc (Nat.le_refl _) (.cells #[.int .i64 (y0 : Int), .int .i64 (y1 : Int), .int .i64 (y2 : Int)] 28)))
        have hX5 := World.objAt.lt HH5.out.node
        obtain ⟨w6, hw6⟩ : ∃ w6, w5.alloc (.cells #[.int .i64 (y0 : Int), .int .i64 (y1 : Int), .int .i64 (y2 : Int)] 28) = w6 := ⟨_, rfl⟩
        obtain ⟨Y, hY⟩ : ∃ Y, w5.heap.size = Y := ⟨_, rfl⟩
        rw [hw6] at HH6 HI6
        rw [hw6, hY] at hy5
        rw [hY] at hX5
        have HY6 := Lib.hid hy5
        have hSX := HH6.out.lt
        clear hy5 HH5 HI5
        have q0 : w6.cell? ⟨S0 + 1, 0, none⟩ = some (.int .i64 (p0 : Int)) := World.objAt.cell HH6.out.out (i := 0) rfl
        have q1 : w6.cell? ⟨S0 + 1, 1, none⟩ = some (.int .i64 (p1 : Int)) := World.objAt.cell HH6.out.out (i := 1) rfl
        have q2 : w6.cell? ⟨S0 + 1, 2, none⟩ = some (.int .i64 (p2 : Int)) := World.objAt.cell HH6.out.out (i := 2) rfl
        have v0 : w6.cell? ⟨Y, 0, none⟩ = some (.int .i64 (y0 : Int)) := World.objAt.cell HY6.out (i := 0) rfl
        have v1 : w6.cell? ⟨Y, 1, none⟩ = some (.int .i64 (y1 : Int)) := World.objAt.cell HY6.out (i := 1) rfl
        have v2 : w6.cell? ⟨Y, 2, none⟩ = some (.int .i64 (y2 : Int)) := World.objAt.cell HY6.out (i := 2) rfl
        go_wp2_with fail
        refine (HLE.out w6).mono ?_
        rintro e w7 ⟨rfl, hb7⟩
        have HH7 := Lib.hid (HH6.out.later hb7.out)
        have HI7 := Lib.hid (HI6.out.below hb7.out)
        have HY7 := Lib.hid (World.objAt.below HY6.out hb7.out (World.objAt.lt HY6.out))
        clear HH6 HI6 HY6 HLE hb7 q0 q1 q2 v0 v1 v2
        have v0 : w7.cell? ⟨Y, 0, none⟩ = some (.int .i64 (y0 : Int)) := World.objAt.cell HY7.out (i := 0) rfl
        have v1 : w7.cell? ⟨Y, 1, none⟩ = some (.int .i64 (y1 : Int)) := World.objAt.cell HY7.out (i := 1) rfl
        have v2 : w7.cell? ⟨Y, 2, none⟩ = some (.int .i64 (y2 : Int)) := World.objAt.cell HY7.out (i := 2) rfl
        have q0 : w7.cell? ⟨S0 + 1, 0, none⟩ = some (.int .i64 (p0 : Int)) := World.objAt.cell HH7.out.out (i := 0) rfl
        have q1 : w7.cell? ⟨S0 + 1, 1, none⟩ = some (.int .i64 (p1 : Int)) := World.objAt.cell HH7.out.out (i := 1) rfl
        have q2 : w7.cell? ⟨S0 + 1, 2, none⟩ = some (.int .i64 (p2 : Int)) := World.objAt.cell HH7.out.out (i := 2) rfl
        have n0 : w7.frozen? ⟨S0 + 1, 0, none⟩ = false := World.objAt.free HH7.out.out 0
        have n1 : w7.frozen? ⟨S0 + 1, 1, none⟩ = false := World.objAt.free HH7.out.out 1
        have n2 : w7.frozen? ⟨S0 + 1, 2, none⟩ = false := World.objAt.free HH7.out.out 2
        cases bl
        · go_wp2
          go_roundw
          case rel => exact ⟨k + 1, by omega, by go_num, Lib.hid (by rw [HPS.out]; unfold triMax; rw [HBL.out]; exact HH7.out), HI7⟩
          case measure => simp [intOf]; omega
        · go_wp2
          go_roundw
          case rel =>
            refine ⟨k + 1, by omega, by go_num, Lib.hid ?_, Lib.hid (((HI7.out.set ⟨S0 + 1, 0, none⟩ (by have := HOWN.out g rfl; show g ≠ S0 + 1; omega) _).set ⟨S0 + 1, 1, none⟩ (by have := HOWN.out g rfl; show g ≠ S0 + 1; omega) _).set ⟨S0 + 1, 2, none⟩ (by have := HOWN.out g rfl; show g ≠ S0 + 1; omega) _)⟩
            rw [HPS.out]
            unfold triMax
            rw [HBL.out]
            exact ((HH7.out.set (i := 0) (v := .int .i64 (y0 : Int)) (t' := (y0, p1, p2)) rfl).set (i := 1) (v := .int .i64 (y1 : Int)) (t' := (y0, y1, p2)) rfl).set (i := 2) (v := .int .i64 (y2 : Int)) (t' := (y0, y1, y2)) rfl
          case measure => simp [intOf]; omega
      · obtain rfl : k = ks.length := by omega
        have q0 : wr.cell? ⟨S0 + 1, 0, none⟩ = some (.int .i64 ((pmax f ks.length).1 : Int)) := World.objAt.cell hH.out.out (i := 0) rfl
        have n0 : wr.frozen? ⟨S0 + 1, 0, none⟩ = false := World.objAt.free hH.out.out 0
        have q1 : wr.cell? ⟨S0 + 1, 1, none⟩ = some (.int .i64 ((pmax f ks.length).2.1 : Int)) := World.objAt.cell hH.out.out (i := 1) rfl
        have n1 : wr.frozen? ⟨S0 + 1, 1, none⟩ = false := World.objAt.free hH.out.out 1
        have q2 : wr.cell? ⟨S0 + 1, 2, none⟩ = some (.int .i64 ((pmax f ks.length).2.2 : Int)) := World.objAt.cell hH.out.out (i := 2) rfl
        have n2 : wr.frozen? ⟨S0 + 1, 2, none⟩ = false := World.objAt.free hH.out.out 2
        have r0 : wr.cell? ⟨S0, 0, none⟩ = some (.int .i64 0) := World.objAt.cell hH.out.res (i := 0) rfl
        have m0 : wr.frozen? ⟨S0, 0, none⟩ = false := World.objAt.free hH.out.res 0
        have r1 : wr.cell? ⟨S0, 1, none⟩ = some (.int .i64 0) := World.objAt.cell hH.out.res (i := 1) rfl
        have m1 : wr.frozen? ⟨S0, 1, none⟩ = false := World.objAt.free hH.out.res 1
        have r2 : wr.cell? ⟨S0, 2, none⟩ = some (.int .i64 0) := World.objAt.cell hH.out.res (i := 2) rfl
        have m2 : wr.frozen? ⟨S0, 2, none⟩ = false := World.objAt.free hH.out.res 2
        go_wp2
        refine bodyPost_ret (v := triS (pmax f ks.length)) ?_ rfl ?_
        · rw [results_cell1 rfl]
          go_simp
          rfl
        · have hq2 := hH.out.at_
          refine ⟨by rw [HS.out], Lib.hid ?_⟩
          exact ((hH.out.below.setCell (p := ⟨S0, 0, none⟩) (by show _ ≤ S0; omega) _).setCell (p := ⟨S0, 1, none⟩) (by show _ ≤ S0; omega) _).setCell (p := ⟨S0, 2, none⟩) (by show _ ≤ S0; omega) _
end Go.Proofs.YtoanofdomhnafaaGreatDoor
