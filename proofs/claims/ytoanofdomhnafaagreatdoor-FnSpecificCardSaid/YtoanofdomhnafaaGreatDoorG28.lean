/- Parts of a proof: SpecS0, WriteCmp. -/
import Derived.Test.YtoanofdomhnafaaGreatDoorG04
import Derived.Test.YtoanofdomhnafaaGreatDoorG06
import Derived.Test.YtoanofdomhnafaaGreatDoorG27
import Derived.Test.YtoanofdomhnafaaGreatDoorG00
set_option linter.unusedVariables false
set_option linter.unusedSimpArgs false
namespace Go.Proofs.YtoanofdomhnafaaGreatDoor
open Go.RowKit
variable {l : List SelD}
theorem SelTree.szs (hT : SelTree l) {len : Nat} (hl : l.length = len) : (∀ j, j < len → SzS l j) ∧ ∀ j, j < len → j + zs l j ≤ len := by
  subst hl
  refine ⟨fun j hj => ⟨hT.nest.pos j hj, ?_, fun k h1 h2 => hT.nest.lam j k hj h1 h2⟩, fun j hj => hT.nest.fit j hj⟩
  have := hT.nest.pos j hj
  unfold zs at this ⊢
  omega
def TriPost (t : Tri) (w : World) (e : Ending) (w' : World) : Prop := e = .returned (triS t) ∧ Hid (Below w.heap.size w w')
theorem objAt_offS {w : World} {b : Nat} {cs : Array Value} {t : TypeId} (h : World.objAt w b cs t) (p : Addr) (hp : b ≠ p.block) (v : Value) : World.objAt (w.setCell p v) b cs t := by
  unfold World.objAt at h ⊢
  rw [Below.heap_setCell _ _ _ _ hp]
  exact h
/-- The call's boxes: its result, its sum, its node. -/
structure Sp3 (w wr : World) (S X : Nat) (t : Tri) (xv : Array Value) : Prop where
  res : World.objAt wr S #[.int .i64 0, .int .i64 0, .int .i64 0] 28
  out : World.objAt wr (S + 1) #[.int .i64 ((t).1 : Int), .int .i64 ((t).2.1 : Int), .int .i64 ((t).2.2 : Int)] 28
  node : World.objAt wr X xv 25
  below : Below w.heap.size w wr
  at_ : w.heap.size = S
  lt : S + 1 < X
section
variable {w wr w' : World} {S X : Nat} {t : Tri} {xv : Array Value}
theorem Sp3.later (h : Sp3 w wr S X t xv) (hb : Below wr.heap.size wr w') : Sp3 w w' S X t xv :=
  ⟨World.objAt.below h.res hb (World.objAt.lt h.res), World.objAt.below h.out hb (World.objAt.lt h.out), World.objAt.below h.node hb (World.objAt.lt h.node), h.below.trans (hb.mono h.below.size), h.at_, h.lt⟩
theorem Sp3.alloc (h : Sp3 w wr S X t xv) (o : Obj) : Sp3 w (wr.alloc o) S X t xv := h.later ((Below.refl _ _).alloc (Nat.le_refl _) o)
theorem Sp3.drew (h : Sp3 w wr S X t xv) (q : Nat) : Sp3 w (wr.drewN q) S X t xv := h.later (below_drewN (Below.refl _ _) q)
theorem Sp3.set {i : Nat} {v : Value} {t' : Tri} (h : Sp3 w wr S X t xv) (ht : (#[.int .i64 ((t).1 : Int), .int .i64 ((t).2.1 : Int), .int .i64 ((t).2.2 : Int)] : Array Value).setIfInBounds i v = #[.int .i64 ((t').1 : Int), .int .i64 ((t').2.1 : Int), .int .i64 ((t').2.2 : Int)]) : Sp3 w (wr.setCell ⟨S + 1, i, none⟩ v) S X t' xv := by
  have h1 := World.objAt.set h.out i v
  rw [ht] at h1
  have hat := h.at_
  have hlt := h.lt
  exact ⟨objAt_offS h.res ⟨S + 1, i, none⟩ (by show S ≠ S + 1; omega) v, h1, objAt_offS h.node ⟨S + 1, i, none⟩ (by show X ≠ S + 1; omega) v, h.below.setCell (p := ⟨S + 1, i, none⟩) (by show _ ≤ S + 1; omega) v, hat, hlt⟩
theorem Sp3.drew1 (h : Sp3 w wr S X t xv) : Sp3 w wr.drew S X t xv := h.later ((Below.refl _ _).drew)
end
theorem IntsOf.set {w : World} {g o n c : Nat} {ks : List Nat} (h : IntsOf w (.slice (some ⟨g, o, none⟩) n c) ks) (p : Addr) (hp : g ≠ p.block) (v : Value) : IntsOf (w.setCell p v) (.slice (some ⟨g, o, none⟩) n c) ks := by
  obtain ⟨a, cap, h1, h2, h3, h4, h5, h6⟩ := h
  refine ⟨a, cap, h1, h2, h3, h4, h5, fun hl => ?_⟩
  obtain ⟨b, off, rfl, hc⟩ := h6 hl
  have hb : g = b := by simp at h1; exact h1.1.1
  subst hb
  exact ⟨g, off, rfl, fun i hi => (World.cell?_of_block (w := w) (a := ⟨g, off + i, none⟩) (Below.heap_setCell _ _ _ _ hp)).trans (hc i hi)⟩
theorem IntsOf.drew1 {w : World} {v : Value} {ks : List Nat} (h : IntsOf w v ks) : IntsOf w.drew v ks := h.below ((Below.refl _ _).drew)
set_option maxRecDepth 100000 in
set_option maxHeartbeats 8000000 in
theorem specS_k1 (hT : SelTree l) (hNP : NoPseudo l) (a : Option Addr) (len cap n : Nat) (ih : ∀ (i : Nat) (w : World), i < len → zs l i ≤ n → Sels w a len l → Calls Tryz.prog 17 #[.slice a len cap, .int .i64 (i : Int)] w (TriPost (S l i) w)) (i : Nat) (w : World) (hi : i < len) (hn : zs l i ≤ n + 1) (h : Sels w a len l) (hcl : kdS l i = 1) :
  Calls Tryz.prog 17 #[.slice a len cap, .int .i64 (i : Int)] w (TriPost (S l i) w) := by
  have IH := Lib.hid ih
  have hl := h.len.1
  have hil : i < l.length := by omega
  have hlen60 : len ≤ 60 := by rw [← hl]; exact hT.small
  obtain ⟨hsz, hfit⟩ := hT.szs hl
  have h0 := objAt_alloc_new w #[.int .i64 0, .int .i64 0, .int .i64 0] 28
  have h1 := objAt_alloc_new (w.alloc (.cells #[.int .i64 0, .int .i64 0, .int .i64 0] 28)) #[.int .i64 0, .int .i64 0, .int .i64 0] 28
  have hb0 : Below w.heap.size w ((w.alloc (.cells #[.int .i64 0, .int .i64 0, .int .i64 0] 28)).alloc (.cells #[.int .i64 0, .int .i64 0, .int .i64 0] 28)) := ((Below.refl _ _).alloc (Nat.le_refl _) _).alloc (by simp) _
  have h0' := World.objAt.below h0 ((Below.refl _ _).alloc (Nat.le_refl _) (.cells #[.int .i64 0, .int .i64 0, .int .i64 0] 28)) (World.objAt.lt h0)
  obtain ⟨w0, hw0⟩ : ∃ w0, ((w.alloc (.cells #[.int .i64 0, .int .i64 0, .int .i64 0] 28)).alloc (.cells #[.int .i64 0, .int .i64 0, .int .i64 0] 28)) = w0 := ⟨_, rfl⟩
  rw [hw0] at h0' h1 hb0
  have hsz1 : (w.alloc (.cells #[.int .i64 0, .int .i64 0, .int .i64 0] 28)).heap.size = w.heap.size + 1 := by simp
  rw [hsz1] at h1
  obtain ⟨S0, hS⟩ : ∃ S0, w.heap.size = S0 := ⟨_, rfl⟩
  rw [hS] at h0' h1
  have hw0s : w0.heap.size = S0 + 1 + 1 := by rw [← hw0, ← hS]; simp
  have HSL := Lib.hid h
  have HKID := Lib.hid (fun w' (h' : Sels w' a len l) => selKids_any a len cap l i w' h' hsz hfit hi (by omega))
  have q0 : w0.cell? ⟨S0 + 1, 0, none⟩ = some (.int .i64 0) := World.objAt.cell h1 (i := 0) rfl
  have q1 : w0.cell? ⟨S0 + 1, 1, none⟩ = some (.int .i64 0) := World.objAt.cell h1 (i := 1) rfl
  have q2 : w0.cell? ⟨S0 + 1, 2, none⟩ = some (.int .i64 0) := World.objAt.cell h1 (i := 2) rfl
  have n0 : w0.frozen? ⟨S0 + 1, 0, none⟩ = false := World.objAt.free h1 0
  have n1 : w0.frozen? ⟨S0 + 1, 1, none⟩ = false := World.objAt.free h1 1
  have n2 : w0.frozen? ⟨S0 + 1, 2, none⟩ = false := World.objAt.free h1 2
  have H0 := Lib.hid (And.intro h0' (And.intro h1 hb0))
  have HSZ := Lib.hid (And.intro hsz hfit)
  clear h0 h0' h1 hb0 h hsz hfit
  go_enter Tryz.func17, Tryz.ntmps17
  go_wp2_with fail
  obtain ⟨w1, hw1⟩ : ∃ w1, (((w0.setCell ⟨S0 + 1, 0, none⟩ (.int .i64 0)).setCell ⟨S0 + 1, 1, none⟩ (.int .i64 0)).setCell ⟨S0 + 1, 2, none⟩ (.int .i64 0)) = w1 := ⟨_, rfl⟩
  have hr1 : World.objAt w1 S0 #[.int .i64 0, .int .i64 0, .int .i64 0] 28 := by
    rw [← hw1]
    exact objAt_offS (objAt_offS (objAt_offS H0.out.1 ⟨S0 + 1, 0, none⟩ (by show S0 ≠ S0 + 1; omega) _) ⟨S0 + 1, 1, none⟩ (by show S0 ≠ S0 + 1; omega) _) ⟨S0 + 1, 2, none⟩ (by show S0 ≠ S0 + 1; omega) _
  have ho1 : World.objAt w1 (S0 + 1) #[.int .i64 0, .int .i64 0, .int .i64 0] 28 := by
    rw [← hw1]
    exact World.objAt.set (World.objAt.set (World.objAt.set H0.out.2.1 0 _) 1 _) 2 _
  have hb1 : Below w.heap.size w w1 := by
    rw [← hw1]
    exact ((H0.out.2.2.setCell (p := ⟨S0 + 1, 0, none⟩) (by show _ ≤ S0 + 1; omega) _).setCell (p := ⟨S0 + 1, 1, none⟩) (by show _ ≤ S0 + 1; omega) _).setCell (p := ⟨S0 + 1, 2, none⟩) (by show _ ≤ S0 + 1; omega) _
  rw [hw1]
  have hs1 : S0 + 1 < w1.heap.size := World.objAt.lt ho1
  clear q0 q1 q2 n0 n1 n2 hw1
  refine (HKID.out w1 (HSL.out.later hb1 (Nat.le_refl _))).mono ?_
  rintro e w2 ⟨kv, rfl, hkv, hbk⟩
  obtain ⟨ks, hks⟩ : ∃ ks, kids (zs l) i = ks := ⟨_, rfl⟩
  rw [hks] at hkv
  have hbel2 := hb1.trans (hbk.mono hb1.size)
  have hS2 := HSL.out.later hbel2 (Nat.le_refl _)
  obtain ⟨b, off, rfl, hc⟩ := hS2.at (by omega)
  have c := hc i hi
  have c0 := c.kind
  have c1 := c.op
  have c2 := c.key
  have c3 := c.val
  have c4 := c.a
  have c5 := c.b
  have c6 := c.flag
  have c7 := c.size
  have hr2 := World.objAt.below hr1 hbk (World.objAt.lt hr1)
  have ho2 := World.objAt.below ho1 hbk (World.objAt.lt ho1)
  obtain ⟨kd_, hkd⟩ : ∃ kd_, (l.getD i default).kind = kd_ := ⟨_, rfl⟩
  obtain ⟨op_, hop⟩ : ∃ op_, (l.getD i default).op = op_ := ⟨_, rfl⟩
  obtain ⟨key, hkey⟩ : ∃ key, (l.getD i default).key = key := ⟨_, rfl⟩
  obtain ⟨val, hval⟩ : ∃ val, (l.getD i default).val = val := ⟨_, rfl⟩
  obtain ⟨a_, ha_⟩ : ∃ a_, (l.getD i default).a = a_ := ⟨_, rfl⟩
  obtain ⟨b_, hb_⟩ : ∃ b_, (l.getD i default).b = b_ := ⟨_, rfl⟩
  obtain ⟨fl_, hfl⟩ : ∃ fl_, (l.getD i default).flag = fl_ := ⟨_, rfl⟩
  obtain ⟨sz_, hsz_⟩ : ∃ sz_, (l.getD i default).size = sz_ := ⟨_, rfl⟩
  rw [hkd] at c0
  rw [hop] at c1
  rw [hkey] at c2
  rw [hval] at c3
  rw [ha_] at c4
  rw [hb_] at c5
  rw [hfl] at c6
  rw [hsz_] at c7
  have hX : S0 + 1 < w2.heap.size := by have := hbk.size; omega
  have hsp : Sp3 w (w2.alloc (.cells #[.int .i64 kd_, .int .i64 op_, .string key, .string val, .int .i64 a_, .int .i64 b_, .int .i64 fl_, .int .i64 sz_] 25)) S0 w2.heap.size (0, 0, 0) #[.int .i64 kd_, .int .i64 op_, .string key, .string val, .int .i64 a_, .int .i64 b_, .int .i64 fl_, .int .i64 sz_] :=
    ⟨World.objAt.below hr2 ((Below.refl _ _).alloc (Nat.le_refl _) _) (World.objAt.lt hr2), World.objAt.below ho2 ((Below.refl _ _).alloc (Nat.le_refl _) _) (World.objAt.lt ho2), objAt_alloc_new w2 _ _, hbel2.alloc hbel2.size _, hS, hX⟩
  have hkv3 := hkv.ints.below ((Below.refl w2.heap.size w2).alloc (Nat.le_refl _) (.cells #[.int .i64 kd_, .int .i64 op_, .string key, .string val, .int .i64 a_, .int .i64 b_, .int .i64 fl_, .int .i64 sz_] 25))
  obtain ⟨w3, hw3⟩ : ∃ w3, w2.alloc (.cells #[.int .i64 kd_, .int .i64 op_, .string key, .string val, .int .i64 a_, .int .i64 b_, .int .i64 fl_, .int .i64 sz_] 25) = w3 := ⟨_, rfl⟩
  obtain ⟨X, hX2⟩ : ∃ X, w2.heap.size = X := ⟨_, rfl⟩
  rw [hw3, hX2] at hsp
  rw [hw3] at hkv3
  have HSP := Lib.hid hsp
  have HKV := Lib.hid hkv3
  have HOWN := Lib.hid (show ∀ q, kv.ownBlock = some q → S0 + 2 ≤ q from fun q hq => by have := (World.ownsRow.lt hkv q hq).1; omega)
  have hkd2 : kdS l i = kd_ := hkd
  have HKD := Lib.hid (And.intro hkd2 (And.intro hval hks))
  have hrange := (hT.shape i hil).range
  rw [hkd2] at hrange
  rw [hkd2] at hcl
  clear hkv hbk hbel2 hS2 hc c hr2 ho2 hkd hop hkey hval ha_ hb_ hfl hsz_ hsp hkv3 hkd2 hks HKID H0 hsz1 hX hr1 ho1 hb1 hs1
  have k0 : w3.cell? ⟨X, 0, none⟩ = some (.int .i64 kd_) := World.objAt.cell HSP.out.node (i := 0) rfl
  have hk := hcl
  clear hcl
  have x1 : (kd_ == 1) = true := by simp; omega
  have x2 : (kd_ == 2) = false := by simp; omega
  have x4 : (kd_ == 4) = false := by simp; omega
  have x21 : (kd_ == 21) = false := by simp; omega
  have x22 : (kd_ == 22) = false := by simp; omega
  have x18 : (kd_ == 18) = false := by simp; omega
  have x19 : (kd_ == 19) = false := by simp; omega
  have x20 : (kd_ == 20) = false := by simp; omega
  have x23 : (kd_ == 23) = false := by simp; omega
  have HS := Lib.hid (show S l i = (0, 0, 0) by rw [S_sim hT hil (by rw [HKD.out.1]; omega), HKD.out.1]; unfold simS; rw [if_pos hk])
  clear hk
  have q0 : w3.cell? ⟨S0 + 1, 0, none⟩ = some (.int .i64 ((((0, 0, 0) : Tri)).1 : Int)) := World.objAt.cell HSP.out.out (i := 0) rfl
  have n0 : w3.frozen? ⟨S0 + 1, 0, none⟩ = false := World.objAt.free HSP.out.out 0
  have q1 : w3.cell? ⟨S0 + 1, 1, none⟩ = some (.int .i64 ((((0, 0, 0) : Tri)).2.1 : Int)) := World.objAt.cell HSP.out.out (i := 1) rfl
  have n1 : w3.frozen? ⟨S0 + 1, 1, none⟩ = false := World.objAt.free HSP.out.out 1
  have q2 : w3.cell? ⟨S0 + 1, 2, none⟩ = some (.int .i64 ((((0, 0, 0) : Tri)).2.2 : Int)) := World.objAt.cell HSP.out.out (i := 2) rfl
  have n2 : w3.frozen? ⟨S0 + 1, 2, none⟩ = false := World.objAt.free HSP.out.out 2
  have r0 : w3.cell? ⟨S0, 0, none⟩ = some (.int .i64 0) := World.objAt.cell HSP.out.res (i := 0) rfl
  have m0 : w3.frozen? ⟨S0, 0, none⟩ = false := World.objAt.free HSP.out.res 0
  have r1 : w3.cell? ⟨S0, 1, none⟩ = some (.int .i64 0) := World.objAt.cell HSP.out.res (i := 1) rfl
  have m1 : w3.frozen? ⟨S0, 1, none⟩ = false := World.objAt.free HSP.out.res 1
  have r2 : w3.cell? ⟨S0, 2, none⟩ = some (.int .i64 0) := World.objAt.cell HSP.out.res (i := 2) rfl
  have m2 : w3.frozen? ⟨S0, 2, none⟩ = false := World.objAt.free HSP.out.res 2
  go_wp2
  refine bodyPost_ret (v := triS (0, 0, 0)) ?_ rfl ?_
  · rw [results_cell1 rfl]
    go_simp
    rfl
  · have hq2 := HSP.out.at_
    refine ⟨by rw [HS.out], Lib.hid ?_⟩
    exact ((HSP.out.below.setCell (p := ⟨S0, 0, none⟩) (by show _ ≤ S0; omega) _).setCell (p := ⟨S0, 1, none⟩) (by show _ ≤ S0; omega) _).setCell (p := ⟨S0, 2, none⟩) (by show _ ≤ S0; omega) _
set_option maxRecDepth 100000 in
set_option maxHeartbeats 8000000 in
theorem specS_k2 (hT : SelTree l) (hNP : NoPseudo l) (a : Option Addr) (len cap n : Nat) (ih : ∀ (i : Nat) (w : World), i < len → zs l i ≤ n → Sels w a len l → Calls Tryz.prog 17 #[.slice a len cap, .int .i64 (i : Int)] w (TriPost (S l i) w)) (i : Nat) (w : World) (hi : i < len) (hn : zs l i ≤ n + 1) (h : Sels w a len l) (hcl : kdS l i = 2) :
  Calls Tryz.prog 17 #[.slice a len cap, .int .i64 (i : Int)] w (TriPost (S l i) w) := by
  have IH := Lib.hid ih
  have hl := h.len.1
  have hil : i < l.length := by omega
  have hlen60 : len ≤ 60 := by rw [← hl]; exact hT.small
  obtain ⟨hsz, hfit⟩ := hT.szs hl
  have h0 := objAt_alloc_new w #[.int .i64 0, .int .i64 0, .int .i64 0] 28
  have h1 := objAt_alloc_new (w.alloc (.cells #[.int .i64 0, .int .i64 0, .int .i64 0] 28)) #[.int .i64 0, .int .i64 0, .int .i64 0] 28
  have hb0 : Below w.heap.size w ((w.alloc (.cells #[.int .i64 0, .int .i64 0, .int .i64 0] 28)).alloc (.cells #[.int .i64 0, .int .i64 0, .int .i64 0] 28)) := ((Below.refl _ _).alloc (Nat.le_refl _) _).alloc (by simp) _
  have h0' := World.objAt.below h0 ((Below.refl _ _).alloc (Nat.le_refl _) (.cells #[.int .i64 0, .int .i64 0, .int .i64 0] 28)) (World.objAt.lt h0)
  obtain ⟨w0, hw0⟩ : ∃ w0, ((w.alloc (.cells #[.int .i64 0, .int .i64 0, .int .i64 0] 28)).alloc (.cells #[.int .i64 0, .int .i64 0, .int .i64 0] 28)) = w0 := ⟨_, rfl⟩
  rw [hw0] at h0' h1 hb0
  have hsz1 : (w.alloc (.cells #[.int .i64 0, .int .i64 0, .int .i64 0] 28)).heap.size = w.heap.size + 1 := by simp
  rw [hsz1] at h1
  obtain ⟨S0, hS⟩ : ∃ S0, w.heap.size = S0 := ⟨_, rfl⟩
  rw [hS] at h0' h1
  have hw0s : w0.heap.size = S0 + 1 + 1 := by rw [← hw0, ← hS]; simp
  have HSL := Lib.hid h
  have HKID := Lib.hid (fun w' (h' : Sels w' a len l) => selKids_any a len cap l i w' h' hsz hfit hi (by omega))
  have q0 : w0.cell? ⟨S0 + 1, 0, none⟩ = some (.int .i64 0) := World.objAt.cell h1 (i := 0) rfl
  have q1 : w0.cell? ⟨S0 + 1, 1, none⟩ = some (.int .i64 0) := World.objAt.cell h1 (i := 1) rfl
  have q2 : w0.cell? ⟨S0 + 1, 2, none⟩ = some (.int .i64 0) := World.objAt.cell h1 (i := 2) rfl
  have n0 : w0.frozen? ⟨S0 + 1, 0, none⟩ = false := World.objAt.free h1 0
  have n1 : w0.frozen? ⟨S0 + 1, 1, none⟩ = false := World.objAt.free h1 1
  have n2 : w0.frozen? ⟨S0 + 1, 2, none⟩ = false := World.objAt.free h1 2
  have H0 := Lib.hid (And.intro h0' (And.intro h1 hb0))
  have HSZ := Lib.hid (And.intro hsz hfit)
  clear h0 h0' h1 hb0 h hsz hfit
  go_enter Tryz.func17, Tryz.ntmps17
  go_wp2_with fail
  obtain ⟨w1, hw1⟩ : ∃ w1, (((w0.setCell ⟨S0 + 1, 0, none⟩ (.int .i64 0)).setCell ⟨S0 + 1, 1, none⟩ (.int .i64 0)).setCell ⟨S0 + 1, 2, none⟩ (.int .i64 0)) = w1 := ⟨_, rfl⟩
  have hr1 : World.objAt w1 S0 #[.int .i64 0, .int .i64 0, .int .i64 0] 28 := by
    rw [← hw1]
    exact objAt_offS (objAt_offS (objAt_offS H0.out.1 ⟨S0 + 1, 0, none⟩ (by show S0 ≠ S0 + 1; omega) _) ⟨S0 + 1, 1, none⟩ (by show S0 ≠ S0 + 1; omega) _) ⟨S0 + 1, 2, none⟩ (by show S0 ≠ S0 + 1; omega) _
  have ho1 : World.objAt w1 (S0 + 1) #[.int .i64 0, .int .i64 0, .int .i64 0] 28 := by
    rw [← hw1]
    exact World.objAt.set (World.objAt.set (World.objAt.set H0.out.2.1 0 _) 1 _) 2 _
  have hb1 : Below w.heap.size w w1 := by
    rw [← hw1]
    exact ((H0.out.2.2.setCell (p := ⟨S0 + 1, 0, none⟩) (by show _ ≤ S0 + 1; omega) _).setCell (p := ⟨S0 + 1, 1, none⟩) (by show _ ≤ S0 + 1; omega) _).setCell (p := ⟨S0 + 1, 2, none⟩) (by show _ ≤ S0 + 1; omega) _
  rw [hw1]
  have hs1 : S0 + 1 < w1.heap.size := World.objAt.lt ho1
  clear q0 q1 q2 n0 n1 n2 hw1
  refine (HKID.out w1 (HSL.out.later hb1 (Nat.le_refl _))).mono ?_
  rintro e w2 ⟨kv, rfl, hkv, hbk⟩
  obtain ⟨ks, hks⟩ : ∃ ks, kids (zs l) i = ks := ⟨_, rfl⟩
  rw [hks] at hkv
  have hbel2 := hb1.trans (hbk.mono hb1.size)
  have hS2 := HSL.out.later hbel2 (Nat.le_refl _)
  obtain ⟨b, off, rfl, hc⟩ := hS2.at (by omega)
  have c := hc i hi
  have c0 := c.kind
  have c1 := c.op
  have c2 := c.key
  have c3 := c.val
  have c4 := c.a
  have c5 := c.b
  have c6 := c.flag
  have c7 := c.size
  have hr2 := World.objAt.below hr1 hbk (World.objAt.lt hr1)
  have ho2 := World.objAt.below ho1 hbk (World.objAt.lt ho1)
  obtain ⟨kd_, hkd⟩ : ∃ kd_, (l.getD i default).kind = kd_ := ⟨_, rfl⟩
  obtain ⟨op_, hop⟩ : ∃ op_, (l.getD i default).op = op_ := ⟨_, rfl⟩
  obtain ⟨key, hkey⟩ : ∃ key, (l.getD i default).key = key := ⟨_, rfl⟩
  obtain ⟨val, hval⟩ : ∃ val, (l.getD i default).val = val := ⟨_, rfl⟩
  obtain ⟨a_, ha_⟩ : ∃ a_, (l.getD i default).a = a_ := ⟨_, rfl⟩
  obtain ⟨b_, hb_⟩ : ∃ b_, (l.getD i default).b = b_ := ⟨_, rfl⟩
  obtain ⟨fl_, hfl⟩ : ∃ fl_, (l.getD i default).flag = fl_ := ⟨_, rfl⟩
  obtain ⟨sz_, hsz_⟩ : ∃ sz_, (l.getD i default).size = sz_ := ⟨_, rfl⟩
  rw [hkd] at c0
  rw [hop] at c1
  rw [hkey] at c2
  rw [hval] at c3
  rw [ha_] at c4
  rw [hb_] at c5
  rw [hfl] at c6
  rw [hsz_] at c7
  have hX : S0 + 1 < w2.heap.size := by have := hbk.size; omega
  have hsp : Sp3 w (w2.alloc (.cells #[.int .i64 kd_, .int .i64 op_, .string key, .string val, .int .i64 a_, .int .i64 b_, .int .i64 fl_, .int .i64 sz_] 25)) S0 w2.heap.size (0, 0, 0) #[.int .i64 kd_, .int .i64 op_, .string key, .string val, .int .i64 a_, .int .i64 b_, .int .i64 fl_, .int .i64 sz_] :=
    ⟨World.objAt.below hr2 ((Below.refl _ _).alloc (Nat.le_refl _) _) (World.objAt.lt hr2), World.objAt.below ho2 ((Below.refl _ _).alloc (Nat.le_refl _) _) (World.objAt.lt ho2), objAt_alloc_new w2 _ _, hbel2.alloc hbel2.size _, hS, hX⟩
  have hkv3 := hkv.ints.below ((Below.refl w2.heap.size w2).alloc (Nat.le_refl _) (.cells #[.int .i64 kd_, .int .i64 op_, .string key, .string val, .int .i64 a_, .int .i64 b_, .int .i64 fl_, .int .i64 sz_] 25))
  obtain ⟨w3, hw3⟩ : ∃ w3, w2.alloc (.cells #[.int .i64 kd_, .int .i64 op_, .string key, .string val, .int .i64 a_, .int .i64 b_, .int .i64 fl_, .int .i64 sz_] 25) = w3 := ⟨_, rfl⟩
  obtain ⟨X, hX2⟩ : ∃ X, w2.heap.size = X := ⟨_, rfl⟩
  rw [hw3, hX2] at hsp
  rw [hw3] at hkv3
  have HSP := Lib.hid hsp
  have HKV := Lib.hid hkv3
  have HOWN := Lib.hid (show ∀ q, kv.ownBlock = some q → S0 + 2 ≤ q from fun q hq => by have := (World.ownsRow.lt hkv q hq).1; omega)
  have hkd2 : kdS l i = kd_ := hkd
  have HKD := Lib.hid (And.intro hkd2 (And.intro hval hks))
  have hrange := (hT.shape i hil).range
  rw [hkd2] at hrange
  rw [hkd2] at hcl
  clear hkv hbk hbel2 hS2 hc c hr2 ho2 hkd hop hkey hval ha_ hb_ hfl hsz_ hsp hkv3 hkd2 hks HKID H0 hsz1 hX hr1 ho1 hb1 hs1
  have k0 : w3.cell? ⟨X, 0, none⟩ = some (.int .i64 kd_) := World.objAt.cell HSP.out.node (i := 0) rfl
  have hk := hcl
  clear hcl
  have x1 : (kd_ == 1) = false := by simp; omega
  have x2 : (kd_ == 2) = true := by simp; omega
  have x4 : (kd_ == 4) = false := by simp; omega
  have x21 : (kd_ == 21) = false := by simp; omega
  have x22 : (kd_ == 22) = false := by simp; omega
  have x18 : (kd_ == 18) = false := by simp; omega
  have x19 : (kd_ == 19) = false := by simp; omega
  have x20 : (kd_ == 20) = false := by simp; omega
  have x23 : (kd_ == 23) = false := by simp; omega
  have HS := Lib.hid (show S l i = (0, 0, 1) by rw [S_sim hT hil (by rw [HKD.out.1]; omega), HKD.out.1]; unfold simS; rw [if_neg (by omega), if_pos hk])
  clear hk
  have q0 : w3.cell? ⟨S0 + 1, 0, none⟩ = some (.int .i64 ((((0, 0, 0) : Tri)).1 : Int)) := World.objAt.cell HSP.out.out (i := 0) rfl
  have n0 : w3.frozen? ⟨S0 + 1, 0, none⟩ = false := World.objAt.free HSP.out.out 0
  have q1 : w3.cell? ⟨S0 + 1, 1, none⟩ = some (.int .i64 ((((0, 0, 0) : Tri)).2.1 : Int)) := World.objAt.cell HSP.out.out (i := 1) rfl
  have n1 : w3.frozen? ⟨S0 + 1, 1, none⟩ = false := World.objAt.free HSP.out.out 1
  have q2 : w3.cell? ⟨S0 + 1, 2, none⟩ = some (.int .i64 ((((0, 0, 0) : Tri)).2.2 : Int)) := World.objAt.cell HSP.out.out (i := 2) rfl
  have n2 : w3.frozen? ⟨S0 + 1, 2, none⟩ = false := World.objAt.free HSP.out.out 2
  have r0 : w3.cell? ⟨S0, 0, none⟩ = some (.int .i64 0) := World.objAt.cell HSP.out.res (i := 0) rfl
  have m0 : w3.frozen? ⟨S0, 0, none⟩ = false := World.objAt.free HSP.out.res 0
  have r1 : w3.cell? ⟨S0, 1, none⟩ = some (.int .i64 0) := World.objAt.cell HSP.out.res (i := 1) rfl
  have m1 : w3.frozen? ⟨S0, 1, none⟩ = false := World.objAt.free HSP.out.res 1
  have r2 : w3.cell? ⟨S0, 2, none⟩ = some (.int .i64 0) := World.objAt.cell HSP.out.res (i := 2) rfl
  have m2 : w3.frozen? ⟨S0, 2, none⟩ = false := World.objAt.free HSP.out.res 2
  go_wp2
  refine bodyPost_ret (v := triS (0, 0, 1)) ?_ rfl ?_
  · rw [results_cell1 rfl]
    go_simp
    rfl
  · have hq2 := HSP.out.at_
    refine ⟨by rw [HS.out], Lib.hid ?_⟩
    exact (((HSP.out.below.setCell (p := ⟨S0 + 1, 2, none⟩) (by show _ ≤ S0 + 1; omega) _).setCell (p := ⟨S0, 0, none⟩) (by show _ ≤ S0; omega) _).setCell (p := ⟨S0, 1, none⟩) (by show _ ≤ S0; omega) _).setCell (p := ⟨S0, 2, none⟩) (by show _ ≤ S0; omega) _
set_option maxRecDepth 100000 in
set_option maxHeartbeats 8000000 in
theorem specS_k4 (hT : SelTree l) (hNP : NoPseudo l) (a : Option Addr) (len cap n : Nat) (ih : ∀ (i : Nat) (w : World), i < len → zs l i ≤ n → Sels w a len l → Calls Tryz.prog 17 #[.slice a len cap, .int .i64 (i : Int)] w (TriPost (S l i) w)) (i : Nat) (w : World) (hi : i < len) (hn : zs l i ≤ n + 1) (h : Sels w a len l) (hcl : kdS l i = 4) :
  Calls Tryz.prog 17 #[.slice a len cap, .int .i64 (i : Int)] w (TriPost (S l i) w) := by
  have IH := Lib.hid ih
  have hl := h.len.1
  have hil : i < l.length := by omega
  have hlen60 : len ≤ 60 := by rw [← hl]; exact hT.small
  obtain ⟨hsz, hfit⟩ := hT.szs hl
  have h0 := objAt_alloc_new w #[.int .i64 0, .int .i64 0, .int .i64 0] 28
  have h1 := objAt_alloc_new (w.alloc (.cells #[.int .i64 0, .int .i64 0, .int .i64 0] 28)) #[.int .i64 0, .int .i64 0, .int .i64 0] 28
  have hb0 : Below w.heap.size w ((w.alloc (.cells #[.int .i64 0, .int .i64 0, .int .i64 0] 28)).alloc (.cells #[.int .i64 0, .int .i64 0, .int .i64 0] 28)) := ((Below.refl _ _).alloc (Nat.le_refl _) _).alloc (by simp) _
  have h0' := World.objAt.below h0 ((Below.refl _ _).alloc (Nat.le_refl _) (.cells #[.int .i64 0, .int .i64 0, .int .i64 0] 28)) (World.objAt.lt h0)
  obtain ⟨w0, hw0⟩ : ∃ w0, ((w.alloc (.cells #[.int .i64 0, .int .i64 0, .int .i64 0] 28)).alloc (.cells #[.int .i64 0, .int .i64 0, .int .i64 0] 28)) = w0 := ⟨_, rfl⟩
  rw [hw0] at h0' h1 hb0
  have hsz1 : (w.alloc (.cells #[.int .i64 0, .int .i64 0, .int .i64 0] 28)).heap.size = w.heap.size + 1 := by simp
  rw [hsz1] at h1
  obtain ⟨S0, hS⟩ : ∃ S0, w.heap.size = S0 := ⟨_, rfl⟩
  rw [hS] at h0' h1
  have hw0s : w0.heap.size = S0 + 1 + 1 := by rw [← hw0, ← hS]; simp
  have HSL := Lib.hid h
  have HKID := Lib.hid (fun w' (h' : Sels w' a len l) => selKids_any a len cap l i w' h' hsz hfit hi (by omega))
  have q0 : w0.cell? ⟨S0 + 1, 0, none⟩ = some (.int .i64 0) := World.objAt.cell h1 (i := 0) rfl
  have q1 : w0.cell? ⟨S0 + 1, 1, none⟩ = some (.int .i64 0) := World.objAt.cell h1 (i := 1) rfl
  have q2 : w0.cell? ⟨S0 + 1, 2, none⟩ = some (.int .i64 0) := World.objAt.cell h1 (i := 2) rfl
  have n0 : w0.frozen? ⟨S0 + 1, 0, none⟩ = false := World.objAt.free h1 0
  have n1 : w0.frozen? ⟨S0 + 1, 1, none⟩ = false := World.objAt.free h1 1
  have n2 : w0.frozen? ⟨S0 + 1, 2, none⟩ = false := World.objAt.free h1 2
  have H0 := Lib.hid (And.intro h0' (And.intro h1 hb0))
  have HSZ := Lib.hid (And.intro hsz hfit)
  clear h0 h0' h1 hb0 h hsz hfit
  go_enter Tryz.func17, Tryz.ntmps17
  go_wp2_with fail
  obtain ⟨w1, hw1⟩ : ∃ w1, (((w0.setCell ⟨S0 + 1, 0, none⟩ (.int .i64 0)).setCell ⟨S0 + 1, 1, none⟩ (.int .i64 0)).setCell ⟨S0 + 1, 2, none⟩ (.int .i64 0)) = w1 := ⟨_, rfl⟩
  have hr1 : World.objAt w1 S0 #[.int .i64 0, .int .i64 0, .int .i64 0] 28 := by
    rw [← hw1]
    exact objAt_offS (objAt_offS (objAt_offS H0.out.1 ⟨S0 + 1, 0, none⟩ (by show S0 ≠ S0 + 1; omega) _) ⟨S0 + 1, 1, none⟩ (by show S0 ≠ S0 + 1; omega) _) ⟨S0 + 1, 2, none⟩ (by show S0 ≠ S0 + 1; omega) _
  have ho1 : World.objAt w1 (S0 + 1) #[.int .i64 0, .int .i64 0, .int .i64 0] 28 := by
    rw [← hw1]
    exact World.objAt.set (World.objAt.set (World.objAt.set H0.out.2.1 0 _) 1 _) 2 _
  have hb1 : Below w.heap.size w w1 := by
    rw [← hw1]
    exact ((H0.out.2.2.setCell (p := ⟨S0 + 1, 0, none⟩) (by show _ ≤ S0 + 1; omega) _).setCell (p := ⟨S0 + 1, 1, none⟩) (by show _ ≤ S0 + 1; omega) _).setCell (p := ⟨S0 + 1, 2, none⟩) (by show _ ≤ S0 + 1; omega) _
  rw [hw1]
  have hs1 : S0 + 1 < w1.heap.size := World.objAt.lt ho1
  clear q0 q1 q2 n0 n1 n2 hw1
  refine (HKID.out w1 (HSL.out.later hb1 (Nat.le_refl _))).mono ?_
  rintro e w2 ⟨kv, rfl, hkv, hbk⟩
  obtain ⟨ks, hks⟩ : ∃ ks, kids (zs l) i = ks := ⟨_, rfl⟩
  rw [hks] at hkv
  have hbel2 := hb1.trans (hbk.mono hb1.size)
  have hS2 := HSL.out.later hbel2 (Nat.le_refl _)
  obtain ⟨b, off, rfl, hc⟩ := hS2.at (by omega)
  have c := hc i hi
  have c0 := c.kind
  have c1 := c.op
  have c2 := c.key
  have c3 := c.val
  have c4 := c.a
  have c5 := c.b
  have c6 := c.flag
  have c7 := c.size
  have hr2 := World.objAt.below hr1 hbk (World.objAt.lt hr1)
  have ho2 := World.objAt.below ho1 hbk (World.objAt.lt ho1)
  obtain ⟨kd_, hkd⟩ : ∃ kd_, (l.getD i default).kind = kd_ := ⟨_, rfl⟩
  obtain ⟨op_, hop⟩ : ∃ op_, (l.getD i default).op = op_ := ⟨_, rfl⟩
  obtain ⟨key, hkey⟩ : ∃ key, (l.getD i default).key = key := ⟨_, rfl⟩
  obtain ⟨val, hval⟩ : ∃ val, (l.getD i default).val = val := ⟨_, rfl⟩
  obtain ⟨a_, ha_⟩ : ∃ a_, (l.getD i default).a = a_ := ⟨_, rfl⟩
  obtain ⟨b_, hb_⟩ : ∃ b_, (l.getD i default).b = b_ := ⟨_, rfl⟩
  obtain ⟨fl_, hfl⟩ : ∃ fl_, (l.getD i default).flag = fl_ := ⟨_, rfl⟩
  obtain ⟨sz_, hsz_⟩ : ∃ sz_, (l.getD i default).size = sz_ := ⟨_, rfl⟩
  rw [hkd] at c0
  rw [hop] at c1
  rw [hkey] at c2
  rw [hval] at c3
  rw [ha_] at c4
  rw [hb_] at c5
  rw [hfl] at c6
  rw [hsz_] at c7
  have hX : S0 + 1 < w2.heap.size := by have := hbk.size; omega
  have hsp : Sp3 w (w2.alloc (.cells #[.int .i64 kd_, .int .i64 op_, .string key, .string val, .int .i64 a_, .int .i64 b_, .int .i64 fl_, .int .i64 sz_] 25)) S0 w2.heap.size (0, 0, 0) #[.int .i64 kd_, .int .i64 op_, .string key, .string val, .int .i64 a_, .int .i64 b_, .int .i64 fl_, .int .i64 sz_] :=
    ⟨World.objAt.below hr2 ((Below.refl _ _).alloc (Nat.le_refl _) _) (World.objAt.lt hr2), World.objAt.below ho2 ((Below.refl _ _).alloc (Nat.le_refl _) _) (World.objAt.lt ho2), objAt_alloc_new w2 _ _, hbel2.alloc hbel2.size _, hS, hX⟩
  have hkv3 := hkv.ints.below ((Below.refl w2.heap.size w2).alloc (Nat.le_refl _) (.cells #[.int .i64 kd_, .int .i64 op_, .string key, .string val, .int .i64 a_, .int .i64 b_, .int .i64 fl_, .int .i64 sz_] 25))
  obtain ⟨w3, hw3⟩ : ∃ w3, w2.alloc (.cells #[.int .i64 kd_, .int .i64 op_, .string key, .string val, .int .i64 a_, .int .i64 b_, .int .i64 fl_, .int .i64 sz_] 25) = w3 := ⟨_, rfl⟩
  obtain ⟨X, hX2⟩ : ∃ X, w2.heap.size = X := ⟨_, rfl⟩
  rw [hw3, hX2] at hsp
  rw [hw3] at hkv3
  have HSP := Lib.hid hsp
  have HKV := Lib.hid hkv3
  have HOWN := Lib.hid (show ∀ q, kv.ownBlock = some q → S0 + 2 ≤ q from fun q hq => by have := (World.ownsRow.lt hkv q hq).1; omega)
  have hkd2 : kdS l i = kd_ := hkd
  have HKD := Lib.hid (And.intro hkd2 (And.intro hval hks))
  have hrange := (hT.shape i hil).range
  rw [hkd2] at hrange
  rw [hkd2] at hcl
  clear hkv hbk hbel2 hS2 hc c hr2 ho2 hkd hop hkey hval ha_ hb_ hfl hsz_ hsp hkv3 hkd2 hks HKID H0 hsz1 hX hr1 ho1 hb1 hs1
  have k0 : w3.cell? ⟨X, 0, none⟩ = some (.int .i64 kd_) := World.objAt.cell HSP.out.node (i := 0) rfl
  have hk := hcl
  clear hcl
  have x1 : (kd_ == 1) = false := by simp; omega
  have x2 : (kd_ == 2) = false := by simp; omega
  have x4 : (kd_ == 4) = true := by simp; omega
  have x21 : (kd_ == 21) = false := by simp; omega
  have x22 : (kd_ == 22) = false := by simp; omega
  have x18 : (kd_ == 18) = false := by simp; omega
  have x19 : (kd_ == 19) = false := by simp; omega
  have x20 : (kd_ == 20) = false := by simp; omega
  have x23 : (kd_ == 23) = false := by simp; omega
  have HS := Lib.hid (show S l i = (1, 0, 0) by rw [S_sim hT hil (by rw [HKD.out.1]; omega), HKD.out.1]; unfold simS; rw [if_neg (by omega), if_neg (by omega), if_pos hk])
  clear hk
  have q0 : w3.cell? ⟨S0 + 1, 0, none⟩ = some (.int .i64 ((((0, 0, 0) : Tri)).1 : Int)) := World.objAt.cell HSP.out.out (i := 0) rfl
  have n0 : w3.frozen? ⟨S0 + 1, 0, none⟩ = false := World.objAt.free HSP.out.out 0
  have q1 : w3.cell? ⟨S0 + 1, 1, none⟩ = some (.int .i64 ((((0, 0, 0) : Tri)).2.1 : Int)) := World.objAt.cell HSP.out.out (i := 1) rfl
  have n1 : w3.frozen? ⟨S0 + 1, 1, none⟩ = false := World.objAt.free HSP.out.out 1
  have q2 : w3.cell? ⟨S0 + 1, 2, none⟩ = some (.int .i64 ((((0, 0, 0) : Tri)).2.2 : Int)) := World.objAt.cell HSP.out.out (i := 2) rfl
  have n2 : w3.frozen? ⟨S0 + 1, 2, none⟩ = false := World.objAt.free HSP.out.out 2
  have r0 : w3.cell? ⟨S0, 0, none⟩ = some (.int .i64 0) := World.objAt.cell HSP.out.res (i := 0) rfl
  have m0 : w3.frozen? ⟨S0, 0, none⟩ = false := World.objAt.free HSP.out.res 0
  have r1 : w3.cell? ⟨S0, 1, none⟩ = some (.int .i64 0) := World.objAt.cell HSP.out.res (i := 1) rfl
  have m1 : w3.frozen? ⟨S0, 1, none⟩ = false := World.objAt.free HSP.out.res 1
  have r2 : w3.cell? ⟨S0, 2, none⟩ = some (.int .i64 0) := World.objAt.cell HSP.out.res (i := 2) rfl
  have m2 : w3.frozen? ⟨S0, 2, none⟩ = false := World.objAt.free HSP.out.res 2
  go_wp2
  refine bodyPost_ret (v := triS (1, 0, 0)) ?_ rfl ?_
  · rw [results_cell1 rfl]
    go_simp
    rfl
  · have hq2 := HSP.out.at_
    refine ⟨by rw [HS.out], Lib.hid ?_⟩
    exact (((HSP.out.below.setCell (p := ⟨S0 + 1, 0, none⟩) (by show _ ≤ S0 + 1; omega) _).setCell (p := ⟨S0, 0, none⟩) (by show _ ≤ S0; omega) _).setCell (p := ⟨S0, 1, none⟩) (by show _ ≤ S0; omega) _).setCell (p := ⟨S0, 2, none⟩) (by show _ ≤ S0; omega) _
set_option maxRecDepth 100000 in
set_option maxHeartbeats 8000000 in
theorem specS_kc (hT : SelTree l) (hNP : NoPseudo l) (a : Option Addr) (len cap n : Nat) (ih : ∀ (i : Nat) (w : World), i < len → zs l i ≤ n → Sels w a len l → Calls Tryz.prog 17 #[.slice a len cap, .int .i64 (i : Int)] w (TriPost (S l i) w)) (i : Nat) (w : World) (hi : i < len) (hn : zs l i ≤ n + 1) (h : Sels w a len l) (hcl : kdS l i = 3 ∨ (5 ≤ kdS l i ∧ kdS l i ≤ 17)) :
  Calls Tryz.prog 17 #[.slice a len cap, .int .i64 (i : Int)] w (TriPost (S l i) w) := by
  have IH := Lib.hid ih
  have hl := h.len.1
  have hil : i < l.length := by omega
  have hlen60 : len ≤ 60 := by rw [← hl]; exact hT.small
  obtain ⟨hsz, hfit⟩ := hT.szs hl
  have h0 := objAt_alloc_new w #[.int .i64 0, .int .i64 0, .int .i64 0] 28
  have h1 := objAt_alloc_new (w.alloc (.cells #[.int .i64 0, .int .i64 0, .int .i64 0] 28)) #[.int .i64 0, .int .i64 0, .int .i64 0] 28
  have hb0 : Below w.heap.size w ((w.alloc (.cells #[.int .i64 0, .int .i64 0, .int .i64 0] 28)).alloc (.cells #[.int .i64 0, .int .i64 0, .int .i64 0] 28)) := ((Below.refl _ _).alloc (Nat.le_refl _) _).alloc (by simp) _
  have h0' := World.objAt.below h0 ((Below.refl _ _).alloc (Nat.le_refl _) (.cells #[.int .i64 0, .int .i64 0, .int .i64 0] 28)) (World.objAt.lt h0)
  obtain ⟨w0, hw0⟩ : ∃ w0, ((w.alloc (.cells #[.int .i64 0, .int .i64 0, .int .i64 0] 28)).alloc (.cells #[.int .i64 0, .int .i64 0, .int .i64 0] 28)) = w0 := ⟨_, rfl⟩
  rw [hw0] at h0' h1 hb0
  have hsz1 : (w.alloc (.cells #[.int .i64 0, .int .i64 0, .int .i64 0] 28)).heap.size = w.heap.size + 1 := by simp
  rw [hsz1] at h1
  obtain ⟨S0, hS⟩ : ∃ S0, w.heap.size = S0 := ⟨_, rfl⟩
  rw [hS] at h0' h1
  have hw0s : w0.heap.size = S0 + 1 + 1 := by rw [← hw0, ← hS]; simp
  have HSL := Lib.hid h
  have HKID := Lib.hid (fun w' (h' : Sels w' a len l) => selKids_any a len cap l i w' h' hsz hfit hi (by omega))
  have q0 : w0.cell? ⟨S0 + 1, 0, none⟩ = some (.int .i64 0) := World.objAt.cell h1 (i := 0) rfl
  have q1 : w0.cell? ⟨S0 + 1, 1, none⟩ = some (.int .i64 0) := World.objAt.cell h1 (i := 1) rfl
  have q2 : w0.cell? ⟨S0 + 1, 2, none⟩ = some (.int .i64 0) := World.objAt.cell h1 (i := 2) rfl
  have n0 : w0.frozen? ⟨S0 + 1, 0, none⟩ = false := World.objAt.free h1 0
  have n1 : w0.frozen? ⟨S0 + 1, 1, none⟩ = false := World.objAt.free h1 1
  have n2 : w0.frozen? ⟨S0 + 1, 2, none⟩ = false := World.objAt.free h1 2
  have H0 := Lib.hid (And.intro h0' (And.intro h1 hb0))
  have HSZ := Lib.hid (And.intro hsz hfit)
  clear h0 h0' h1 hb0 h hsz hfit
  go_enter Tryz.func17, Tryz.ntmps17
  go_wp2_with fail
  obtain ⟨w1, hw1⟩ : ∃ w1, (((w0.setCell ⟨S0 + 1, 0, none⟩ (.int .i64 0)).setCell ⟨S0 + 1, 1, none⟩ (.int .i64 0)).setCell ⟨S0 + 1, 2, none⟩ (.int .i64 0)) = w1 := ⟨_, rfl⟩
  have hr1 : World.objAt w1 S0 #[.int .i64 0, .int .i64 0, .int .i64 0] 28 := by
    rw [← hw1]
    exact objAt_offS (objAt_offS (objAt_offS H0.out.1 ⟨S0 + 1, 0, none⟩ (by show S0 ≠ S0 + 1; omega) _) ⟨S0 + 1, 1, none⟩ (by show S0 ≠ S0 + 1; omega) _) ⟨S0 + 1, 2, none⟩ (by show S0 ≠ S0 + 1; omega) _
  have ho1 : World.objAt w1 (S0 + 1) #[.int .i64 0, .int .i64 0, .int .i64 0] 28 := by
    rw [← hw1]
    exact World.objAt.set (World.objAt.set (World.objAt.set H0.out.2.1 0 _) 1 _) 2 _
  have hb1 : Below w.heap.size w w1 := by
    rw [← hw1]
    exact ((H0.out.2.2.setCell (p := ⟨S0 + 1, 0, none⟩) (by show _ ≤ S0 + 1; omega) _).setCell (p := ⟨S0 + 1, 1, none⟩) (by show _ ≤ S0 + 1; omega) _).setCell (p := ⟨S0 + 1, 2, none⟩) (by show _ ≤ S0 + 1; omega) _
  rw [hw1]
  have hs1 : S0 + 1 < w1.heap.size := World.objAt.lt ho1
  clear q0 q1 q2 n0 n1 n2 hw1
  refine (HKID.out w1 (HSL.out.later hb1 (Nat.le_refl _))).mono ?_
  rintro e w2 ⟨kv, rfl, hkv, hbk⟩
  obtain ⟨ks, hks⟩ : ∃ ks, kids (zs l) i = ks := ⟨_, rfl⟩
  rw [hks] at hkv
  have hbel2 := hb1.trans (hbk.mono hb1.size)
  have hS2 := HSL.out.later hbel2 (Nat.le_refl _)
  obtain ⟨b, off, rfl, hc⟩ := hS2.at (by omega)
  have c := hc i hi
  have c0 := c.kind
  have c1 := c.op
  have c2 := c.key
  have c3 := c.val
  have c4 := c.a
  have c5 := c.b
  have c6 := c.flag
  have c7 := c.size
  have hr2 := World.objAt.below hr1 hbk (World.objAt.lt hr1)
  have ho2 := World.objAt.below ho1 hbk (World.objAt.lt ho1)
  obtain ⟨kd_, hkd⟩ : ∃ kd_, (l.getD i default).kind = kd_ := ⟨_, rfl⟩
  obtain ⟨op_, hop⟩ : ∃ op_, (l.getD i default).op = op_ := ⟨_, rfl⟩
  obtain ⟨key, hkey⟩ : ∃ key, (l.getD i default).key = key := ⟨_, rfl⟩
  obtain ⟨val, hval⟩ : ∃ val, (l.getD i default).val = val := ⟨_, rfl⟩
  obtain ⟨a_, ha_⟩ : ∃ a_, (l.getD i default).a = a_ := ⟨_, rfl⟩
  obtain ⟨b_, hb_⟩ : ∃ b_, (l.getD i default).b = b_ := ⟨_, rfl⟩
  obtain ⟨fl_, hfl⟩ : ∃ fl_, (l.getD i default).flag = fl_ := ⟨_, rfl⟩
  obtain ⟨sz_, hsz_⟩ : ∃ sz_, (l.getD i default).size = sz_ := ⟨_, rfl⟩
  rw [hkd] at c0
  rw [hop] at c1
  rw [hkey] at c2
  rw [hval] at c3
  rw [ha_] at c4
  rw [hb_] at c5
  rw [hfl] at c6
  rw [hsz_] at c7
  have hX : S0 + 1 < w2.heap.size := by have := hbk.size; omega
  have hsp : Sp3 w (w2.alloc (.cells #[.int .i64 kd_, .int .i64 op_, .string key, .string val, .int .i64 a_, .int .i64 b_, .int .i64 fl_, .int .i64 sz_] 25)) S0 w2.heap.size (0, 0, 0) #[.int .i64 kd_, .int .i64 op_, .string key, .string val, .int .i64 a_, .int .i64 b_, .int .i64 fl_, .int .i64 sz_] :=
    ⟨World.objAt.below hr2 ((Below.refl _ _).alloc (Nat.le_refl _) _) (World.objAt.lt hr2), World.objAt.below ho2 ((Below.refl _ _).alloc (Nat.le_refl _) _) (World.objAt.lt ho2), objAt_alloc_new w2 _ _, hbel2.alloc hbel2.size _, hS, hX⟩
  have hkv3 := hkv.ints.below ((Below.refl w2.heap.size w2).alloc (Nat.le_refl _) (.cells #[.int .i64 kd_, .int .i64 op_, .string key, .string val, .int .i64 a_, .int .i64 b_, .int .i64 fl_, .int .i64 sz_] 25))
  obtain ⟨w3, hw3⟩ : ∃ w3, w2.alloc (.cells #[.int .i64 kd_, .int .i64 op_, .string key, .string val, .int .i64 a_, .int .i64 b_, .int .i64 fl_, .int .i64 sz_] 25) = w3 := ⟨_, rfl⟩
  obtain ⟨X, hX2⟩ : ∃ X, w2.heap.size = X := ⟨_, rfl⟩
  rw [hw3, hX2] at hsp
  rw [hw3] at hkv3
  have HSP := Lib.hid hsp
  have HKV := Lib.hid hkv3
  have HOWN := Lib.hid (show ∀ q, kv.ownBlock = some q → S0 + 2 ≤ q from fun q hq => by have := (World.ownsRow.lt hkv q hq).1; omega)
  have hkd2 : kdS l i = kd_ := hkd
  have HKD := Lib.hid (And.intro hkd2 (And.intro hval hks))
  have hrange := (hT.shape i hil).range
  rw [hkd2] at hrange
  rw [hkd2] at hcl
  clear hkv hbk hbel2 hS2 hc c hr2 ho2 hkd hop hkey hval ha_ hb_ hfl hsz_ hsp hkv3 hkd2 hks HKID H0 hsz1 hX hr1 ho1 hb1 hs1
  have k0 : w3.cell? ⟨X, 0, none⟩ = some (.int .i64 kd_) := World.objAt.cell HSP.out.node (i := 0) rfl
  have hk := hcl
  clear hcl
  have x1 : (kd_ == 1) = false := by simp; omega
  have x2 : (kd_ == 2) = false := by simp; omega
  have x4 : (kd_ == 4) = false := by simp; omega
  have x21 : (kd_ == 21) = false := by simp; omega
  have x22 : (kd_ == 22) = false := by simp; omega
  have x18 : (kd_ == 18) = false := by simp; omega
  have x19 : (kd_ == 19) = false := by simp; omega
  have x20 : (kd_ == 20) = false := by simp; omega
  have x23 : (kd_ == 23) = false := by simp; omega
  have HS := Lib.hid (show S l i = (0, 1, 0) by rw [S_sim hT hil (by rw [HKD.out.1]; omega), HKD.out.1]; unfold simS; rw [if_neg (by omega), if_neg (by omega), if_neg (by omega)])
  clear hk
  have q0 : w3.cell? ⟨S0 + 1, 0, none⟩ = some (.int .i64 ((((0, 0, 0) : Tri)).1 : Int)) := World.objAt.cell HSP.out.out (i := 0) rfl
  have n0 : w3.frozen? ⟨S0 + 1, 0, none⟩ = false := World.objAt.free HSP.out.out 0
  have q1 : w3.cell? ⟨S0 + 1, 1, none⟩ = some (.int .i64 ((((0, 0, 0) : Tri)).2.1 : Int)) := World.objAt.cell HSP.out.out (i := 1) rfl
  have n1 : w3.frozen? ⟨S0 + 1, 1, none⟩ = false := World.objAt.free HSP.out.out 1
  have q2 : w3.cell? ⟨S0 + 1, 2, none⟩ = some (.int .i64 ((((0, 0, 0) : Tri)).2.2 : Int)) := World.objAt.cell HSP.out.out (i := 2) rfl
  have n2 : w3.frozen? ⟨S0 + 1, 2, none⟩ = false := World.objAt.free HSP.out.out 2
  have r0 : w3.cell? ⟨S0, 0, none⟩ = some (.int .i64 0) := World.objAt.cell HSP.out.res (i := 0) rfl
  have m0 : w3.frozen? ⟨S0, 0, none⟩ = false := World.objAt.free HSP.out.res 0
  have r1 : w3.cell? ⟨S0, 1, none⟩ = some (.int .i64 0) := World.objAt.cell HSP.out.res (i := 1) rfl
  have m1 : w3.frozen? ⟨S0, 1, none⟩ = false := World.objAt.free HSP.out.res 1
  have r2 : w3.cell? ⟨S0, 2, none⟩ = some (.int .i64 0) := World.objAt.cell HSP.out.res (i := 2) rfl
  have m2 : w3.frozen? ⟨S0, 2, none⟩ = false := World.objAt.free HSP.out.res 2
  go_wp2
  refine bodyPost_ret (v := triS (0, 1, 0)) ?_ rfl ?_
  · rw [results_cell1 rfl]
    go_simp
    rfl
  · have hq2 := HSP.out.at_
    refine ⟨by rw [HS.out], Lib.hid ?_⟩
    exact (((HSP.out.below.setCell (p := ⟨S0 + 1, 1, none⟩) (by show _ ≤ S0 + 1; omega) _).setCell (p := ⟨S0, 0, none⟩) (by show _ ≤ S0; omega) _).setCell (p := ⟨S0, 1, none⟩) (by show _ ≤ S0; omega) _).setCell (p := ⟨S0, 2, none⟩) (by show _ ≤ S0; omega) _
variable {l : List SelD}
theorem foC_len (ks : List Nat) (h : ∀ j, j < ks.length → (T l (ks.getD j 0)).length ≤ 9000) : ∀ m, m ≤ ks.length → (foC l ks m).length ≤ 9000
  | 0, _ => by simp [foC]
  | m + 1, hm => by
    have ih := foC_len ks h m (by omega)
    have := h m (by omega)
    simp only [foC]
    repeat' split
    all_goals first | omega | simp
theorem roC_len (ks : List Nat) (h : ∀ j, j < ks.length → (T l (ks.getD j 0)).length ≤ 9000) : ∀ m, m ≤ ks.length → (roC l ks m).length ≤ 9000 * m
  | 0, _ => by simp [roC]
  | m + 1, hm => by
    have ih := roC_len ks h m (by omega)
    have := h m (by omega)
    simp only [roC]
    repeat' split
    all_goals (try simp only [List.length_append]); omega
theorem isEmpty_bs (t : List UInt8) : (bs t).toList.isEmpty = t.isEmpty := by
  rw [ByteArray.toList_eq]
  simp [bs]
set_option maxRecDepth 100000 in
set_option maxHeartbeats 8000000 in
theorem writtenCmp_any (hT : SelTree l) (hNP : NoPseudo l) (a : Option Addr) (len cap i : Nat) (w : World) (h : Sels w a len l) (hi : i < len) (h21 : kdS l i = 21) (hl9 : ∀ k ∈ kidsS l i, (T l k).length ≤ 9000)
    (hW : ∀ k ∈ kidsS l i, ∀ w', Sels w' a len l → Calls Tryz.prog 16 #[.slice a len cap, .int .i64 (k : Int)] w' (StrPost (bs (T l k)) w')) :
    Calls Tryz.prog 24 #[.slice a len cap, .int .i64 (i : Int)] w (StrPost (bs (T l i)) w) := by
  have hl := h.len.1
  have hlen60 : len ≤ 60 := by rw [← hl]; exact hT.small
  obtain ⟨hsz, hfit⟩ := hT.szs hl
  have HSL := Lib.hid h
  have HKID := Lib.hid (selKids_any a len cap l i w h hsz hfit hi (by omega))
  have hlt0 := kid_lt hsz hfit hi
  have hlen0 := kid_len hsz hfit hi
  have hcomp := (hT.shape i (by omega)).comp h21
  have htx := T_comp hT (by omega) h21
  have hval := hNP i (by omega) h21
  clear h hsz hfit
  go_enter Tryz.func24, Tryz.ntmps24
  go_wp2_with fail
  refine HKID.out.mono ?_
  rintro e w2 ⟨kv, rfl, hkv, hbk⟩
  obtain ⟨ks, hks⟩ : ∃ ks, kids (zs l) i = ks := ⟨_, rfl⟩
  have hks' : kidsS l i = ks := hks
  rw [hks] at hkv hlt0 hlen0
  rw [hks'] at hcomp htx hl9 hW
  have hkl : ∀ j, j < ks.length → ks.getD j 0 < len := fun j hj => hlt0 _ (getD_memS hj)
  have hl9' : ∀ j, j < ks.length → (T l (ks.getD j 0)).length ≤ 9000 := fun j hj => hl9 _ (getD_memS hj)
  have hfo := foC_len ks hl9'
  have hro := roC_len ks hl9'
  have hceq := comp_eq (l := l) ks (fun k hk h2 => by
      have hkl2 : k < l.length := by have := hlt0 k hk; omega
      rw [T_tag hT hkl2 h2]
      obtain ⟨b, r, hb⟩ := namedF_ne ((hT.fields k hkl2).named (.inl h2))
      rw [hb]; simp) (fun j hj h2 => (hcomp j hj).2.2 h2)
  rw [← htx] at hceq
  have HKL := Lib.hid (And.intro hkl hl9')
  have HLEN := Lib.hid (And.intro hfo hro)
  have HEQ := Lib.hid hceq
  have HW := Lib.hid (fun j (hj : j < ks.length) => hW _ (getD_memS hj))
  have HVAL := Lib.hid hval
  have HB2 := Lib.hid hbk
  have HKV := Lib.hid hkv.ints
  clear hcomp htx hval hl9 hW hkl hl9' hfo hro hceq hkv hbk hks hks' hlt0 HKID
  obtain ⟨ka, kcap, rfl, hk1, hk2, hrow⟩ := id HKV.out
  clear hrow
  go_wp2
  go_loopw [6, 7, 8] (fun f r j wr => ∃ (k : Nat) (F R : ByteArray), k ≤ ks.length ∧ j = .int .i64 (k : Int) ∧ f = .string F ∧ r = .string R ∧ Hid (F = bs (foC l ks k) ∧ R = bs (roC l ks k)) ∧ Hid (Below w.heap.size w wr) ∧ Hid (IntsOf wr (.slice ka ks.length kcap) ks)) (fun _ _ j _ => ks.length - (intOf j).toNat)
  case atStart => exact ⟨0, ⟨#[]⟩, ⟨#[]⟩, by omega, by go_num, rfl, rfl, Lib.hid ⟨rfl, rfl⟩, HB2, HKV⟩
  case round =>
    obtain ⟨k, F, R, hk, rfl, rfl, rfl, HFR, HB, HI⟩ := hrel
    have hFs : F.size ≤ 9000 := by rw [HFR.out.1, bs_size]; exact HLEN.out.1 k hk
    have hRs : R.size ≤ 9000 * k := by rw [HFR.out.2, bs_size]; exact HLEN.out.2 k hk
    have hS := HSL.out.later HB.out (Nat.le_refl _)
    by_cases hlt : k < ks.length
    · obtain ⟨ka', kcap', hva, _, _, hrow2⟩ := HI.out
      obtain ⟨rfl, rfl⟩ : ka = ka' ∧ kcap = kcap' := by simpa using hva
      obtain ⟨g, o, rfl, hcell⟩ := hrow2.2.2 (by omega)
      have ck := hcell k (by simpa using hlt)
      rw [show (ks.map fun (n : Nat) => Value.int .i64 (n : Int)).getD k undef = .int .i64 ((ks.getD k 0 : Nat) : Int) by simp [List.getD_eq_getElem?_getD, hlt]] at ck
      obtain ⟨hzl, hz9⟩ := And.intro (HKL.out.1 k hlt) (HKL.out.2 k hlt)
      have hcall := HW.out k hlt wr hS
      have hfs : foC l ks (k + 1) = if kdS l (ks.getD k 0) = 2 then T l (ks.getD k 0) else if kdS l (ks.getD k 0) = 1 then (if foC l ks k = [] then [42] else foC l ks k) else foC l ks k := rfl
      have hrs : roC l ks (k + 1) = if kdS l (ks.getD k 0) = 2 then roC l ks k else if kdS l (ks.getD k 0) = 1 then roC l ks k else roC l ks k ++ T l (ks.getD k 0) := rfl
      obtain ⟨z, hz⟩ : ∃ z, ks.getD k 0 = z := ⟨_, rfl⟩
      rw [hz] at ck hzl hz9 hcall hfs hrs
      obtain ⟨b, off, rfl, hcs⟩ := hS.at (by omega)
      have cz := (hcs z hzl).kind
      obtain ⟨kz, hkz⟩ : ∃ kz, kdS l z = kz := ⟨_, rfl⟩
      rw [show (l.getD z default).kind = kz from hkz] at cz
      rw [hkz] at hfs hrs
      obtain ⟨t, ht⟩ : ∃ t, bs (T l z) = t := ⟨_, rfl⟩
      rw [ht] at hcall
      have hts : t.size ≤ 9000 := by rw [← ht, bs_size]; exact hz9
      have HC := Lib.hid hcall
      have HT2 := Lib.hid ht
      have HFS := Lib.hid (And.intro hfs hrs)
      have hcat : R.size + t.size ≤ 9223372036854775807 := by omega
      clear hcs hcall ht hfs hrs hz hcell hrow2 hva hS hkz hz9
      by_cases h2 : kz = 2
      · have x2 : (kz == 2) = true := by simp [h2]
        have H2 := Lib.hid h2
        clear h2
        go_wp2_with fail
        refine HC.out.mono ?_
        rintro e w5 ⟨rfl, hb5⟩
        have HB5 := Lib.hid (HB.out.trans (hb5.mono HB.out.size))
        have HI5 := Lib.hid (HI.out.below hb5)
        clear hb5 HC
        go_wp2
        go_roundw
        case rel => exact ⟨k + 1, t, R, by omega, by go_num, rfl, rfl, Lib.hid ⟨by rw [HFS.out.1, if_pos H2.out, HT2.out], by rw [HFS.out.2, if_pos H2.out]; exact HFR.out.2⟩, HB5, HI5⟩
        case measure => simp [intOf]; omega
      · have x2 : (kz == 2) = false := by simp [h2]
        have H2 := Lib.hid h2
        clear h2
        by_cases h1 : kz = 1
        · have x1 : (kz == 1) = true := by simp [h1]
          have H1 := Lib.hid h1
          clear h1
          cases fe : F.toList.isEmpty
          · have HNE := Lib.hid (show foC l ks k ≠ [] from fun e => by
              rw [HFR.out.1, isEmpty_bs, e] at fe
              cases fe)
            go_wp2
            go_roundw
            case rel => exact ⟨k + 1, F, R, by omega, by go_num, rfl, rfl, Lib.hid ⟨by rw [HFS.out.1, if_neg H2.out, if_pos H1.out, if_neg HNE.out]; exact HFR.out.1, by rw [HFS.out.2, if_neg H2.out, if_pos H1.out]; exact HFR.out.2⟩, HB, HI⟩
            case measure => simp [intOf]; omega
          · have HNE := Lib.hid (show foC l ks k = [] by
              rw [HFR.out.1, isEmpty_bs] at fe
              exact List.isEmpty_iff.1 fe)
            go_wp2
            go_roundw
            case rel => exact ⟨k + 1, ⟨#[42]⟩, R, by omega, by go_num, rfl, rfl, Lib.hid ⟨by rw [HFS.out.1, if_neg H2.out, if_pos H1.out, if_pos HNE.out]; rfl, by rw [HFS.out.2, if_neg H2.out, if_pos H1.out]; exact HFR.out.2⟩, HB, HI⟩
            case measure => simp [intOf]; omega
        · have x1 : (kz == 1) = false := by simp [h1]
          have H1 := Lib.hid h1
          clear h1
          go_wp2_with fail
          refine HC.out.mono ?_
          rintro e w5 ⟨rfl, hb5⟩
          have HB5 := Lib.hid (HB.out.trans (hb5.mono HB.out.size))
          have HI5 := Lib.hid (HI.out.below hb5)
          clear hb5 HC
          go_wp2
          go_roundw
          case rel => exact ⟨k + 1, F, R ++ t, by omega, by go_num, rfl, rfl, Lib.hid ⟨by rw [HFS.out.1, if_neg H2.out, if_neg H1.out]; exact HFR.out.1, by rw [HFS.out.2, if_neg H2.out, if_neg H1.out, HFR.out.2, ← HT2.out, bs_append]⟩, HB5, HI5⟩
          case measure => simp [intOf]; omega
    · obtain rfl : k = ks.length := by omega
      obtain ⟨b, off, rfl, hcs⟩ := hS.at (by omega)
      have c3 := (hcs i hi).val
      rw [HVAL.out] at c3
      have c3' : wr.cell? ⟨b, off + i * 8 + 3, none⟩ = some (.string ⟨#[]⟩) := c3
      have hcat : F.size + R.size ≤ 9223372036854775807 := by omega
      have hFR : F ++ R = bs (foC l ks ks.length ++ roC l ks ks.length) := by rw [HFR.out.1, HFR.out.2, bs_append]
      have HFR2 := Lib.hid hFR
      clear hcs c3 hS hFR
      cases fe : (F ++ R).toList.isEmpty
      · have HNE := Lib.hid (show bs (T l i) = F ++ R by
          rw [HFR2.out, isEmpty_bs] at fe
          rw [HEQ.out, if_neg (fun e => by rw [e] at fe; cases fe), HFR2.out])
        go_wp2
        go_ret
        exact ⟨by rw [HNE.out]; rfl, HB.out⟩
      · have HNE := Lib.hid (show bs (T l i) = ⟨#[42]⟩ by
          rw [HFR2.out, isEmpty_bs] at fe
          rw [HEQ.out, if_pos (List.isEmpty_iff.1 fe)]
          rfl)
        go_wp2
        go_ret
        exact ⟨by rw [HNE.out]; rfl, HB.out⟩
end Go.Proofs.YtoanofdomhnafaaGreatDoor
