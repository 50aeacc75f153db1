/- Parts of a proof: PdGrp, PdAll, SpecificP. -/
import Derived.Test.YtoanofdomhnafaaGreatDoorG33
import Derived.Test.YtoanofdomhnafaaGreatDoorG30
import Derived.Deep.LoopGhost
import Derived.Defers
import Derived.Test.YtoanofdomhnafaaGreatDoorG37
set_option linter.unusedVariables false
set_option linter.unusedSimpArgs false
namespace Go.Proofs.YtoanofdomhnafaaGreatDoor
open Go.RowKit
variable {d : Int}
theorem PK.depth {W w : World} {B k : Nat} {s : ByteArray} (h : PK d W w B s k) (d' : Int) : PK d' W (w.setCell ⟨B, 2, none⟩ (.int .i64 d')) B s k :=
  ⟨World.objAt.set h.prs 2 _, World.objAt.setKeep h.prs 2 _ h.keep (Nat.le_refl _)⟩
/-- The parser, and the box that holds its address. -/
structure GK (d : Int) (W w : World) (B P : Nat) (s : ByteArray) (k : Nat) : Prop where
  pk : PK d W w B s k
  box : World.objAt w P #[.pointer (some ⟨B, 0, none⟩)] 48
  lt : B < P
  at_ : P = W.heap.size
section
variable {W w : World} {B P k : Nat} {s : ByteArray}
theorem GK.start (h : Prs d W B s k) : GK d W (W.alloc (.cells #[.pointer (some ⟨B, 0, none⟩)] 48)) B W.heap.size s k :=
  ⟨(PK.start h).alloc _, objAt_alloc_new _ _ _, World.objAt.lt h, rfl⟩
theorem GK.drew (h : GK d W w B P s k) (q : Nat) : GK d W (w.drewN q) B P s k :=
  ⟨h.pk.drew q, by have := h.box; unfold World.objAt at this ⊢; rw [World.heap_drewN]; exact this, h.lt, h.at_⟩
theorem GK.at (h : GK d W w B P s k) (m : Nat) : GK d W (w.setCell ⟨B, 1, none⟩ (.int .i64 (m : Int))) B P s m :=
  ⟨h.pk.at m, objAt_off h.box ⟨B, 1, none⟩ (by have := h.lt; show P ≠ B; omega) _, h.lt, h.at_⟩
theorem GK.depth (h : GK d W w B P s k) (d' : Int) : GK d' W (w.setCell ⟨B, 2, none⟩ (.int .i64 d')) B P s k :=
  ⟨h.pk.depth d', objAt_off h.box ⟨B, 2, none⟩ (by have := h.lt; show P ≠ B; omega) _, h.lt, h.at_⟩
theorem GK.to (h : GK d W w B P s k) {w' : World} {k' : Nat} (hp : Prs d w' B s k') (hk : Keep B w w') : GK d W w' B P s k' :=
  ⟨h.pk.to hp hk, World.objAt.keep h.box hk h.lt, h.lt, h.at_⟩
theorem GK.alloc (h : GK d W w B P s k) (o : Obj) : GK d W (w.alloc o) B P s k :=
  ⟨h.pk.alloc o, World.objAt.below h.box ((Below.refl w.heap.size w).alloc (Nat.le_refl _) o) (World.objAt.lt h.box), h.lt, h.at_⟩
theorem GK.grown {w1 : World} {n : Nat} {v : Value} {vs : List Value} (h : GK d W w B P s k) (ho : w.ownsRow (P + 1) 36 1 v n vs) (hg : w.grownBy w1 v.ownBlock) : GK d W w1 B P s k := by
  have hr : ∀ q, v.ownBlock = some q → P + 1 ≤ q := fun q hq => (World.ownsRow.lt ho q hq).1
  have hlt := World.objAt.lt h.pk.prs
  have hsz := h.pk.keep.below.size
  have hBP := h.lt
  have hat := h.at_
  refine ⟨⟨?_, ⟨h.pk.keep.below.grown hg (Nat.le_of_lt hlt) (fun q hq => by have := hr q hq; omega), fun b h1 h2 => ?_⟩⟩, ?_, hBP, hat⟩
  · have hp := h.pk.prs
    unfold Prs World.objAt at hp ⊢
    rw [hg.block B hlt (fun e => by have := hr B e.symm; omega)]
    exact hp
  · exact (hg.block b (Nat.lt_of_lt_of_le h2 hsz) (fun e => by have := hr b e.symm; omega)).trans (h.pk.keep.rest b h1 h2)
  · have hb := h.box
    have hlb := World.objAt.lt h.box
    unfold World.objAt at hb ⊢
    rw [hg.block P hlb (fun e => by have := hr P e.symm; omega)]
    exact hb
theorem GK.size (h : GK d W w B P s k) : P + 1 ≤ w.heap.size := World.objAt.lt h.box
end
/-- A row of one. -/
theorem RowS.one {w : World} {L : Nat} {v : Value} {f : Nat → Tri} {F : Nat → Prop} (h : SelSem w F v (f 0)) (hF : ∀ b, F b → L ≤ b) (hL : L ≤ w.heap.size) :
    RowS (w.alloc (.cells #[v] 36)) L (.slice (some ⟨w.heap.size, 0, none⟩) 1 1) 1 [v] f := by
  refine ⟨⟨rfl, .inr ⟨w.heap.size, 1, #[v], rfl, hL, heap_alloc_new w _, Nat.le_refl _, by unfold maxLen; omega, rfl, rfl⟩⟩, fun j hj => ?_⟩
  obtain rfl : j = 0 := by omega
  refine ⟨F, h.below ((Below.refl _ _).alloc (Nat.le_refl _) _), fun b hb => ⟨hF b hb, fun e => ?_⟩⟩
  have h1 := h.1 b hb
  have h2 : b = w.heap.size := Option.some.inj e
  omega
/-- When the group's reading leaves: the depth goes down. -/
theorem grp_leaves {B P : Nat} {d d1 : Int} (hd : d1 - 1 = d) (h0 : 0 ≤ d) (h1 : d ≤ 1000) (u : FrameMode) (w : World) (cb : w.cell? ⟨P, 0, none⟩ = some (.pointer (some ⟨B, 0, none⟩))) (cd : w.cell? ⟨B, 2, none⟩ = some (.int .i64 d1)) (cf : w.frozen? ⟨B, 2, none⟩ = false) :
    CallsD Tryz.prog 65 #[.pointer (some ⟨P, 0, none⟩)] u w fun e u' w' => u' = u ∧ (e = .returned (.tuple #[]) ∧ w' = w.setCell ⟨B, 2, none⟩ (.int .i64 d)) := by
  go_enter_d Tryz.func65, Tryz.ntmps65
  go_wp2
  go_end0
  exact ⟨rfl, rfl⟩
set_option maxRecDepth 100000 in
set_option maxHeartbeats 800000000 in
theorem grpRun (s : ByteArray) (B i n : Nat) (d1 : Int) (jp : Nat → Nat) (f : Nat → Tri) (w : World) (hs : s.size ≤ 9000) (h : Prs d w B s i) (h0 : 0 ≤ d) (h1000 : d ≤ 1000) (hd1 : d + 1 = d1) (hn : n ≤ 60)
    (hfst : ∀ w', Prs d1 w' B s i → Calls Tryz.prog 22 #[.pointer (some ⟨B, 0, none⟩)] w' (SelRead d1 s B (jp 0) (f 0) w'))
    (hnxt : ∀ m, m < n → nx s (jp m) = 44 ∧ jp m < s.size ∧ ∀ w', Prs d1 w' B s (jp m + 1) → Calls Tryz.prog 22 #[.pointer (some ⟨B, 0, none⟩)] w' (SelRead d1 s B (jp (m + 1)) (f (m + 1)) w'))
    (hend : s.size = jp n ∨ (jp n < s.size ∧ nx s (jp n) = 41)) :
    Calls Tryz.prog 56 #[.pointer (some ⟨B, 0, none⟩)] w (GrpRead (GrpR (n + 1) f) d s B (jp n) w) := by
  have hmf : ∀ (fn : Fn) (first cap : Array Value) (w : World), (Instr.makeFunc fn first cap).run Tryz.prog w = .ok (.func fn first cap) w := fun _ _ _ _ => rfl
  obtain ⟨i0, hinf, hz0, hz1, hz2⟩ := info_parts Tryz.infoSel
  have hg0 := GK.start h
  obtain ⟨w0, hw0⟩ : ∃ w0, w.alloc (.cells #[.pointer (some ⟨B, 0, none⟩)] 48) = w0 := ⟨_, rfl⟩
  obtain ⟨P, hP⟩ : ∃ P, w.heap.size = P := ⟨_, rfl⟩
  rw [hw0] at hg0
  rw [hP] at hg0
  have HG0 := Lib.hid hg0
  have HFST := Lib.hid hfst
  have HNXT := Lib.hid hnxt
  have HE := Lib.hid hend
  have gd : decide (1000 < d) = false := by simp; omega
  clear hg0 h hfst hnxt hend
  have b0 : w0.cell? ⟨P, 0, none⟩ = some (.pointer (some ⟨B, 0, none⟩)) := World.objAt.cell HG0.out.box (i := 0) rfl
  have c2 : w0.cell? ⟨B, 2, none⟩ = some (.int .i64 d) := World.objAt.cell HG0.out.pk.prs (i := 2) rfl
  have f2 : w0.frozen? ⟨B, 2, none⟩ = false := World.objAt.free HG0.out.pk.prs 2
  go_enter_defers Tryz.func56, Tryz.ntmps56
  go_wp2_with fail
  have HG1 := Lib.hid (HG0.out.depth d1)
  clear b0 c2 f2 HG0
  refine (HFST.out _ HG1.out.pk.prs).mono ?_
  rintro e w2 ⟨T, x9, F, rfl, hp2, hk2, HS2⟩
  have HG2 := Lib.hid (HG1.out.to hp2.out hk2.out)
  have hF2 : ∀ b, F b → P + 1 ≤ b := fun b hb => Nat.le_trans HG1.out.size (HS2.out.2 b hb)
  have hs2 := HG2.out.size
  have HR2 := Lib.hid (RowS.one (f := f) HS2.out.1 hF2 hs2)
  have HG3 := Lib.hid (HG2.out.alloc (.cells #[.iface T x9] 36))
  clear HFST HG1 HG2 HS2 hp2 hk2 hF2 hw0
  go_wp2
  obtain ⟨w3, hw3⟩ : ∃ w3, w2.alloc (.cells #[.iface T x9] 36) = w3 := ⟨_, rfl⟩
  rw [hw3] at HG3 HR2 ⊢
  clear hw3
  go_loopg [6] n (fun gk v wr => ∃ (m : Nat) (vs : List Value), gk + m = n ∧ Hid (GK d1 w wr B P s (jp m)) ∧ Hid (RowS wr (P + 1) v (m + 1) vs f))
  case atStart => exact ⟨0, _, by omega, HG3, HR2⟩
  case round =>
    clear HG3 HR2
    obtain ⟨m, vs, hgm, HG, HR⟩ := hrel
    obtain ⟨p, hp⟩ : ∃ p, jp m = p := ⟨_, rfl⟩
    rw [hp] at HG
    by_cases hlt : m < n
    · obtain ⟨h44, hpl, hsel⟩ := HNXT.out m hlt
      rw [hp] at h44 hpl hsel
      obtain ⟨q, hq⟩ : ∃ q, p + 1 = q := ⟨_, rfl⟩
      have hqI : (p : Int) + 1 = (q : Int) := by omega
      rw [hq] at hsel
      have HSEL := Lib.hid hsel
      have g0 : decide ((p : Int) < (s.size : Int)) = true := by simp; omega
      have g0n : decide (p < s.size) = true := by simp; omega
      obtain ⟨x, hx⟩ : ∃ x, (s[p].toNat : Int) = x := ⟨_, rfl⟩
      rw [nx_lt hpl, hx] at h44
      have e1 : (x != 44) = false := by rw [h44]; rfl
      have e2 : (x == 44) = true := by rw [h44]; rfl
      clear h44 hsel
      have b0 : wr.cell? ⟨P, 0, none⟩ = some (.pointer (some ⟨B, 0, none⟩)) := World.objAt.cell HG.out.box (i := 0) rfl
      have c0 : wr.cell? ⟨B, 0, none⟩ = some (.string s) := World.objAt.cell HG.out.pk.prs (i := 0) rfl
      have c1 : wr.cell? ⟨B, 1, none⟩ = some (.int .i64 ((p : Nat) : Int)) := World.objAt.cell HG.out.pk.prs (i := 1) rfl
      go_wp2
      go_quiet (fail)
      obtain ⟨w4, hwq⟩ : ∃ w4, (wr.drewN nq) = w4 := ⟨_, rfl⟩
      have HG4 := Lib.hid (show GK d1 w w4 B P s p by rw [← hwq]; exact HG.out.drew nq)
      have HR4 := Lib.hid (show RowS w4 (P + 1) u6 (m + 1) vs f by rw [← hwq]; exact HR.out.drew nq)
      rw [hwq]
      clear hwq HG nq HR b0 c0 c1
      have b0 : w4.cell? ⟨P, 0, none⟩ = some (.pointer (some ⟨B, 0, none⟩)) := World.objAt.cell HG4.out.box (i := 0) rfl
      have c0 : w4.cell? ⟨B, 0, none⟩ = some (.string s) := World.objAt.cell HG4.out.pk.prs (i := 0) rfl
      have c1 : w4.cell? ⟨B, 1, none⟩ = some (.int .i64 ((p : Nat) : Int)) := World.objAt.cell HG4.out.pk.prs (i := 1) rfl
      go_wp2
      go_quiet (fail)
      obtain ⟨w5, hwq⟩ : ∃ w5, (w4.drewN nq) = w5 := ⟨_, rfl⟩
      have HG5 := Lib.hid (show GK d1 w w5 B P s p by rw [← hwq]; exact HG4.out.drew nq)
      have HR5 := Lib.hid (show RowS w5 (P + 1) u6 (m + 1) vs f by rw [← hwq]; exact HR4.out.drew nq)
      rw [hwq]
      clear hwq HG4 nq HR4 b0 c0 c1
      have b0 : w5.cell? ⟨P, 0, none⟩ = some (.pointer (some ⟨B, 0, none⟩)) := World.objAt.cell HG5.out.box (i := 0) rfl
      have c0 : w5.cell? ⟨B, 0, none⟩ = some (.string s) := World.objAt.cell HG5.out.pk.prs (i := 0) rfl
      have c1 : w5.cell? ⟨B, 1, none⟩ = some (.int .i64 ((p : Nat) : Int)) := World.objAt.cell HG5.out.pk.prs (i := 1) rfl
      have f1 : w5.frozen? ⟨B, 1, none⟩ = false := World.objAt.free HG5.out.pk.prs 1
      go_wp2_with fail
      have HG6 := Lib.hid (HG5.out.at q)
      have HR6 := Lib.hid (HR5.out.keep (World.objAt.setKeep HG5.out.pk.prs 1 (.int .i64 (q : Int)) (Keep.refl B w5) (Nat.le_refl _)) (by have := HG5.out.lt; omega))
      clear HG5 HR5 b0 c0 c1 f1
      refine (HSEL.out _ HG6.out.pk.prs).mono ?_
      rintro e w7 ⟨T2, x8, F2, rfl, hp7, hk7, HS7⟩
      have HG7 := Lib.hid (HG6.out.to hp7.out hk7.out)
      have HR7 := Lib.hid (HR6.out.keep hk7.out (by have := HG6.out.lt; omega))
      have hF7 : ∀ b, F2 b → P + 1 ≤ b ∧ some b ≠ u6.ownBlock := fun b hb => by
        have h1 := HS7.out.2 b hb
        have h2 := HG6.out.size
        refine ⟨by omega, fun e => ?_⟩
        have h3 := World.ownsRow.lt HR6.out.own b e.symm
        omega
      have HF7 := Lib.hid hF7
      have hs7 := HG7.out.size
      clear HG6 HR6 hp7 hk7 HSEL hF7
      go_wp2_with (at_builtin; (refine wpList_append_own_at _ rfl _ _ 96 rfl (P + 1) 36 i0 .nilIface 1 16 Tryz.underlying96 hinf hz0 hz1 hz2 rfl (by decide) _ _ _ rfl (HR7.out.alloc _).own ⟨w7.heap.size, 0, none⟩ 1 1 [(.iface T2 x8)] rfl rfl (cell_one_new _ _ _) ?c2 ?c3 ?c4 ?c5 ?_))
      case c2 => intro u hu; simp at hu; subst hu; rfl
      case c3 => unfold maxLen; omega
      case c4 => omega
      case c5 => simp; omega
      intro v' w8 hown hgrow _ hat
      have hal : Below w7.heap.size w7 (w7.alloc (.cells #[.iface T2 x8] 36)) := (Below.refl _ _).alloc (Nat.le_refl _) _
      have hrow := RowS.snoc (HR7.out.alloc _) (HS7.out.1.below hal) HF7.out hown hgrow (by simpa using hat)
      have HG8 := Lib.hid ((HG7.out.alloc _).grown (HR7.out.alloc _).own hgrow)
      have HR8 := Lib.hid hrow
      clear hown hgrow hat hal hrow HG7 HR7 HS7 HF7
      go_wp2
      go_roundg (n - (m + 1))
      case rel => exact ⟨m + 1, _, by omega, HG8, HR8⟩
      case measure => omega
    · obtain rfl : m = n := by omega
      have hend := HE.out
      rw [hp] at hend
      rcases hend with hend | ⟨hend, h41⟩
      · have g0 : decide ((p : Int) < (s.size : Int)) = false := by simp; omega
        have g0n : decide (p < s.size) = false := by simp; omega
        clear hend
        have b0 : wr.cell? ⟨P, 0, none⟩ = some (.pointer (some ⟨B, 0, none⟩)) := World.objAt.cell HG.out.box (i := 0) rfl
        have c0 : wr.cell? ⟨B, 0, none⟩ = some (.string s) := World.objAt.cell HG.out.pk.prs (i := 0) rfl
        have c1 : wr.cell? ⟨B, 1, none⟩ = some (.int .i64 ((p : Nat) : Int)) := World.objAt.cell HG.out.pk.prs (i := 1) rfl
        go_wp2
        go_quiet (fail)
        obtain ⟨w4, hwq⟩ : ∃ w4, (wr.drewN nq) = w4 := ⟨_, rfl⟩
        have HG4 := Lib.hid (show GK d1 w w4 B P s p by rw [← hwq]; exact HG.out.drew nq)
        have HR4 := Lib.hid (show RowS w4 (P + 1) u6 (m + 1) vs f by rw [← hwq]; exact HR.out.drew nq)
        rw [hwq]
        clear hwq HG nq HR b0 c0 c1
        have b0 : w4.cell? ⟨P, 0, none⟩ = some (.pointer (some ⟨B, 0, none⟩)) := World.objAt.cell HG4.out.box (i := 0) rfl
        have c0 : w4.cell? ⟨B, 0, none⟩ = some (.string s) := World.objAt.cell HG4.out.pk.prs (i := 0) rfl
        have c1 : w4.cell? ⟨B, 1, none⟩ = some (.int .i64 ((p : Nat) : Int)) := World.objAt.cell HG4.out.pk.prs (i := 1) rfl
        go_wp2
        obtain ⟨A, c, rfl, hLA, hA, hcl⟩ := HR4.out.cells (by omega)
        refine leaves_cons (f := 65) (args := #[.pointer (some ⟨P, 0, none⟩)]) (by simp) (by simp [go_sem]) ?_
        refine (grp_leaves (B := B) (P := P) (d := d) (d1 := d1) (by omega) h0 h1000 .returning _ (World.objAt.cell HG4.out.box (i := 0) rfl) (World.objAt.cell HG4.out.pk.prs (i := 2) rfl) (World.objAt.free HG4.out.pk.prs 2)).mono ?_
        rintro e u' w9 ⟨rfl, rfl, rfl⟩
        have HG9 := HG4.out.depth d
        have HK9 : Keep B w4 (w4.setCell ⟨B, 2, none⟩ (.int .i64 d)) := World.objAt.setKeep HG4.out.pk.prs 2 (.int .i64 d) (Keep.refl B w4) (Nat.le_refl _)
        have HR9 := HR4.out.keep HK9 (by have := HG9.lt; omega)
        obtain ⟨A', c', hAc, hLA', hA', hcl'⟩ := HR9.cells (by omega)
        obtain ⟨rfl, rfl⟩ : A = A' ∧ c = c' := by simpa using hAc
        have hPw := HG9.at_
        refine ⟨_, results_tmp2 rfl _ _ _, A, m + 1, c, rfl, ⟨A, c, fun j => vs.getD j undef, rfl, by omega, hA', hcl', fun j hj => ?_⟩, Lib.hid (by rw [hp]; exact HG9.pk.prs), Lib.hid HG9.pk.keep⟩
        obtain ⟨G, hG, hGb⟩ := HR9.sem j hj
        exact ⟨G, hG, fun b hb => by have := (hGb b hb).1; omega⟩
      · have g0 : decide ((p : Int) < (s.size : Int)) = true := by simp; omega
        have g0n : decide (p < s.size) = true := by simp; omega
        obtain ⟨x, hx⟩ : ∃ x, (s[p].toNat : Int) = x := ⟨_, rfl⟩
        rw [nx_lt hend, hx] at h41
        have e1 : (x != 44) = true := by rw [h41]; rfl
        have e2 : (x == 44) = false := by rw [h41]; rfl
        clear h41
        have b0 : wr.cell? ⟨P, 0, none⟩ = some (.pointer (some ⟨B, 0, none⟩)) := World.objAt.cell HG.out.box (i := 0) rfl
        have c0 : wr.cell? ⟨B, 0, none⟩ = some (.string s) := World.objAt.cell HG.out.pk.prs (i := 0) rfl
        have c1 : wr.cell? ⟨B, 1, none⟩ = some (.int .i64 ((p : Nat) : Int)) := World.objAt.cell HG.out.pk.prs (i := 1) rfl
        go_wp2
        go_quiet (fail)
        obtain ⟨w4, hwq⟩ : ∃ w4, (wr.drewN nq) = w4 := ⟨_, rfl⟩
        have HG4 := Lib.hid (show GK d1 w w4 B P s p by rw [← hwq]; exact HG.out.drew nq)
        have HR4 := Lib.hid (show RowS w4 (P + 1) u6 (m + 1) vs f by rw [← hwq]; exact HR.out.drew nq)
        rw [hwq]
        clear hwq HG nq HR b0 c0 c1
        have b0 : w4.cell? ⟨P, 0, none⟩ = some (.pointer (some ⟨B, 0, none⟩)) := World.objAt.cell HG4.out.box (i := 0) rfl
        have c0 : w4.cell? ⟨B, 0, none⟩ = some (.string s) := World.objAt.cell HG4.out.pk.prs (i := 0) rfl
        have c1 : w4.cell? ⟨B, 1, none⟩ = some (.int .i64 ((p : Nat) : Int)) := World.objAt.cell HG4.out.pk.prs (i := 1) rfl
        go_wp2
        go_quiet (fail)
        obtain ⟨w5, hwq⟩ : ∃ w5, (w4.drewN nq) = w5 := ⟨_, rfl⟩
        have HG5 := Lib.hid (show GK d1 w w5 B P s p by rw [← hwq]; exact HG4.out.drew nq)
        have HR5 := Lib.hid (show RowS w5 (P + 1) u6 (m + 1) vs f by rw [← hwq]; exact HR4.out.drew nq)
        rw [hwq]
        clear hwq HG4 nq HR4 b0 c0 c1
        have b0 : w5.cell? ⟨P, 0, none⟩ = some (.pointer (some ⟨B, 0, none⟩)) := World.objAt.cell HG5.out.box (i := 0) rfl
        have c0 : w5.cell? ⟨B, 0, none⟩ = some (.string s) := World.objAt.cell HG5.out.pk.prs (i := 0) rfl
        have c1 : w5.cell? ⟨B, 1, none⟩ = some (.int .i64 ((p : Nat) : Int)) := World.objAt.cell HG5.out.pk.prs (i := 1) rfl
        go_wp2
        obtain ⟨A, c, rfl, hLA, hA, hcl⟩ := HR5.out.cells (by omega)
        refine leaves_cons (f := 65) (args := #[.pointer (some ⟨P, 0, none⟩)]) (by simp) (by simp [go_sem]) ?_
        refine (grp_leaves (B := B) (P := P) (d := d) (d1 := d1) (by omega) h0 h1000 .returning _ (World.objAt.cell HG5.out.box (i := 0) rfl) (World.objAt.cell HG5.out.pk.prs (i := 2) rfl) (World.objAt.free HG5.out.pk.prs 2)).mono ?_
        rintro e u' w9 ⟨rfl, rfl, rfl⟩
        have HG9 := HG5.out.depth d
        have HK9 : Keep B w5 (w5.setCell ⟨B, 2, none⟩ (.int .i64 d)) := World.objAt.setKeep HG5.out.pk.prs 2 (.int .i64 d) (Keep.refl B w5) (Nat.le_refl _)
        have HR9 := HR5.out.keep HK9 (by have := HG9.lt; omega)
        obtain ⟨A', c', hAc, hLA', hA', hcl'⟩ := HR9.cells (by omega)
        obtain ⟨rfl, rfl⟩ : A = A' ∧ c = c' := by simpa using hAc
        have hPw := HG9.at_
        refine ⟨_, results_tmp2 rfl _ _ _, A, m + 1, c, rfl, ⟨A, c, fun j => vs.getD j undef, rfl, by omega, hA', hcl', fun j hj => ?_⟩, Lib.hid (by rw [hp]; exact HG9.pk.prs), Lib.hid HG9.pk.keep⟩
        obtain ⟨G, hG, hGb⟩ := HR9.sem j hj
        exact ⟨G, hG, fun b hb => by have := (hGb b hb).1; omega⟩
variable {d : Int} {l : List SelD}
theorem SmallGroups.less {s : ByteArray} {B z z' : Nat} (h : SmallGroups l d s B z) (hz : z' ≤ z) : SmallGroups l d s B z' :=
  fun q i a b c e f => h q i a b (Nat.lt_of_lt_of_le c hz) e f
theorem asum_mono (f : Nat → Tri) (m : Nat) : ∀ k, tot (asum f m) ≤ tot (asum f (m + k))
  | 0 => Nat.le_refl _
  | k + 1 => by
    have := asum_mono f m k
    rw [← Nat.add_assoc]
    simp only [asum, tot_add]
    omega
theorem sel_calls (hT : SelTree l) {s : ByteArray} {B q i i0 z : Nat} (hs : s.size ≤ 9000) (hv : ∀ k, (l.getD k default).val.size ≤ 1000) (hq : q < l.length) (hc : Complex (kdS l q)) (h : At s i (T l q)) (hend : EndSel s (i + (T l q).length))
    (hz : i0 + z = i) (hsp : ∀ j, j < z → nx s (i0 + j) = 32) (hG : SmallGroups l d s B (zs l q)) (w : World) (hp : Prs d w B s i0) :
    Calls Tryz.prog 22 #[.pointer (some ⟨B, 0, none⟩)] w (SelRead d s B (i + (T l q).length) (S l q) w) := by
  obtain ⟨n, op, a, jp, hsp2⟩ := spine_at hT hq hc h hend
  obtain ⟨bp, hbp⟩ : ∃ bp : Nat → Nat, bp = fun m => if m = 0 then i else jp (m - 1) + (combL (op (m - 1))).length := ⟨_, rfl⟩
  have hb0 : bp 0 = i := by rw [hbp]; rfl
  have hbs : ∀ m, bp (m + 1) = jp m + (combL (op m)).length := fun m => by rw [hbp]; simp
  have hat : ∀ m, m ≤ n → a m < l.length ∧ Atom (kdS l (a m)) ∧ zs l (a m) ≤ zs l q ∧ At s (bp m) (T l (a m)) ∧ jp m = bp m + (T l (a m)).length := fun m hm => by
    cases m with
    | zero =>
      rw [hb0]
      exact hsp2.head
    | succ m =>
      obtain ⟨_, h2, h3, h4, _, h6, h7⟩ := hsp2.next m (by omega)
      rw [hbs]
      exact ⟨h2, h3, h4, h6, h7⟩
  have hstop : ∀ m, m ≤ n → StopSel s (bp m + (T l (a m)).length) := fun m hm => by
    rw [← (hat m hm).2.2.2.2]
    exact hsp2.stop m hm
  have hspec := hsp2.spec
  have hlast := hsp2.last
  rw [← hlast, hspec]
  have ha9 : ∀ m, m ≤ n → Tri9 (asum (fun m => S l (a m)) m) := fun m hm => tot9 (by
    have h1 := asum_mono (fun m => S l (a m)) m (n - m)
    rw [show m + (n - m) = n by omega, ← hspec] at h1
    have := S_60 hT hq
    omega)
  refine selRun s B i0 z n bp jp (fun m => S l (a m)) w hs hp (by rw [hb0]; exact hz) hsp (fun m hm => ?_) (fun m hm w' hp' => ?_) (fun m hm => ?_) hsp2.ends (hsp2.fit n (Nat.le_refl _)) (fun m hm => S_9 hT (hat m hm).1) ha9
  · obtain ⟨h1, h2, h3, h4, h5⟩ := hat m hm
    obtain ⟨h0, pos, hs2⟩ := seq_at hT h1 h2 h4 (hstop m hm)
    exact hs2.first
  · obtain ⟨h1, h2, h3, h4, h5⟩ := hat m hm
    rw [h5]
    exact seq_calls hT hs hv h1 h2 h4 (hstop m hm) (hG.less h3) w' hp'
  · obtain ⟨h1, _, _, _, h5, _⟩ := hsp2.next m hm
    rw [hbs]
    exact between_of h1 h5
/-- All groups are read. -/
theorem grp_calls (hT : SelTree l) {s : ByteArray} {B : Nat} (hs : s.size ≤ 9000) (hv : ∀ k, (l.getD k default).val.size ≤ 1000) : ∀ (z : Nat) (d : Int), 0 ≤ d → d + z ≤ 1000 → SmallGroups l d s B z
  | 0, d, _, _ => fun q i a b c => absurd c (by omega)
  | z + 1, d, h0, h1 => fun q i hq h23 hz h hend => by
    have ih := grp_calls hT (B := B) hs hv z (d + 1) (by omega) (by omega)
    obtain ⟨n, k, bp, jp, hg⟩ := group_at hT hq h23 h hend.sel
    have hsel : ∀ m i0 z0, m ≤ n → i0 + z0 = bp m → (∀ j, j < z0 → nx s (i0 + j) = 32) → ∀ w', Prs (d + 1) w' B s i0 → Calls Tryz.prog 22 #[.pointer (some ⟨B, 0, none⟩)] w' (SelRead (d + 1) s B (jp m) (S l (k m)) w') := fun m i0 z0 hm hz0 hsp w' hp' => by
      obtain ⟨k1, k2, k3, k4, k5, k6⟩ := hg.at_ m hm
      rw [k5] at k6 ⊢
      exact sel_calls hT hs hv k1 k2 k4 k6 hz0 hsp (ih.less (by omega)) w' hp'
    refine ⟨n + 1, fun m => S l (k m), by have := hg.few; omega, hg.spec, fun w hp => ?_⟩
    rw [← hg.last] at hend ⊢
    refine grpRun s B i n (d + 1) jp (fun m => S l (k m)) w hs hp h0 (by omega) rfl hg.few (fun w' hp' => hsel 0 i 0 (by omega) (by rw [hg.first]; rfl) (fun j hj => absurd hj (by omega)) w' hp') (fun m hm => ?_) hend
    obtain ⟨g1, g2, g3, g4⟩ := hg.next m hm
    exact ⟨g2, by omega, fun w' hp' => hsel (m + 1) (jp m + 1) 1 (by omega) (by rw [g1]) (fun j hj => by rw [show jp m + 1 + j = jp m + 1 by omega]; exact g3) w' hp'⟩
variable {l : List SelD}
/-- What cascadia.Parse answers. -/
def ParsePost (t : Tri) (w : World) (e : Ending) (w' : World) : Prop := ∃ T v F, e = .returned (.tuple #[.iface T v, .nilIface]) ∧ Hid (Below w.heap.size w w') ∧ Hid (SelSem w' F (.iface T v) t)
set_option maxRecDepth 100000 in
set_option maxHeartbeats 8000000 in
theorem parse_of (s : ByteArray) (t : Tri) (w : World) (hs : s.size ≤ 9000)
    (hsel : ∀ B w', Prs 0 w' B s 0 → Calls Tryz.prog 22 #[.pointer (some ⟨B, 0, none⟩)] w' (SelRead 0 s B s.size t w')) :
    Calls Tryz.prog 15 #[.string s] w (ParsePost t w) := by
  have hp := prs_new w s
  have hb0 : Below w.heap.size w (w.alloc (.cells #[.string s, .int .i64 0, .int .i64 0, .bool false] 50)) := (Below.refl _ _).alloc (Nat.le_refl _) _
  obtain ⟨w0, hw0⟩ : ∃ w0, w.alloc (.cells #[.string s, .int .i64 0, .int .i64 0, .bool false] 50) = w0 := ⟨_, rfl⟩
  rw [hw0] at hp hb0
  obtain ⟨B, hB⟩ : ∃ B, w.heap.size = B := ⟨_, rfl⟩
  rw [hB] at hp
  have HP := Lib.hid hp
  have HB := Lib.hid hb0
  have HS := Lib.hid (hsel B w0 hp)
  clear hp hb0 hsel
  go_enter Tryz.func15, Tryz.ntmps15
  go_wp2_with fail
  refine HS.out.mono ?_
  rintro e w1 ⟨T, v, F, rfl, hp1, hk1, hsem⟩
  have c1 : w1.cell? ⟨B, 1, none⟩ = some (.int .i64 (s.size : Int)) := World.objAt.cell hp1.out (i := 1) rfl
  have HB1 := Lib.hid (HB.out.trans (hk1.out.below.mono (show w.heap.size ≤ B by omega)))
  have HSEM := Lib.hid hsem.out.1
  clear HP HB HS hw0 hp1 hk1 hsem
  go_wp2
  go_ret2
  exact ⟨T, v, F, rfl, HB1, HSEM⟩
/-- What impl.Specific answers. -/
def SpecificPost (t : Tri) (w : World) (e : Ending) (w' : World) : Prop := e = .returned (.tuple #[triV t, .bool true]) ∧ Hid (Below w.heap.size w w')
set_option maxRecDepth 100000 in
set_option maxHeartbeats 8000000 in
theorem specific_of (s : ByteArray) (t : Tri) (w : World) (hp : ∀ w', Calls Tryz.prog 15 #[.string s] w' (ParsePost t w')) :
    Calls Tryz.prog 8 #[.string s] w (SpecificPost t w) := by
  have h0 := objAt_alloc_new w #[.int .i64 0, .int .i64 0, .int .i64 0] 28
  have hb0 : Below w.heap.size w (w.alloc (.cells #[.int .i64 0, .int .i64 0, .int .i64 0] 28)) := (Below.refl _ _).alloc (Nat.le_refl _) _
  obtain ⟨w0, hw0⟩ : ∃ w0, w.alloc (.cells #[.int .i64 0, .int .i64 0, .int .i64 0] 28) = w0 := ⟨_, rfl⟩
  rw [hw0] at h0 hb0
  obtain ⟨S, hS⟩ : ∃ S, w.heap.size = S := ⟨_, rfl⟩
  rw [hS] at h0
  have H0 := Lib.hid (And.intro h0 hb0)
  have HP := Lib.hid (hp w0)
  clear h0 hb0 hp
  go_enter Tryz.func8, Tryz.ntmps8
  go_wp2_with fail
  refine HP.out.mono ?_
  rintro e w1 ⟨T, v, F, rfl, hb1, hsem⟩
  have h1 := World.objAt.below H0.out.1 hb1.out (World.objAt.lt H0.out.1)
  have HB1 := Lib.hid (H0.out.2.trans (hb1.out.mono H0.out.2.size))
  have H1 := Lib.hid h1
  obtain ⟨hF, T2, x, K, y, hv, hm, hne, hc⟩ := hsem.out
  obtain ⟨rfl, rfl⟩ : T = T2 ∧ v = x := by simpa using hv
  have HC := Lib.hid hc
  clear h1 hc hF hv hsem hb1 H0 HP hw0
  go_wp2_with fail
  refine (HC.out w1 (fun b _ => rfl)).mono ?_
  rintro e w2 ⟨rfl, hb2⟩
  have h2 := World.objAt.below H1.out hb2.out (World.objAt.lt H1.out)
  have HB2 := Lib.hid (HB1.out.trans (hb2.out.mono HB1.out.size))
  have H2 := Lib.hid h2
  obtain ⟨t0, t1, t2⟩ := t
  unfold triV
  have m0 : w2.frozen? ⟨S, 0, none⟩ = false := World.objAt.free h2 0
  have m1 : w2.frozen? ⟨S, 1, none⟩ = false := World.objAt.free h2 1
  have m2 : w2.frozen? ⟨S, 2, none⟩ = false := World.objAt.free h2 2
  have r0 : w2.cell? ⟨S, 0, none⟩ = some (.int .i64 0) := World.objAt.cell h2 (i := 0) rfl
  have r1 : w2.cell? ⟨S, 1, none⟩ = some (.int .i64 0) := World.objAt.cell h2 (i := 1) rfl
  have r2 : w2.cell? ⟨S, 2, none⟩ = some (.int .i64 0) := World.objAt.cell h2 (i := 2) rfl
  clear h2 HC H1 hb2 hm hne
  go_wp2
  refine bodyPost_ret (v := .tuple #[triV (t0, t1, t2), .bool true]) ?_ rfl ?_
  · rw [results_cell_tmp rfl]
    go_simp
    rfl
  · have hq : w.heap.size ≤ S := by omega
    exact ⟨rfl, Lib.hid (((HB2.out.setCell (p := ⟨S, 0, none⟩) hq _).setCell (p := ⟨S, 1, none⟩) hq _).setCell (p := ⟨S, 2, none⟩) hq _)⟩
/-- The selector that the law asks of: the node 0, or its only kid. -/
theorem specific_calls (hT : SelTree l) {s : ByteArray} (hs : s = bs (T l 0)) (h9 : (T l 0).length ≤ 9000) (hv : ∀ k, (l.getD k default).val.size ≤ 1000) (h1 : kdS l 0 = 23 → (kidsS l 0).length = 1) (w : World) :
    Calls Tryz.prog 8 #[.string s] w (SpecificPost (S l 0) w) := by
  have hpos := hT.pos
  obtain ⟨q, hq, hc, hTq, hSq⟩ : ∃ q, q < l.length ∧ Complex (kdS l q) ∧ T l q = T l 0 ∧ S l q = S l 0 := by
    rcases hT.top with h23 | hc
    · have hk := h1 h23
      obtain ⟨k, hks⟩ := List.length_eq_one_iff.1 hk
      have hkid := hT.kid hpos (k := k) (by rw [hks]; simp)
      have hg := (hT.shape 0 hpos).group h23
      refine ⟨k, hkid.1, hg.2 k (by rw [hks]; simp), ?_, ?_⟩
      · rw [T_group hT hpos h23, hks]
        rfl
      · rw [S_max hT hpos (.inr (.inr (.inr h23))), hks]
        simp [triMax_zero]
    · exact ⟨0, hpos, hc, rfl, rfl⟩
  rw [← hTq] at hs h9
  rw [← hSq]
  have hsz : s.size = (T l q).length := by rw [hs, bs_size]
  have hAt : At s 0 (T l q) := ⟨[], [], by rw [hs]; simp, rfl⟩
  have hz60 := hT.zle hq
  refine specific_of s (S l q) w fun w1 => parse_of s (S l q) w1 (by omega) fun B w' hp => ?_
  have := sel_calls (d := 0) (B := B) (z := 0) hT (by omega) hv hq hc hAt (.inl (by omega)) (by omega) (fun j hj => absurd hj (by omega)) (grp_calls hT (by omega) hv (zs l q) 0 (by omega) (by omega)) w' hp
  rw [Nat.zero_add, ← hsz] at this
  exact this
end Go.Proofs.YtoanofdomhnafaaGreatDoor
