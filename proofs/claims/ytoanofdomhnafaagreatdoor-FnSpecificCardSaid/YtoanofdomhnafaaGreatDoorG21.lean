/- Parts of a proof: PdIdent, PdPair, PdOne, PdInt. -/
import Derived.Test.YtoanofdomhnafaaGreatDoorG17
import Derived.Test.YtoanofdomhnafaaGreatDoorG03
import Derived.Test.YtoanofdomhnafaaGreatDoorG20
import Derived.Test.YtoanofdomhnafaaGreatDoorG00
set_option linter.unusedVariables false
set_option linter.unusedSimpArgs false
namespace Go.Proofs.YtoanofdomhnafaaGreatDoor
open Go.RowKit
variable {d : Int}
/-- What is read: a name that ends at j. -/
def IdPost (d : Int) (s : ByteArray) (B m : Nat) (out : ByteArray) (j : Nat) (w : World) (e : Ending) (w' : World) : Prop :=
  ∃ z, e = .returned (.tuple #[.string z, .nilIface]) ∧ (m = 0 → z = out) ∧ z.size ≤ 40000 ∧ Hid (Prs d w' B s j) ∧ Hid (Keep B w w')
theorem pn_sizeA (s : ByteArray) : ∀ (m i j : Nat) (o out : ByteArray), s.size - i ≤ m → pn s i o = some (out, j) → out.size ≤ o.size + 4 * (s.size - i)
  | 0, i, j, o, out, hm, h => by
    rw [pn_end (by omega)] at h
    simp at h
    rw [← h.1]; omega
  | m + 1, i, j, o, out, hm, h => by
    rw [pn] at h
    split at h
    · rename_i hi
      split at h
      · have := pn_sizeA s m _ _ _ _ (by omega) h
        rw [ByteArray.size_append, ByteArray.size_extract] at this
        omega
      · split at h
        · split at h
          · cases h
          · rename_i a j' he
            have h1 := esc_lt he
            have h2 := esc_size he
            have := pn_sizeA s m _ _ _ _ (by omega) h
            rw [ByteArray.size_append] at this
            omega
        · simp at h
          rw [← h.1]; omega
    · simp at h
      rw [← h.1]; omega
theorem nameStart_is {n : Int} {b : Bool} (h : isNs n = b) (w : World) : Calls Tryz.prog 61 #[.int .u8 n] w (IsBool b w) := by
  subst h
  have H : Calls Tryz.prog 61 #[.int .u8 n] w (SomeBool (fun b => b = isNs n) w) := by
    go_enter Tryz.func61, Tryz.ntmps61
    go_wp2
    all_goals go_ret
    all_goals refine ⟨_, ?_, rfl, rfl⟩
    all_goals (show _ = _; rw [Bool.eq_iff_iff]; simp [isNs]; try omega)
  exact H.mono fun e w' ⟨b', h', he, hw⟩ => ⟨by rw [he, h'], hw.symm⟩
set_option maxRecDepth 100000 in
set_option maxHeartbeats 8000000 in
theorem parseIdentA (s : ByteArray) (B i m : Nat) (out : ByteArray) (j : Nat) (w : World) (hs : s.size ≤ 9000) (hm1 : m ≤ 1) (h : Prs d w B s i) (hy : HyphA s i m) (hst : startA s (i + m)) (hpn : pn s (i + m) ByteArray.empty = some (out, j)) (hne : out ≠ ByteArray.empty) :
    Calls Tryz.prog 51 #[.pointer (some ⟨B, 0, none⟩)] w (IdPost d s B m out j w) := by
  have HW := Lib.hid h
  have HY := Lib.hid hy
  have HST := Lib.hid hst
  have HPN := Lib.hid (And.intro hpn hne)
  have hms := hy.1
  have hils := hst.1
  clear h hy hst hpn hne
  go_enter Tryz.func51, Tryz.ntmps51
  go_wp2
  go_loopw [4] (fun n wr => ∃ k : Nat, n = .int .i64 (k : Int) ∧ k ≤ m ∧ Hid (Prs d wr B s (i + k)) ∧ Hid (Keep B w wr)) (fun n _ => m - (intOf n).toNat)
  case atStart => exact ⟨0, by go_num, by omega, HW, Lib.hid (Keep.refl _ _)⟩
  case round =>
    obtain ⟨k, rfl, hk, HP, HB⟩ := hrel
    have hp := HP.out
    have c0 : wr.cell? ⟨B, 0, none⟩ = some (.string s) := World.objAt.cell hp (i := 0) rfl
    have c1 : wr.cell? ⟨B, 1, none⟩ = some (.int .i64 ((i + k : Nat) : Int)) := World.objAt.cell hp (i := 1) rfl
    have f1 : wr.frozen? ⟨B, 1, none⟩ = false := World.objAt.free hp 1
    clear hp
    obtain ⟨p, hpk⟩ : ∃ p, i + k = p := ⟨_, rfl⟩
    rw [hpk] at c1 HP
    have hlt : p < s.size := by omega
    have g0 : decide ((p : Int) < (s.size : Int)) = true := by simp [hlt]
    have g0n : decide (p < s.size) = true := by simp [hlt]
    have gle : decide ((s.size : Int) ≤ (p : Int)) = false := by simp; omega
    obtain ⟨x, hx⟩ : ∃ x, (s[p].toNat : Int) = x := ⟨_, rfl⟩
    have hxn : nx s p = x := by rw [nx_lt hlt, hx]
    by_cases hkm : k < m
    · have h45 : x = 45 := by rw [← hxn, ← hpk]; exact HY.out.2.1 k hkm
      have g1 : (x == 45) = true := by simp [h45]
      have HPK := Lib.hid hpk
      clear h45 hxn hpk
      go_wp2_with fail
      go_quiet (fail)
      go_wp2_with fail
      refine ⟨?rel, ?measure⟩
      case rel => exact ⟨k + 1, by go_num, by omega, Lib.hid (by have h5 := (HP.out.drew nq).at (p + 1); rw [← HPK.out] at h5 ⊢; exact h5), Lib.hid (World.objAt.setKeep (HP.out.drew _) 1 _ (keep_drewN HB.out _) (Nat.le_refl _))⟩
      case measure => simp [intOf]; omega
    · obtain rfl : k = m := by omega
      have hx45 : x ≠ 45 := by rw [← hxn, ← hpk]; exact HY.out.2.2
      have g1 : (x == 45) = false := by simp [hx45]
      have hst2 : isNs x = true ∨ x = 92 := by rw [← hxn, ← hpk]; exact HST.out.2
      obtain ⟨b, hbs⟩ : ∃ b, isNs x = b := ⟨_, rfl⟩
      have HBS := Lib.hid hbs
      obtain ⟨b2, hb2⟩ : ∃ b2, (x == 92) = b2 := ⟨_, rfl⟩
      have hor : b = true ∨ b2 = true := by
        rcases hst2 with h | h
        · left; rw [← hbs]; exact h
        · right; rw [← hb2]; simp [h]
      have HPNp := HPN.out
      rw [hpk] at HPNp
      have HPQ := Lib.hid HPNp
      have HPK := Lib.hid hpk
      clear hst2 hbs hx45 hxn hpk HPNp
      go_wp2_with fail
      go_quiet (fail)
      go_wp2_with fail
      obtain ⟨wz, hwz⟩ : ∃ wz, wr.drewN nq = wz := ⟨_, rfl⟩
      have hrz : Prs d wz B s p := by rw [← hwz]; exact HP.out.drew _
      have hbz : Keep B w wz := by rw [← hwz]; exact keep_drewN HB.out _
      rw [hwz]
      clear hwz c0 c1 f1
      have c0z : wz.cell? ⟨B, 0, none⟩ = some (.string s) := World.objAt.cell hrz (i := 0) rfl
      have c1z : wz.cell? ⟨B, 1, none⟩ = some (.int .i64 (p : Int)) := World.objAt.cell hrz (i := 1) rfl
      have HZ := Lib.hid (And.intro hrz hbz)
      clear hrz hbz nq
      go_quiet (fail)
      go_wp2_with fail
      obtain ⟨wy, hwy⟩ : ∃ wy, wz.drewN nq = wy := ⟨_, rfl⟩
      have hry : Prs d wy B s p := by rw [← hwy]; exact HZ.out.1.drew _
      have hby : Keep B w wy := by rw [← hwy]; exact keep_drewN HZ.out.2 _
      rw [hwy]
      clear hwy c0z c1z
      have c0y : wy.cell? ⟨B, 0, none⟩ = some (.string s) := World.objAt.cell hry (i := 0) rfl
      have c1y : wy.cell? ⟨B, 1, none⟩ = some (.int .i64 (p : Int)) := World.objAt.cell hry (i := 1) rfl
      have HQ := Lib.hid (And.intro hry hby)
      clear hry hby nq
      go_quiet (fail)
      go_wp2_with fail
      refine (nameStart_is HBS.out _).mono ?_
      rintro e w2 ⟨rfl, rfl⟩
      have hpl : p ≤ s.size := by omega
      have hpn := fun w' h' => parseName_ofK (d := d) s B p w' (by omega) hpl h' (parseEscape_anyK s B (by omega))
      have HPN2 := Lib.hid hpn
      have hrep : ∀ w', 0 < k → Calls Tryz.prog 62 #[.string ⟨#[45]⟩, .int .i64 (k : Int)] w' (fun e w'' => e = .returned (.string ⟨#[45]⟩) ∧ Below w'.heap.size w' w'') := fun w' h0 => by
        obtain rfl : k = 1 := by omega
        exact (Tryz.strings_Repeat_one ⟨#[45]⟩ w').mono fun e w'' ⟨h1, h2⟩ => ⟨h1, by rw [h2]; exact Below.refl _ _⟩
      have HREP := Lib.hid hrep
      clear hpn hrep
      rcases Nat.eq_zero_or_pos k with h0 | h0
      · subst h0
        cases b <;> cases b2
        all_goals (first | (exfalso; revert hor; simp; done) | skip)
        all_goals clear hor
        all_goals go_wp2_with fail
        all_goals refine (HPN2.out _ (HQ.out.1.drew _)).mono ?_
        all_goals rintro e w3 ⟨hb3, ⟨hf, ⟨v, ty, qq, rfl⟩, kk, hr⟩ | ⟨out', j', ho, hne, hj, rfl, hr⟩⟩
        all_goals first
          | (exfalso
             rw [HPQ.out.1] at hf
             rcases hf with hf | ⟨_, hf⟩
             · cases hf
             · simp only [Option.some.injEq, Prod.mk.injEq] at hf; exact HPQ.out.2 hf.1)
          | (rw [HPQ.out.1] at ho
             simp only [Option.some.injEq, Prod.mk.injEq] at ho
             obtain ⟨rfl, rfl⟩ := ho
             have HB3 := Lib.hid ((keep_drewN HQ.out.2 nq).trans hb3)
             have HR3 := Lib.hid hr
             clear hb3 hr
             go_wp2_with fail
             go_ret2
             exact ⟨_, rfl, fun _ => rfl, (by have hos := pn_sizeA s s.size p _ _ _ (by omega) HPQ.out.1; have h00 : ByteArray.empty.size = 0 := rfl; omega), HR3, HB3⟩)
      · have gk : decide ((0 : Int) < (k : Int)) = true := by simp; omega
        cases b <;> cases b2
        all_goals (first | (exfalso; revert hor; simp; done) | skip)
        all_goals clear hor
        all_goals go_wp2_with fail
        all_goals refine (HPN2.out _ (HQ.out.1.drew _)).mono ?_
        all_goals rintro e w3 ⟨hb3, ⟨hf, ⟨v, ty, qq, rfl⟩, kk, hr⟩ | ⟨out', j', ho, hne, hj, rfl, hr⟩⟩
        all_goals first
          | (exfalso
             rw [HPQ.out.1] at hf
             rcases hf with hf | ⟨_, hf⟩
             · cases hf
             · simp only [Option.some.injEq, Prod.mk.injEq] at hf; exact HPQ.out.2 hf.1)
          | (rw [HPQ.out.1] at ho
             simp only [Option.some.injEq, Prod.mk.injEq] at ho
             obtain ⟨rfl, rfl⟩ := ho
             have hos := pn_sizeA s s.size p _ _ _ (by omega) HPQ.out.1
             have hcat : (⟨#[45]⟩ : ByteArray).size + out.size ≤ 9223372036854775807 := by
               have h11 : (⟨#[45]⟩ : ByteArray).size = 1 := rfl
               have h00 : ByteArray.empty.size = 0 := rfl
               omega
             have HB3 := Lib.hid ((keep_drewN HQ.out.2 nq).trans hb3)
             have HR3 := Lib.hid hr
             clear hb3 hr hos hne
             go_wp2_with (go_at_call 62; refine (HREP.out _ h0).mono ?_; rintro e w4 ⟨rfl, hb4⟩)
             go_ret2
             exact ⟨_, rfl, fun h => absurd h (by omega), (by have hos := pn_sizeA s s.size p _ _ _ (by omega) HPQ.out.1; have h00 : ByteArray.empty.size = 0 := rfl; have h11 : (⟨#[45]⟩ : ByteArray).size = 1 := rfl; rw [ByteArray.size_append]; omega), Lib.hid (World.objAt.below HR3.out hb4 (World.objAt.lt HR3.out)), Lib.hid (HB3.out.trans (Keep.of hb4 (Nat.le_of_lt (World.objAt.lt HR3.out))))⟩)
variable {d : Int}
theorem objAt_drew {w : World} {b : Nat} {cs : Array Value} {t : TypeId} (h : World.objAt w b cs t) (q : Nat) : World.objAt (w.drewN q) b cs t := by
  unfold World.objAt
  rw [World.heap_drewN]
  exact h
/-- A parser, and behind it the cells of a result, made since W. -/
structure RPair (d : Int) (T : TypeId) (cs : Array Value) (W w : World) (B O : Nat) (s : ByteArray) (k : Nat) : Prop where
  prs : Prs d w B s k
  res : World.objAt w O cs T
  lt : B < O
  new : W.heap.size ≤ O
  keep : Keep B W w
variable {T : TypeId} {cs : Array Value} {W w : World} {B O : Nat} {s : ByteArray} {k : Nat}
theorem RPair.start (h : Prs d W B s k) (cs : Array Value) (T : TypeId) : RPair d T cs W (W.alloc (.cells cs T)) B W.heap.size s k :=
  have hlt := World.objAt.lt h
  have hb : Below W.heap.size W (W.alloc (.cells cs T)) := (Below.refl _ _).alloc (Nat.le_refl _) _
  ⟨World.objAt.below h hb hlt, objAt_alloc_new _ _ _, hlt, Nat.le_refl _, Keep.of hb (Nat.le_of_lt hlt)⟩
theorem RPair.drew (h : RPair d T cs W w B O s k) (q : Nat) : RPair d T cs W (w.drewN q) B O s k :=
  ⟨h.prs.drew q, objAt_drew h.res q, h.lt, h.new, keep_drewN h.keep q⟩
theorem RPair.at (h : RPair d T cs W w B O s k) (m : Nat) : RPair d T cs W (w.setCell ⟨B, 1, none⟩ (.int .i64 (m : Int))) B O s m :=
  ⟨h.prs.at m, World.objAt.keep h.res (World.objAt.setKeep h.prs 1 _ (Keep.refl B w) (Nat.le_refl _)) h.lt, h.lt, h.new, World.objAt.setKeep h.prs 1 _ h.keep (Nat.le_refl _)⟩
theorem RPair.to (h : RPair d T cs W w B O s k) {w' : World} {k' : Nat} (hp : Prs d w' B s k') (hk : Keep B w w') : RPair d T cs W w' B O s k' :=
  ⟨hp, World.objAt.keep h.res hk h.lt, h.lt, h.new, h.keep.trans hk⟩
theorem RPair.store (h : RPair d T cs W w B O s k) (i : Nat) (v : Value) : RPair d T (cs.setIfInBounds i v) W (w.setCell ⟨O, i, none⟩ v) B O s k := by
  have hb : Below O w (w.setCell ⟨O, i, none⟩ v) := World.objAt.setBelow h.res i v (Below.refl O w) (Nat.le_refl _)
  have hW : W.heap.size ≤ w.heap.size := h.keep.below.size
  refine ⟨World.objAt.below h.prs hb h.lt, World.objAt.set h.res i v, h.lt, h.new, ⟨h.keep.below.trans (hb.mono (Nat.le_of_lt h.lt)), fun b h1 h2 => ?_⟩⟩
  rw [hb.block b (Nat.lt_of_lt_of_le h2 h.new)]
  exact h.keep.rest b h1 h2
theorem RPair.alloc (h : RPair d T cs W w B O s k) (o : Obj) : RPair d T cs W (w.alloc o) B O s k :=
  have hlt := World.objAt.lt h.prs
  have hb : Below w.heap.size w (w.alloc o) := (Below.refl _ _).alloc (Nat.le_refl _) o
  h.to (World.objAt.below h.prs hb hlt) (Keep.of hb (Nat.le_of_lt hlt))
variable {d : Int}
/-- A name is read; what it is, is not asked. -/
def NmRead (d : Int) (s : ByteArray) (B j : Nat) (w : World) (e : Ending) (w' : World) : Prop :=
  ∃ z, e = .returned (.tuple #[.string z, .nilIface]) ∧ z.size ≤ 40000 ∧ Hid (Prs d w' B s j) ∧ Hid (Keep B w w')
/-- A selector of one text is read. -/
def OneRead (d : Int) (s : ByteArray) (B j : Nat) (w : World) (e : Ending) (w' : World) : Prop :=
  ∃ z, e = .returned (.tuple #[.agg #[.string z], .nilIface]) ∧ Hid (Prs d w' B s j) ∧ Hid (Keep B w w')
set_option maxRecDepth 100000 in
set_option maxHeartbeats 8000000 in
theorem idA (s : ByteArray) (B i j : Nat) (w : World) (hs : s.size ≤ 9000) (h : Prs d w B s i) (hi : i < s.size) (hx : nx s i = 35)
    (hN : ∀ w', Prs d w' B s (i + 1) → Calls Tryz.prog 53 #[.pointer (some ⟨B, 0, none⟩)] w' (NmRead d s B j w')) :
    Calls Tryz.prog 42 #[.pointer (some ⟨B, 0, none⟩)] w (OneRead d s B j w) := by
  have hr0 := RPair.start h #[.string ⟨#[]⟩] 77
  obtain ⟨w0, hw0⟩ : ∃ w0, w.alloc (.cells #[.string ⟨#[]⟩] 77) = w0 := ⟨_, rfl⟩
  obtain ⟨O, hO⟩ : ∃ O, w.heap.size = O := ⟨_, rfl⟩
  rw [hw0] at hr0
  rw [hO] at hr0
  have c0 : w0.cell? ⟨B, 0, none⟩ = some (.string s) := World.objAt.cell hr0.prs (i := 0) rfl
  have c1 : w0.cell? ⟨B, 1, none⟩ = some (.int .i64 (i : Int)) := World.objAt.cell hr0.prs (i := 1) rfl
  have g0 : decide ((s.size : Int) ≤ (i : Int)) = false := by simp; omega
  have g0n : decide (s.size ≤ i) = false := by simp; omega
  have e35 : (s[i].toNat : Int) = 35 := by rw [← nx_lt hi, hx]
  have HR0 := Lib.hid hr0
  have HN := Lib.hid hN
  clear hr0 h hN hx
  go_enter Tryz.func42, Tryz.ntmps42
  go_wp2
  go_quiet (fail)
  obtain ⟨wq, hwq⟩ : ∃ wq, w0.drewN nq = wq := ⟨_, rfl⟩
  have HR1 := Lib.hid (show RPair d 77 #[.string ⟨#[]⟩] w wq B O s i by rw [← hwq]; exact HR0.out.drew nq)
  rw [hwq]
  clear hwq hw0 c0 c1 HR0 nq
  have c0 : wq.cell? ⟨B, 0, none⟩ = some (.string s) := World.objAt.cell HR1.out.prs (i := 0) rfl
  have c1 : wq.cell? ⟨B, 1, none⟩ = some (.int .i64 (i : Int)) := World.objAt.cell HR1.out.prs (i := 1) rfl
  go_wp2
  go_quiet (fail)
  obtain ⟨wr, hwr⟩ : ∃ wr, wq.drewN nq = wr := ⟨_, rfl⟩
  have HR2 := Lib.hid (show RPair d 77 #[.string ⟨#[]⟩] w wr B O s i by rw [← hwr]; exact HR1.out.drew nq)
  rw [hwr]
  clear hwr c0 c1 HR1 nq
  have c0 : wr.cell? ⟨B, 0, none⟩ = some (.string s) := World.objAt.cell HR2.out.prs (i := 0) rfl
  have c1 : wr.cell? ⟨B, 1, none⟩ = some (.int .i64 (i : Int)) := World.objAt.cell HR2.out.prs (i := 1) rfl
  have f1 : wr.frozen? ⟨B, 1, none⟩ = false := World.objAt.free HR2.out.prs 1
  go_wp2_with fail
  have HR3 := Lib.hid (HR2.out.at (i + 1))
  refine (HN.out _ HR3.out.prs).mono ?_
  rintro e w3 ⟨z, rfl, hz, hp3, hk3⟩
  have HR4 := Lib.hid (HR3.out.to hp3.out hk3.out)
  have o0 : w3.cell? ⟨O, 0, none⟩ = some (.string ⟨#[]⟩) := World.objAt.cell HR4.out.res (i := 0) rfl
  have of : w3.frozen? ⟨O, 0, none⟩ = false := World.objAt.free HR4.out.res 0
  clear c0 c1 f1 HR2 HR3 HN hp3 hk3
  go_wp2
  refine bodyPost_ret (v := .tuple #[.agg #[.string z], .nilIface]) ?_ rfl ?_
  · rw [results_cell_tmp rfl]
    go_simp
  · exact ⟨z, rfl, Lib.hid (HR4.out.store 0 (.string z)).prs, Lib.hid (HR4.out.store 0 (.string z)).keep⟩
set_option maxRecDepth 100000 in
set_option maxHeartbeats 8000000 in
theorem classA (s : ByteArray) (B i j : Nat) (w : World) (hs : s.size ≤ 9000) (h : Prs d w B s i) (hi : i < s.size) (hx : nx s i = 46)
    (hN : ∀ w', Prs d w' B s (i + 1) → Calls Tryz.prog 51 #[.pointer (some ⟨B, 0, none⟩)] w' (NmRead d s B j w')) :
    Calls Tryz.prog 43 #[.pointer (some ⟨B, 0, none⟩)] w (OneRead d s B j w) := by
  have hr0 := RPair.start h #[.string ⟨#[]⟩] 81
  obtain ⟨w0, hw0⟩ : ∃ w0, w.alloc (.cells #[.string ⟨#[]⟩] 81) = w0 := ⟨_, rfl⟩
  obtain ⟨O, hO⟩ : ∃ O, w.heap.size = O := ⟨_, rfl⟩
  rw [hw0] at hr0
  rw [hO] at hr0
  have c0 : w0.cell? ⟨B, 0, none⟩ = some (.string s) := World.objAt.cell hr0.prs (i := 0) rfl
  have c1 : w0.cell? ⟨B, 1, none⟩ = some (.int .i64 (i : Int)) := World.objAt.cell hr0.prs (i := 1) rfl
  have g0 : decide ((s.size : Int) ≤ (i : Int)) = false := by simp; omega
  have g0n : decide (s.size ≤ i) = false := by simp; omega
  have e35 : (s[i].toNat : Int) = 46 := by rw [← nx_lt hi, hx]
  have HR0 := Lib.hid hr0
  have HN := Lib.hid hN
  clear hr0 h hN hx
  go_enter Tryz.func43, Tryz.ntmps43
  go_wp2
  go_quiet (fail)
  obtain ⟨wq, hwq⟩ : ∃ wq, w0.drewN nq = wq := ⟨_, rfl⟩
  have HR1 := Lib.hid (show RPair d 81 #[.string ⟨#[]⟩] w wq B O s i by rw [← hwq]; exact HR0.out.drew nq)
  rw [hwq]
  clear hwq hw0 c0 c1 HR0 nq
  have c0 : wq.cell? ⟨B, 0, none⟩ = some (.string s) := World.objAt.cell HR1.out.prs (i := 0) rfl
  have c1 : wq.cell? ⟨B, 1, none⟩ = some (.int .i64 (i : Int)) := World.objAt.cell HR1.out.prs (i := 1) rfl
  go_wp2
  go_quiet (fail)
  obtain ⟨wr, hwr⟩ : ∃ wr, wq.drewN nq = wr := ⟨_, rfl⟩
  have HR2 := Lib.hid (show RPair d 81 #[.string ⟨#[]⟩] w wr B O s i by rw [← hwr]; exact HR1.out.drew nq)
  rw [hwr]
  clear hwr c0 c1 HR1 nq
  have c0 : wr.cell? ⟨B, 0, none⟩ = some (.string s) := World.objAt.cell HR2.out.prs (i := 0) rfl
  have c1 : wr.cell? ⟨B, 1, none⟩ = some (.int .i64 (i : Int)) := World.objAt.cell HR2.out.prs (i := 1) rfl
  have f1 : wr.frozen? ⟨B, 1, none⟩ = false := World.objAt.free HR2.out.prs 1
  go_wp2_with fail
  have HR3 := Lib.hid (HR2.out.at (i + 1))
  refine (HN.out _ HR3.out.prs).mono ?_
  rintro e w3 ⟨z, rfl, hz, hp3, hk3⟩
  have HR4 := Lib.hid (HR3.out.to hp3.out hk3.out)
  have o0 : w3.cell? ⟨O, 0, none⟩ = some (.string ⟨#[]⟩) := World.objAt.cell HR4.out.res (i := 0) rfl
  have of : w3.frozen? ⟨O, 0, none⟩ = false := World.objAt.free HR4.out.res 0
  clear c0 c1 f1 HR2 HR3 HN hp3 hk3
  go_wp2
  refine bodyPost_ret (v := .tuple #[.agg #[.string z], .nilIface]) ?_ rfl ?_
  · rw [results_cell_tmp rfl]
    go_simp
  · exact ⟨z, rfl, Lib.hid (HR4.out.store 0 (.string z)).prs, Lib.hid (HR4.out.store 0 (.string z)).keep⟩
variable {d : Int}
def DgL (D : List UInt8) : Prop := ∀ b ∈ D, 48 ≤ (b.toNat : Int) ∧ (b.toNat : Int) ≤ 57
theorem digitVal_some {b : UInt8} (h1 : 48 ≤ (b.toNat : Int)) (h2 : (b.toNat : Int) ≤ 57) : ∃ n, Lib.digitVal b = some n := by
  unfold Lib.digitVal
  rw [if_pos ⟨by omega, by omega⟩]
  exact ⟨_, rfl⟩
theorem decFrom_some : ∀ (l : List UInt8) (acc : Nat), DgL l → ∃ n, Lib.decFrom acc l = some n
  | [], acc, _ => ⟨acc, by simp [Lib.decFrom]⟩
  | b :: l, acc, h => by
    obtain ⟨n, hn⟩ := digitVal_some (h b List.mem_cons_self).1 (h b List.mem_cons_self).2
    obtain ⟨m, hm⟩ := decFrom_some l (acc * 10 + n) fun x hx => h x (List.mem_cons_of_mem _ hx)
    exact ⟨m, by simp [Lib.decFrom, hn, hm]⟩
theorem atoi_some {l : List UInt8} (h : DgL l) (hne : l ≠ []) : ∃ n : Int, Lib.atoi l = some n := by
  cases l with
  | nil => exact absurd rfl hne
  | cons b r =>
    have hb := h b List.mem_cons_self
    have h1 : (b == 45) = false := by
      rw [beq_eq_false_iff_ne]
      intro e; rw [e] at hb; exact absurd hb.1 (by decide)
    have h2 : (b == 43) = false := by
      rw [beq_eq_false_iff_ne]
      intro e; rw [e] at hb; exact absurd hb.1 (by decide)
    obtain ⟨n, hn⟩ := decFrom_some (b :: r) 0 h
    refine ⟨n, ?_⟩
    simp only [Lib.atoi, h1, h2, Bool.false_eq_true, if_false]
    simp [Lib.decNat, hn]
/-- A number is read. -/
def IntRead (d : Int) (s : ByteArray) (B j : Nat) (w : World) (e : Ending) (w' : World) : Prop :=
  ∃ z, e = .returned (.tuple #[.int .i64 z, .nilIface]) ∧ Hid (Prs d w' B s j) ∧ Hid (Keep B w w')
theorem bytes_world {B i p : Nat} {s : ByteArray} {w wr : World} {t : ByteArray} (h : Prs d wr B s i) (hk : Keep B w wr) :
    Prs d (Lib.bytesWorld (wr.setCell ⟨B, 1, none⟩ (.int .i64 (p : Int))) 5 t) B s p ∧ Keep B w (Lib.bytesWorld (wr.setCell ⟨B, 1, none⟩ (.int .i64 (p : Int))) 5 t) := by
  have h2 := h.at p
  have hb := Lib.bytesWorld_below (wr.setCell ⟨B, 1, none⟩ (.int .i64 (p : Int))) 5 t
  exact ⟨World.objAt.below h2 hb (World.objAt.lt h2), (World.objAt.setKeep h 1 (.int .i64 (p : Int)) hk (Nat.le_refl _)).trans (Keep.of hb (Nat.le_of_lt (World.objAt.lt h2)))⟩
set_option maxRecDepth 100000 in
set_option maxHeartbeats 8000000 in
theorem parseInt_at (s : ByteArray) (B i : Nat) (D : List UInt8) (w : World) (hs : s.size ≤ 9000) (h : Prs d w B s i) (hA : At s i D) (hD : DgL D) (hne : D ≠ []) (hlen : D.length ≤ 18) (hend : ¬ (48 ≤ nx s (i + D.length) ∧ nx s (i + D.length) ≤ 57)) :
    Calls Tryz.prog 66 #[.pointer (some ⟨B, 0, none⟩)] w (IntRead d s B (i + D.length) w) := by
  have c1 : w.cell? ⟨B, 1, none⟩ = some (.int .i64 (i : Int)) := World.objAt.cell h (i := 1) rfl
  obtain ⟨v, hv⟩ := atoi_some hD hne
  have hext := hA.ext
  have hle := hA.le
  obtain ⟨n, hn⟩ : ∃ n, D.length = n := ⟨_, rfl⟩
  have hn0 : 0 < n := by rw [← hn]; exact List.length_pos_iff.2 hne
  rw [hn] at hend hext hle hlen
  have hdg : ∀ j, j < n → 48 ≤ nx s (i + j) ∧ nx s (i + j) ≤ 57 := fun j hj => by
    have hj' : j < D.length := by omega
    rw [hA.byte (j := j) (b := D[j]) (List.getElem?_eq_getElem hj')]
    exact hD _ (List.getElem_mem _)
  have hat : ∀ w', Calls Tryz.prog 74 #[.string (s.extract i (i + n))] w' (fun e w'' => e = .returned (.tuple #[.int .i64 v, .nilIface]) ∧ ∃ t, w'' = Lib.bytesWorld w' 5 t) := fun w' => by
    rw [hext]
    exact Tryz.strconv_Atoi (bs D) v (by rw [bs_size]; omega) hv w'
  have HW := Lib.hid h
  have HDG := Lib.hid hdg
  have HEND := Lib.hid hend
  have HAT := Lib.hid hat
  rw [hn]
  clear h hA hD hne hend hext hn hdg hat hv
  go_enter Tryz.func66, Tryz.ntmps66
  go_wp2
  go_loopw [4] (fun v wr => ∃ k : Nat, v = .int .i64 ((i + k : Nat) : Int) ∧ k ≤ n ∧ Hid (Prs d wr B s i) ∧ Hid (Keep B w wr)) (fun v _ => i + n - (intOf v).toNat)
  case atStart => exact ⟨0, by go_num, by omega, HW, Lib.hid (Keep.refl _ _)⟩
  case round =>
    obtain ⟨k, rfl, hk, HP, HB⟩ := hrel
    have c0 : wr.cell? ⟨B, 0, none⟩ = some (.string s) := World.objAt.cell HP.out (i := 0) rfl
    have c1 : wr.cell? ⟨B, 1, none⟩ = some (.int .i64 (i : Int)) := World.objAt.cell HP.out (i := 1) rfl
    have f1 : wr.frozen? ⟨B, 1, none⟩ = false := World.objAt.free HP.out 1
    obtain ⟨p, hpk⟩ : ∃ p, i + k = p := ⟨_, rfl⟩
    have HPK := Lib.hid hpk
    rw [hpk]
    by_cases hkn : k < n
    · have hlt : p < s.size := by omega
      have g0 : decide ((p : Int) < (s.size : Int)) = true := by simp [hlt]
      have g0n : decide (p < s.size) = true := by simp [hlt]
      have h2 := HDG.out k hkn
      rw [hpk, nx_lt hlt] at h2
      have g1 : decide ((48 : Int) ≤ (s[p].toNat : Int)) = true := by simp; omega
      have g2 : decide ((s[p].toNat : Int) ≤ (57 : Int)) = true := by simp; omega
      clear h2 hpk
      go_wp2
      refine ⟨?rel, ?measure⟩
      case rel => exact ⟨k + 1, by have := HPK.out; go_num, by omega, by first | exact HP | exact Lib.hid (HP.out.drew _), by first | exact HB | exact Lib.hid (keep_drewN HB.out _)⟩
      case measure => have := HPK.out; simp [intOf]; omega
    · obtain rfl : k = n := by omega
      have hpi : ((p : Int) == (i : Int)) = false := by simp; omega
      have hip : (i : Int) ≤ (p : Int) := by omega
      have hps : (p : Int) ≤ (s.size : Int) := by omega
      have hi0 : (0 : Int) ≤ (i : Int) := Int.natCast_nonneg _
      have he := HEND.out
      rw [hpk] at he
      have hpe : s.extract i (i + k) = s.extract i p := by rw [hpk]
      have hat2 := HAT.out
      rw [hpk] at hat2
      have HAT2 := Lib.hid hat2
      clear hat2 hpe hpk
      by_cases hlt : p < s.size
      · have g0 : decide ((p : Int) < (s.size : Int)) = true := by simp [hlt]
        have g0n : decide (p < s.size) = true := by simp [hlt]
        rw [nx_lt hlt] at he
        by_cases h48 : (48 : Int) ≤ (s[p].toNat : Int)
        · have g1 : decide ((48 : Int) ≤ (s[p].toNat : Int)) = true := by simp [h48]
          have g2 : decide ((s[p].toNat : Int) ≤ (57 : Int)) = false := by simp; omega
          clear he h48
          go_wp2_with (go_at_call 74; refine (HAT2.out _).mono ?_; rintro e w' ⟨rfl, t, rfl⟩)
          go_ret2
          exact ⟨v, rfl, Lib.hid (by rw [HPK.out]; exact (bytes_world HP.out HB.out).1), Lib.hid (bytes_world HP.out HB.out).2⟩
        · have g1 : decide ((48 : Int) ≤ (s[p].toNat : Int)) = false := by simp; omega
          clear he h48
          go_wp2_with (go_at_call 74; refine (HAT2.out _).mono ?_; rintro e w' ⟨rfl, t, rfl⟩)
          go_ret2
          exact ⟨v, rfl, Lib.hid (by rw [HPK.out]; exact (bytes_world HP.out HB.out).1), Lib.hid (bytes_world HP.out HB.out).2⟩
      · have g0 : decide ((p : Int) < (s.size : Int)) = false := by simp; omega
        have g0n : decide (p < s.size) = false := by simp; omega
        clear he
        go_wp2_with (go_at_call 74; refine (HAT2.out _).mono ?_; rintro e w' ⟨rfl, t, rfl⟩)
        go_ret2
        exact ⟨v, rfl, Lib.hid (by rw [HPK.out]; exact (bytes_world HP.out HB.out).1), Lib.hid (bytes_world HP.out HB.out).2⟩
end Go.Proofs.YtoanofdomhnafaaGreatDoor
