/- cascadia's parser.parseIDSelector. -/
import Derived.Test.YtbikpalfhlgnoaaGreatDoorNameK
import Derived.Test.YtbikpalfhlgnoaaGreatDoorNameAgree
import Derived.Laws.ResultCell
namespace Go.Proofs.YtbikpalfhlgnoaaGreatDoor
open Go.RowKit
set_option linter.unusedVariables false
set_option linter.unusedSimpArgs false

/-- No id stands there. -/
def NoId (s : ByteArray) : Prop := s.size = 0 ∨ nx s 0 ≠ 35 ∨ pn s 1 ByteArray.empty = none ∨ ∃ j, pn s 1 ByteArray.empty = some (ByteArray.empty, j)

/-- What parseIDSelector answers. -/
def ParseIdPost (s : ByteArray) (B : Nat) (w : World) (e : Ending) (w' : World) : Prop :=
  Below B w w' ∧ ((NoId s ∧ (∃ z t q, e = .returned (.tuple #[.agg #[.string z], .iface t q])) ∧ ∃ k, Prs w' B s k) ∨
    ∃ out j, 0 < s.size ∧ nx s 0 = 35 ∧ pn s 1 ByteArray.empty = some (out, j) ∧ out ≠ ByteArray.empty ∧ j ≤ s.size ∧ e = .returned (.tuple #[.agg #[.string out], .nilIface]) ∧ Prs w' B s j)

theorem objAt_drew {w : World} {b : Nat} {cs : Array Value} {t : TypeId} (h : World.objAt w b cs t) (q : Nat) : World.objAt (w.drewN q) b cs t := by
  unfold World.objAt at h ⊢
  rw [World.heap_drewN]
  exact h

/-- A parser, and behind it the cell of a result. -/
structure Pair (w : World) (B O : Nat) (s : ByteArray) (k : Nat) (z : ByteArray) : Prop where
  prs : Prs w B s k
  res : World.objAt w O #[.string z] 54
  lt : B < O

theorem Pair.drew {w : World} {B O : Nat} {s : ByteArray} {k : Nat} {z : ByteArray} (h : Pair w B O s k z) (q : Nat) : Pair (w.drewN q) B O s k z := ⟨h.prs.drew q, objAt_drew h.res q, h.lt⟩
theorem Pair.alloc {w : World} {B O : Nat} {s : ByteArray} {k : Nat} {z : ByteArray} (h : Pair w B O s k z) (o : Obj) : Pair (w.alloc o) B O s k z :=
  have hb : Below w.heap.size w (w.alloc o) := (Below.refl w.heap.size w).alloc (Nat.le_refl _) o
  ⟨World.objAt.below h.prs hb (World.objAt.lt h.prs), World.objAt.below h.res hb (World.objAt.lt h.res), h.lt⟩
/-- The place is set. -/
theorem Pair.at {w : World} {B O : Nat} {s : ByteArray} {k : Nat} {z : ByteArray} (h : Pair w B O s k z) (m : Nat) : Pair (w.setCell ⟨B, 1, none⟩ (.int .i64 (m : Int))) B O s m z :=
  ⟨h.prs.at m, World.objAt.keep h.res (World.objAt.setKeep h.prs 1 _ (Keep.refl B w) (Nat.le_refl _)) h.lt, h.lt⟩
/-- The result is stored. -/
theorem Pair.store {w : World} {B O : Nat} {s : ByteArray} {k : Nat} {z : ByteArray} (h : Pair w B O s k z) (z' : ByteArray) : Pair (w.setCell ⟨O, 0, none⟩ (.string z')) B O s k z' :=
  ⟨World.objAt.below h.prs (World.objAt.setBelow h.res 0 _ (Below.refl O w) (Nat.le_refl _)) h.lt, World.objAt.set h.res 0 _, h.lt⟩
theorem Pair.below {w : World} {B O : Nat} {s : ByteArray} {k : Nat} {z : ByteArray} (h : Pair w B O s k z) (v : Value) {a : World} (ha : Below B a w) : Below B a (w.setCell ⟨O, 0, none⟩ v) :=
  World.objAt.setBelow h.res 0 v ha (Nat.le_of_lt h.lt)

set_option maxRecDepth 100000 in
set_option maxHeartbeats 4000000 in
theorem parseId_any (s : ByteArray) (B : Nat) (w : World) (hs : s.size ≤ 4000) (h : Prs w B s 0) :
    Calls Tryz.prog 15 #[.pointer (some ⟨B, 0, none⟩)] w (ParseIdPost s B w) := by
  have hlt := World.objAt.lt h
  have hb0 : Below B w (w.alloc (.cells #[.string ⟨#[]⟩] 54)) := (Below.refl _ _).alloc (Nat.le_of_lt hlt) _
  have hr0 : Pair (w.alloc (.cells #[.string ⟨#[]⟩] 54)) B w.heap.size s 0 ⟨#[]⟩ :=
    ⟨World.objAt.below h ((Below.refl w.heap.size w).alloc (Nat.le_refl _) _) hlt, objAt_alloc_new _ _ _, hlt⟩
  obtain ⟨w0, hw0⟩ : ∃ w0, w.alloc (.cells #[.string ⟨#[]⟩] 54) = w0 := ⟨_, rfl⟩
  rw [hw0] at hb0 hr0
  obtain ⟨O, hO⟩ : ∃ O, w.heap.size = O := ⟨_, rfl⟩
  rw [hO] at hr0
  have c0 : w0.cell? ⟨B, 0, none⟩ = some (.string s) := World.objAt.cell hr0.prs (i := 0) rfl
  have c1 : w0.cell? ⟨B, 1, none⟩ = some (.int .i64 0) := World.objAt.cell hr0.prs (i := 1) rfl
  have HB := Lib.hid (And.intro hb0 hr0)
  clear hb0 hr0 hlt h
  rcases Nat.eq_zero_or_pos s.size with hz | hpos
  · have hse : s = ByteArray.empty := by
      apply ByteArray.ext
      exact Array.eq_empty_of_size_eq_zero hz
    subst hse
    clear hz
    go_enter Tryz.func15, Tryz.ntmps15
    go_wp2
    go_quiet (fail)
    obtain ⟨wq, hwq⟩ : ∃ wq, w0.drewN nq = wq := ⟨_, rfl⟩
    have hp := HB.out.2.drew nq
    have hbq := below_drewN HB.out.1 nq
    rw [hwq] at hp hbq
    rw [hwq]
    have o0 : wq.cell? ⟨O, 0, none⟩ = some (.string ⟨#[]⟩) := World.objAt.cell hp.res (i := 0) rfl
    have of : wq.frozen? ⟨O, 0, none⟩ = false := World.objAt.free hp.res 0
    have hOl : O < wq.heap.size := World.objAt.lt hp.res
    have HP := Lib.hid (And.intro hp hbq)
    clear hwq hw0 c0 c1 hp hbq
    go_wp2_with (first | go_in)
    refine bodyPost_ret (v := .tuple #[.agg #[.string ⟨#[]⟩], .iface 102 (.pointer (some ⟨wq.heap.size, 0, none⟩))]) ?_ rfl ?_
    · rw [results_cell_tmp rfl]
      go_simp
    · exact ⟨(HP.out.1.below _ HP.out.2).trans ((Below.refl _ _).alloc (Nat.le_of_lt (by simpa using Nat.lt_trans HP.out.1.lt hOl)) _), .inl ⟨.inl rfl, ⟨_, _, _, rfl⟩, 0, ((HP.out.1.store _).alloc _).prs⟩⟩
  · have g : decide ((s.size : Int) ≤ (0 : Int)) = false := decide_eq_false (by omega)
    have gn : decide (s.size ≤ 0) = false := decide_eq_false (by omega)
    have hne0 : ¬ s = ByteArray.empty := by
      intro h
      rw [h] at hpos
      exact absurd hpos (by decide)
    have hse0 : decide (s = ByteArray.empty) = false := decide_eq_false hne0
    have hx := nx_lt hpos
    obtain ⟨n, hn⟩ : ∃ n, (s[0].toNat : Int) = n := ⟨_, rfl⟩
    rw [hn] at hx
    have HX := Lib.hid hx
    clear hx
    by_cases h35 : n = 35
    · subst h35
      go_enter Tryz.func15, Tryz.ntmps15
      go_wp2
      go_quiet (fail)
      obtain ⟨wq, hwq⟩ : ∃ wq, w0.drewN nq = wq := ⟨_, rfl⟩
      have hp := HB.out.2.drew nq
      have hbq := below_drewN HB.out.1 nq
      rw [hwq] at hp hbq
      rw [hwq]
      have c0' : wq.cell? ⟨B, 0, none⟩ = some (.string s) := World.objAt.cell hp.prs (i := 0) rfl
      have c1' : wq.cell? ⟨B, 1, none⟩ = some (.int .i64 0) := World.objAt.cell hp.prs (i := 1) rfl
      have HP := Lib.hid (And.intro hp hbq)
      clear hwq hw0 c0 c1 hp hbq HB
      go_wp2
      go_quiet (fail)
      obtain ⟨wr, hwr⟩ : ∃ wr, wq.drewN nq = wr := ⟨_, rfl⟩
      have hp := HP.out.1.drew nq
      have hbq := below_drewN HP.out.2 nq
      rw [hwr] at hp hbq
      rw [hwr]
      have c0 : wr.cell? ⟨B, 0, none⟩ = some (.string s) := World.objAt.cell hp.prs (i := 0) rfl
      have c1 : wr.cell? ⟨B, 1, none⟩ = some (.int .i64 0) := World.objAt.cell hp.prs (i := 1) rfl
      have f1 : wr.frozen? ⟨B, 1, none⟩ = false := World.objAt.free hp.prs 1
      have hat := hp.at 1
      have HN := Lib.hid (parseName_ofK s B 1 (wr.setCell ⟨B, 1, none⟩ (.int .i64 ((1 : Nat) : Int))) hs hpos hat.prs (parseEscape_anyK s B hs))
      have HQ := Lib.hid (And.intro hat (World.objAt.setBelow hp.prs 1 (.int .i64 ((1 : Nat) : Int)) hbq (Nat.le_refl _)))
      clear hwr c0' c1' hp hbq HP hat
      go_wp2_with fail
      refine HN.out.mono ?_
      rintro e w3 ⟨hb3, ⟨hf, ⟨v, t, q, rfl⟩, k, hr⟩ | ⟨out, j, ho, hne, hj, rfl, hr⟩⟩
      · have hp : Pair w3 B O s k ⟨#[]⟩ := ⟨hr, World.objAt.keep HQ.out.1.res hb3 HQ.out.1.lt, HQ.out.1.lt⟩
        have o0 : w3.cell? ⟨O, 0, none⟩ = some (.string ⟨#[]⟩) := World.objAt.cell hp.res (i := 0) rfl
        have of : w3.frozen? ⟨O, 0, none⟩ = false := World.objAt.free hp.res 0
        have HE := Lib.hid (And.intro hf (And.intro hp (HQ.out.2.trans hb3.below)))
        clear hf hp hb3 hr HN HQ c0 c1 f1
        go_wp2
        refine bodyPost_ret (v := .tuple #[.agg #[.string ⟨#[]⟩], .iface t q]) ?_ rfl ?_
        · rw [results_cell_tmp rfl]
          go_simp
        · exact ⟨HE.out.2.1.below _ HE.out.2.2, .inl ⟨HE.out.1.elim (fun h => .inr (.inr (.inl h))) (fun h => .inr (.inr (.inr h))), ⟨_, _, _, rfl⟩, k, (HE.out.2.1.store _).prs⟩⟩
      · have hp : Pair w3 B O s j ⟨#[]⟩ := ⟨hr, World.objAt.keep HQ.out.1.res hb3 HQ.out.1.lt, HQ.out.1.lt⟩
        have o0 : w3.cell? ⟨O, 0, none⟩ = some (.string ⟨#[]⟩) := World.objAt.cell hp.res (i := 0) rfl
        have of : w3.frozen? ⟨O, 0, none⟩ = false := World.objAt.free hp.res 0
        have HE := Lib.hid (And.intro (And.intro ho hne) (And.intro hp (HQ.out.2.trans hb3.below)))
        clear ho hne hp hb3 hr HN HQ c0 c1 f1
        go_wp2
        refine bodyPost_ret (v := .tuple #[.agg #[.string out], .nilIface]) ?_ rfl ?_
        · rw [results_cell_tmp rfl]
          go_simp
        · exact ⟨HE.out.2.1.below _ HE.out.2.2, .inr ⟨out, j, hpos, HX.out, HE.out.1.1, HE.out.1.2, hj, rfl, (HE.out.2.1.store _).prs⟩⟩
    · have g2 : (n == 35) = false := by simp [h35]
      have g3 : (n != 35) = true := by simp [h35]
      have H35 := Lib.hid h35
      clear h35
      go_enter Tryz.func15, Tryz.ntmps15
      go_wp2
      go_quiet (fail)
      obtain ⟨wq, hwq⟩ : ∃ wq, w0.drewN nq = wq := ⟨_, rfl⟩
      have hp := HB.out.2.drew nq
      have hbq := below_drewN HB.out.1 nq
      rw [hwq] at hp hbq
      rw [hwq]
      have c0' : wq.cell? ⟨B, 0, none⟩ = some (.string s) := World.objAt.cell hp.prs (i := 0) rfl
      have c1' : wq.cell? ⟨B, 1, none⟩ = some (.int .i64 0) := World.objAt.cell hp.prs (i := 1) rfl
      have HP := Lib.hid (And.intro hp hbq)
      clear hwq hw0 c0 c1 hp hbq HB
      go_wp2
      go_quiet (fail)
      obtain ⟨wr, hwr⟩ : ∃ wr, wq.drewN nq = wr := ⟨_, rfl⟩
      have hp := HP.out.1.drew nq
      have hbq := below_drewN HP.out.2 nq
      rw [hwr] at hp hbq
      rw [hwr]
      have o0 : wr.cell? ⟨O, 0, none⟩ = some (.string ⟨#[]⟩) := World.objAt.cell hp.res (i := 0) rfl
      have of : wr.frozen? ⟨O, 0, none⟩ = false := World.objAt.free hp.res 0
      have hOl : O < wr.heap.size := World.objAt.lt hp.res
      have HR := Lib.hid (And.intro hp hbq)
      clear hwr c0' c1' hp hbq HP
      go_wp2_with (first | go_in)
      refine bodyPost_ret (v := .tuple #[.agg #[.string ⟨#[]⟩], .iface 102 (.pointer (some ⟨wr.heap.size, 0, none⟩))]) ?_ rfl ?_
      · rw [results_cell_tmp rfl]
        go_simp
      · exact ⟨(HR.out.1.below _ HR.out.2).trans ((Below.refl _ _).alloc (Nat.le_of_lt (by simpa using Nat.lt_trans HR.out.1.lt hOl)) _), .inl ⟨.inr (.inl (by rw [HX.out]; exact H35.out)), ⟨_, _, _, rfl⟩, 0, ((HR.out.1.store _).alloc _).prs⟩⟩

end Go.Proofs.YtbikpalfhlgnoaaGreatDoor
