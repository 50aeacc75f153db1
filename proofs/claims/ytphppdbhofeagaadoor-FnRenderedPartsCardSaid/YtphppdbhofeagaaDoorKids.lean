/- spec.Kids, spec.Parent. -/
import Derived.Test.YtphppdbhofeagaaDoorTree
namespace Go.Proofs.YtphppdbhofeagaaDoor
open Go.RowKit
set_option linter.unusedVariables false
set_option linter.unusedSimpArgs false

theorem Tryd.infoInt : (Tryd.prog.info? 3).map (fun i => (i.zero, i.size, i.bytes)) = some (some (.int .i64 0), 1, 8) := by kernel_rfl

/-- A slice of places, of the call's own. -/
def OwnInts (w : World) (B : Nat) (v : Value) (l : List Nat) : Prop := w.ownsRow B 3 1 v l.length (l.map fun (n : Nat) => Value.int .i64 (n : Int))

/-- A slice of places. -/
def IntsOf (w : World) (v : Value) (l : List Nat) : Prop := ∃ a cap, v = .slice a l.length cap ∧ l.length ≤ cap ∧ cap ≤ maxLen ∧ Row w a l.length (l.map fun (n : Nat) => Value.int .i64 (n : Int))

theorem OwnInts.ints {w : World} {B : Nat} {v : Value} {l : List Nat} (h : OwnInts w B v l) : IntsOf w v l := by
  rcases h.2 with ⟨rfl, h0⟩ | ⟨g, cap, cur, rfl, hb, hg, hn, hm, hcs, ht⟩
  · have : l = [] := List.eq_nil_of_length_eq_zero h0
    subst this
    exact ⟨none, 0, rfl, Nat.le_refl _, Nat.zero_le _, rfl, Nat.zero_le _, fun h => absurd h (Nat.lt_irrefl 0)⟩
  · refine ⟨_, cap, rfl, hn, hm, by simp, by omega, fun hl => ⟨g, 0, rfl, fun i hi => ?_⟩⟩
    have := h.cells (g := g) rfl i ((l.map fun (n : Nat) => Value.int .i64 (n : Int)).getD i undef) (by rw [List.getD_eq_getElem?_getD]; simp [hi])
    have hadd : (⟨g, 0, none⟩ : Addr).add i = ⟨g, 0 + i, none⟩ := by unfold Addr.add; split <;> simp_all
    rw [hadd] at this
    exact this

theorem IntsOf.below {w w' : World} {v : Value} {l : List Nat} (h : IntsOf w v l) (hb : Below w.heap.size w w') : IntsOf w' v l := by
  obtain ⟨a, cap, h1, h2, h3, h4⟩ := h
  exact ⟨a, cap, h1, h2, h3, h4.below hb⟩

theorem ownInts_snoc {w1 : World} {B : Nat} {v' : Value} {done : List Nat} {k : Nat} (h : w1.ownsRow B 3 1 v' (done.length + 1) (List.map (fun (n : Nat) => Value.int .i64 (n : Int)) done ++ [.int .i64 (k : Int)])) :
    OwnInts w1 B v' (done ++ [k]) := by
  unfold OwnInts
  simpa using h

def KidsPost (l : List Nat) (w : World) (e : Ending) (w' : World) : Prop := ∃ v, e = .returned v ∧ OwnInts w' w.heap.size v l ∧ Below w.heap.size w w'

set_option maxRecDepth 100000 in
set_option maxHeartbeats 1000000 in
theorem kids_any (a : Option Addr) (len cap : Nat) (ts : List NodeD) (at_ : Nat) (w : World) (h : Nodes w a len ts) (hsz : ∀ j, j < len → Sz ts j) (hfit : ∀ j, j < len → j + sz ts j ≤ len) (hat : at_ < len) (hlen : len ≤ 200) :
    Calls Tryd.prog 8 #[.slice a len cap, .int .i64 at_] w (KidsPost (kids (sz ts) at_) w) := by
  have hm := h.len.2
  obtain ⟨b, off, rfl, hc⟩ := h.at (by omega)
  have hs := (hc at_ hat).size
  have hbw : b < w.heap.size := World.block_lt_of_cell? _ _ hs
  have hend := hfit at_ hat
  have hpos := (hsz at_ hat).1
  have hc4 : ∀ j, j < len → w.cell? ⟨b, off + j * 5 + 4, none⟩ = some (.int .i64 (sz ts j : Int)) := fun j hj => by rw [(hc j hj).size, (hsz j hj).2.1]
  have HC := Lib.hid hc4
  have HF := Lib.hid hfit
  have HS := Lib.hid hsz
  clear hc hs h hc4 hfit hsz
  obtain ⟨i0, hi, hz0, hz1, hz2⟩ := info_parts Tryd.infoInt
  go_enter Tryd.func8, Tryd.ntmps8
  go_wp2
  go_loopw [5, 6] (fun v i wr => ∃ (k f : Nat) (done : List Nat), i = .int .i64 k ∧ k ≤ at_ + sz ts at_ ∧ at_ + 1 ≤ k ∧ done.length < k ∧ at_ + sz ts at_ - k ≤ f ∧ done ++ kidsFrom (sz ts) (at_ + sz ts at_) f k = kids (sz ts) at_ ∧ OwnInts wr w.heap.size v done ∧ Below w.heap.size w wr)
    (fun _ i _ => at_ + sz ts at_ - (intOf i).toNat)
  case atStart => exact ⟨at_ + 1, sz ts at_, [], by go_num, by omega, by omega, by simp, by omega, rfl, World.ownsRow_nil _ _ _ _, Below.refl _ _⟩
  case round =>
    obtain ⟨k, f, done, rfl, hk1, hk2, hk4, hk3, hd, hown, hbel⟩ := hrel
    have c0 : wr.cell? ⟨b, off + at_ * 5 + 4, none⟩ = some (.int .i64 (sz ts at_ : Int)) := (hbel.cell (p := ⟨b, off + at_ * 5 + 4, none⟩) hbw).trans (HC.out at_ hat)
    have HD := Lib.hid hd
    have HOWN := Lib.hid hown
    have HBEL := Lib.hid hbel
    clear hd hown hbel
    by_cases hlt : k < at_ + sz ts at_
    · have ck : wr.cell? ⟨b, off + k * 5 + 4, none⟩ = some (.int .i64 (sz ts k : Int)) := (HBEL.out.cell (p := ⟨b, off + k * 5 + 4, none⟩) hbw).trans (HC.out k (by omega))
      have hkp := (HS.out k (by omega)).1
      have hkf := HF.out k (by omega)
      have hkl := (HS.out at_ hat).2.2 k (by omega) hlt
      have hown' : wr.ownsRow w.heap.size 3 1 u5 done.length (done.map fun (n : Nat) => Value.int .i64 (n : Int)) := HOWN.out
      go_wp2_with (at_builtin; refine wpList_append_own _ rfl _ _ 30 rfl w.heap.size 3 i0 (.int .i64 0) 1 8 Tryd.underlying30 hi hz0 hz1 hz2 rfl (by decide) _ _ _ rfl (hown'.alloc _) ⟨wr.heap.size, 0, none⟩ 1 1 [.int .i64 (k : Int)] rfl rfl ?c1 ?c2 ?c3 ?c4 ?c5 ?_)
      case c1 =>
        intro j u hj
        match j, hj with
        | 0, hj => simp at hj; subst hj; simp [Addr.add]
      case c2 => intro u hu; simp at hu; subst hu; rfl
      case c3 => unfold maxLen; omega
      case c4 => omega
      case c5 => have := HBEL.out.size; simp; omega
      intro v' w1 hown2 hgrow _
      have hbel2 : Below w.heap.size w w1 := (HBEL.out.alloc HBEL.out.size _).grown hgrow (by have := HBEL.out.size; simp; omega) (fun q hq => (World.ownsRow.lt hown' q hq).1)
      have hsn := ownInts_snoc hown2
      have c1k : w1.cell? ⟨b, off + k * 5 + 4, none⟩ = some (.int .i64 (sz ts k : Int)) := (hbel2.cell (p := ⟨b, off + k * 5 + 4, none⟩) hbw).trans (HC.out k (by omega))
      obtain ⟨g, hg1, hg2⟩ := kidsFrom_step (z := sz ts) hlt hk3
      have hd := HD.out
      rw [hg2] at hd
      have H1 := Lib.hid (And.intro hsn (And.intro hbel2 (And.intro hg1 hd)))
      clear hown2 hgrow hbel2 hsn hg1 hg2 hd hown' c0 ck
      go_wp2
      go_roundw
      case rel =>
        obtain ⟨r1, r2, r3, r4⟩ := H1.out
        exact ⟨k + sz ts k, g, done ++ [k], by go_num, by omega, by omega, by simp; omega, by omega, by rw [← r4]; simp, r1, r2⟩
      case measure => simp [intOf]; omega
    · obtain rfl : k = at_ + sz ts at_ := by omega
      have hd := HD.out
      rw [kidsFrom_end (Nat.le_refl _), List.append_nil] at hd
      have H1 := Lib.hid hd
      clear hd HD hlt
      go_wp2
      go_ret
      exact ⟨_, rfl, by rw [← H1.out]; exact HOWN.out, HBEL.out⟩

/-- A parent's place as a number; -1 if there is none. -/
def parI : Option Nat → Int
  | none => -1
  | some p => (p : Int)

def ParPost (x : Option Nat) (w : World) (e : Ending) (w' : World) : Prop := e = .returned (.int .i64 (parI x)) ∧ w = w'

set_option maxRecDepth 100000 in
set_option maxHeartbeats 1000000 in
theorem parent_any (a : Option Addr) (len cap : Nat) (ts : List NodeD) (at_ : Nat) (w : World) (h : Nodes w a len ts) (hsz : ∀ j, j < len → Sz ts j) (hfit : ∀ j, j < len → j + sz ts j ≤ len) (hat : at_ < len) :
    Calls Tryd.prog 33 #[.slice a len cap, .int .i64 at_] w (ParPost (par (sz ts) at_) w) := by
  have hm := h.len.2
  obtain ⟨b, off, rfl, hc⟩ := h.at (by omega)
  have hc4 : ∀ j, j < len → w.cell? ⟨b, off + j * 5 + 4, none⟩ = some (.int .i64 (sz ts j : Int)) := fun j hj => by rw [(hc j hj).size, (hsz j hj).2.1]
  have HC := Lib.hid hc4
  have HF := Lib.hid hfit
  clear hc h hc4 hfit hsz
  go_enter Tryd.func33, Tryd.ntmps33
  go_wp2
  go_loop [5] (fun i => ∃ k : Nat, k ≤ at_ ∧ i = .int .i64 ((k : Int) - 1) ∧ parGo (sz ts) at_ k = par (sz ts) at_) (fun i => (intOf i + 1).toNat)
  case atStart => exact ⟨at_, by omega, by go_num, rfl⟩
  case round =>
    obtain ⟨k, hk, rfl, hp⟩ := hrel
    have HP := Lib.hid hp
    clear hp
    cases k with
    | zero =>
      go_wp2
      go_ret
      exact ⟨by rw [← HP.out]; rfl, rfl⟩
    | succ k =>
      have ck := HC.out k (by omega)
      have hkf := HF.out k (by omega)
      rw [show (((k + 1 : Nat) : Int)) - 1 = (k : Int) from by omega]
      by_cases hlt : at_ < k + sz ts k
      · have hd : par (sz ts) at_ = some k := by rw [← HP.out]; simp [parGo, hlt]
        have HD := Lib.hid hd
        clear hd
        go_wp2
        go_ret
        exact ⟨by rw [HD.out]; rfl, rfl⟩
      · have hd : parGo (sz ts) at_ k = par (sz ts) at_ := by rw [← HP.out]; simp [parGo, hlt]
        have HD := Lib.hid hd
        have hle : k + sz ts k ≤ at_ := by omega
        clear hd hlt
        go_wp2
        go_round
        case rel => exact ⟨k, by omega, by go_num, HD.out⟩
        case measure => simp [intOf]

end Go.Proofs.YtphppdbhofeagaaDoor
