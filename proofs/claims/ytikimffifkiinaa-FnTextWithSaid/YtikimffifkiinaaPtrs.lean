/- Slices of pointers, of places. -/
import Derived.Test.YtikimffifkiinaaKids
import Derived.Test.YtikimffifkiinaaDom
import Derived.LaidEqlPtr
namespace Go.Proofs.Ytikimffifkiinaa
open Go.RowKit
set_option linter.unusedVariables false
set_option linter.unusedSimpArgs false

theorem Try.infoPtr : (Try.prog.info? 53).map (fun i => (i.zero, i.size, i.bytes)) = some (some (.pointer none), 1, 8) := by kernel_rfl

def ptrV (b : Nat) : Value := .pointer (some ⟨b, 0, none⟩)
def intV (n : Nat) : Value := .int .i64 (n : Int)

/-- A slice that reads as some values (one cell each). -/
def ReadsAs (w : World) (v : Value) (vs : List Value) : Prop := ∃ a cap, v = .slice a vs.length cap ∧ vs.length ≤ cap ∧ cap ≤ maxLen ∧ Row w a vs.length vs

def OwnPtrs (w : World) (B : Nat) (v : Value) (l : List Nat) : Prop := w.ownsRow B 53 1 v l.length (l.map ptrV)
def PtrsOf (w : World) (v : Value) (l : List Nat) : Prop := ReadsAs w v (l.map ptrV)

theorem ReadsAs.below {w w' : World} {v : Value} {l : List Value} (h : ReadsAs w v l) (hb : Below w.heap.size w w') : ReadsAs w' v l := by
  obtain ⟨a, cap, h1, h2, h3, h4⟩ := h
  exact ⟨a, cap, h1, h2, h3, h4.below hb⟩

theorem owns_reads {w : World} {B : Nat} {v : Value} {t : TypeId} {l : List Value} (h : w.ownsRow B t 1 v l.length l) : ReadsAs w v l := by
  rcases h.2 with ⟨rfl, h0⟩ | ⟨g, cap, cur, rfl, hb, hg, hn, hm, hcs, ht⟩
  · have : l = [] := List.eq_nil_of_length_eq_zero h0
    subst this
    exact ⟨none, 0, rfl, Nat.le_refl _, Nat.zero_le _, rfl, Nat.zero_le _, fun h => absurd h (Nat.lt_irrefl 0)⟩
  · refine ⟨_, cap, rfl, hn, hm, by simp, by omega, fun hl => ⟨g, 0, rfl, fun i hi => ?_⟩⟩
    have := h.cells (g := g) rfl i (l.getD i undef) (by rw [List.getD_eq_getElem?_getD]; simp [hi])
    have hadd : (⟨g, 0, none⟩ : Addr).add i = ⟨g, 0 + i, none⟩ := by unfold Addr.add; split <;> simp_all
    rw [hadd] at this
    exact this

theorem OwnPtrs.ptrs {w : World} {B : Nat} {v : Value} {l : List Nat} (h : OwnPtrs w B v l) : PtrsOf w v l := by
  have := owns_reads (l := l.map ptrV) (by simpa [OwnPtrs] using h)
  exact this

theorem ownPtrs_snoc {w1 : World} {B : Nat} {v' : Value} {done : List Nat} {k : Nat} (h : w1.ownsRow B 53 1 v' (done.length + 1) (List.map ptrV done ++ [ptrV k])) : OwnPtrs w1 B v' (done ++ [k]) := by
  unfold OwnPtrs
  simpa using h

/-- A slice that came in, or was made: its values' cells. -/
theorem ReadsAs.at {w : World} {v : Value} {vs : List Value} (h : ReadsAs w v vs) (h0 : 0 < vs.length) : ∃ b off cap, v = .slice (some ⟨b, off, none⟩) vs.length cap ∧ vs.length ≤ 9223372036854775807 ∧ ∀ i, i < vs.length → w.cell? ⟨b, off + i, none⟩ = some (vs.getD i undef) := by
  obtain ⟨a, cap, rfl, h2, h3, h4, h5, h6⟩ := h
  obtain ⟨b, off, rfl, hc⟩ := h6 h0
  exact ⟨b, off, cap, rfl, h5, hc⟩

theorem ReadsAs.nil {w : World} {v : Value} {vs : List Value} (h : ReadsAs w v vs) : ∃ a cap, v = .slice a vs.length cap ∧ vs.length ≤ 9223372036854775807 := by
  obtain ⟨a, cap, rfl, h2, h3, h4, h5, h6⟩ := h
  exact ⟨a, cap, rfl, h5⟩

theorem ptr_cells {l : List Nat} {w : World} {b off : Nat} (h : ∀ i, i < (l.map ptrV).length → w.cell? ⟨b, off + i, none⟩ = some ((l.map ptrV).getD i undef)) : ∀ i, i < l.length → w.cell? ⟨b, off + i, none⟩ = some (.pointer (some ⟨l.getD i 0, 0, none⟩)) := fun i hi => by
  rw [h i (by simpa using hi)]
  simp [List.getD, hi, ptrV]

theorem int_cells {l : List Nat} {w : World} {b off : Nat} (h : ∀ i, i < (l.map intV).length → w.cell? ⟨b, off + i, none⟩ = some ((l.map intV).getD i undef)) : ∀ i, i < l.length → w.cell? ⟨b, off + i, none⟩ = some (.int .i64 ((l.getD i 0 : Nat) : Int)) := fun i hi => by
  rw [h i (by simpa using hi)]
  simp [List.getD, hi, intV]

/-- A block that is there. -/
def Alive (w : World) (b : Nat) : Prop := ∃ c t, w.heap[b]? = some (.cells c t (0, 0))

theorem World.nodeAt.alive {w : World} {b : Nat} {r : NRec} (h : World.nodeAt w b r) : Alive w b := ⟨_, _, h⟩
theorem Alive.lt {w : World} {b : Nat} (h : Alive w b) : b < w.heap.size := by obtain ⟨c, t, h⟩ := h; exact (Array.getElem?_eq_some_iff.1 h).1
theorem Alive.below {w w' : World} {b : Nat} (h : Alive w b) (hb : Below w.heap.size w w') : Alive w' b := by
  have hl := h.lt
  obtain ⟨c, t, h⟩ := h
  exact ⟨c, t, (hb.block b hl).trans h⟩

theorem Try.node_info : ∃ j, Try.prog.info? 59 = some j ∧ j.size ≠ 0 := by
  have h : (Try.prog.info? 59).map (fun i => decide (i.size ≠ 0)) = some true := by kernel_rfl
  obtain ⟨i, hi, hz⟩ := Option.map_eq_some_iff.1 h
  exact ⟨i, hi, of_decide_eq_true hz⟩

theorem eql_same (w : World) (b : Nat) : (binOp .eql 53 (.pointer (some ⟨b, 0, none⟩)) (.pointer (some ⟨b, 0, none⟩))).run Try.prog w = .ok (.bool true) w := by
  obtain ⟨j, hj, _⟩ := Try.node_info
  exact run_eql_ptr_same w _ Try.underlying53 hj

theorem eql_other {w : World} {a b : Nat} (ha : Alive w a) (hb : Alive w b) (hne : a ≠ b) : (binOp .eql 53 (.pointer (some ⟨a, 0, none⟩)) (.pointer (some ⟨b, 0, none⟩))).run Try.prog w = .ok (.bool false) w := by
  obtain ⟨j, hj, hz⟩ := Try.node_info
  obtain ⟨ca, ta, ha⟩ := ha
  obtain ⟨cb, tb, hb⟩ := hb
  exact run_eql_ptr_other w Try.underlying53 hj hz (by simp [hne]) ha hb

/-- Where a block stands among some; -1 if nowhere. -/
def findAt (l : List Nat) (b : Nat) : Nat → Int
  | 0 => -1
  | f + 1 => if l.getD (l.length - (f + 1)) 0 = b then ((l.length - (f + 1) : Nat) : Int) else findAt l b f
def findI (l : List Nat) (b : Nat) : Int := findAt l b l.length

theorem findAt_step {l : List Nat} {b k : Nat} (hk : k < l.length) : findAt l b (l.length - k) = if l.getD k 0 = b then (k : Int) else findAt l b (l.length - (k + 1)) := by
  obtain ⟨f, hf⟩ : ∃ f, l.length - k = f + 1 := ⟨l.length - k - 1, by omega⟩
  have h1 : l.length - (f + 1) = k := by omega
  have h2 : l.length - (k + 1) = f := by omega
  rw [hf, h2]
  simp only [findAt, h1]

/-- It stands at a place of this value; ahead of it nowhere. -/
theorem findAt_is {l : List Nat} {b : Nat} : ∀ f, f ≤ l.length → (findAt l b f = -1 ∧ ∀ i, l.length - f ≤ i → i < l.length → l.getD i 0 ≠ b) ∨ (∃ k : Nat, findAt l b f = (k : Int) ∧ l.length - f ≤ k ∧ k < l.length ∧ l.getD k 0 = b) := by
  intro f
  induction f with
  | zero => intro _; exact .inl ⟨rfl, fun i a b => by omega⟩
  | succ f ih =>
    intro hf
    simp only [findAt]
    split
    · rename_i h
      exact .inr ⟨_, rfl, Nat.le_refl _, by omega, h⟩
    · rename_i h
      rcases ih (by omega) with ⟨h1, h2⟩ | ⟨k, h1, h2, h3, h4⟩
      · refine .inl ⟨h1, fun i a b => ?_⟩
        by_cases e : i = l.length - (f + 1)
        · subst e; exact h
        · exact h2 i (by omega) b
      · exact .inr ⟨k, h1, by omega, h3, h4⟩

theorem findI_none {l : List Nat} {b : Nat} (h : b ∉ l) : findI l b = -1 := by
  rcases findAt_is (l := l) (b := b) l.length (Nat.le_refl _) with ⟨h1, _⟩ | ⟨k, _, _, h3, h4⟩
  · exact h1
  · exact absurd (h4 ▸ getD_mem' h3) h

theorem findI_some {l : List Nat} {b k : Nat} (hk : k < l.length) (he : l.getD k 0 = b) (hn : ∀ i, i < l.length → l.getD i 0 = b → i = k) : findI l b = (k : Int) := by
  rcases findAt_is (l := l) (b := b) l.length (Nat.le_refl _) with ⟨h1, h2⟩ | ⟨j, h1, _, h3, h4⟩
  · exact absurd he (h2 k (by omega) hk)
  · unfold findI; rw [h1, hn j h3 h4]

def IntPost (i : Int) (w : World) (e : Ending) (w' : World) : Prop := e = .returned (.int .i64 i) ∧ w = w'

set_option maxRecDepth 100000 in
set_option maxHeartbeats 1000000 in
theorem index_any (v : Value) (l : List Nat) (p : Nat) (w : World) (h : PtrsOf w v l) (hal : ∀ i, i < l.length → Alive w (l.getD i 0)) (hp : Alive w p) :
    Calls Try.prog 72 #[v, .pointer (some ⟨p, 0, none⟩)] w (IntPost (findI l p) w) := by
  obtain ⟨a, cap, rfl, hm⟩ := h.nil
  have hl : (l.map ptrV).length = l.length := by simp
  rw [hl] at hm h ⊢
  have hcell : ∃ b off, (0 < l.length → a = some ⟨b, off, none⟩) ∧ ∀ i, i < l.length → w.cell? ⟨b, off + i, none⟩ = some (.pointer (some ⟨l.getD i 0, 0, none⟩)) := by
    by_cases h0 : 0 < l.length
    · obtain ⟨b, off, cap', he, _, hc⟩ := h.at (by simpa using h0)
      simp at he
      exact ⟨b, off, fun _ => he.1, ptr_cells hc⟩
    · exact ⟨0, 0, fun h => absurd h h0, fun i hi => by omega⟩
  obtain ⟨b, off, ha, hc⟩ := hcell
  have HA := Lib.hid ha
  have HC := Lib.hid hc
  have HAL := Lib.hid hal
  have HP := Lib.hid hp
  clear h hl ha hc hal hp
  go_enter Try.func72, Try.ntmps72
  go_wp2
  go_loop [11] (fun i => ∃ k : Nat, k ≤ l.length ∧ i = .int .i64 (k : Int) ∧ findAt l p (l.length - k) = findI l p) (fun i => l.length - (intOf i).toNat)
  case atStart => exact ⟨0, by omega, by go_num, rfl⟩
  case round =>
    obtain ⟨k, hk, rfl, hf⟩ := hrel
    have HF := Lib.hid hf
    clear hf
    by_cases hlt : k < l.length
    · have hcur := HC.out k hlt
      obtain rfl := HA.out (by omega)
      by_cases he : l.getD k 0 = p
      · rw [he] at hcur
        have heq := eql_same w p
        go_wp2
        go_ret
        have := HF.out
        rw [findAt_step hlt, if_pos he] at this
        rw [← this]
        exact ⟨rfl, rfl⟩
      · obtain ⟨x, hx⟩ : ∃ x, l.getD k 0 = x := ⟨_, rfl⟩
        rw [hx] at hcur he
        have heq := eql_other (by rw [← hx]; exact HAL.out k hlt) HP.out he
        have HX := Lib.hid hx
        clear hx
        go_wp2
        go_round
        case rel => exact ⟨k + 1, by omega, by go_num, by
            have := HF.out
            rw [findAt_step hlt, HX.out, if_neg he] at this
            exact this⟩
        case measure => simp [intOf]; omega
    · obtain rfl : k = l.length := by omega
      have hf := HF.out
      go_wp2
      go_ret
      simp only [Nat.sub_self, findAt] at hf
      rw [← hf]
      exact ⟨rfl, rfl⟩

end Go.Proofs.Ytikimffifkiinaa
