/- Parts of a proof: Base, SpKids, Cells, ResCells, Goto, StrPost. -/
import Derived.Test.YtoanofdomhnafaaGreatDoorRows
import Derived.WalkKit
import Derived.WalkSpells
import Derived.WalkLawsBesides
import Derived.ProofKit
import Derived.BigQuiet
import Derived.Deep.QuietTactic
import Derived.Lib.Hide
import Derived.Tactics
import Derived.ScopeJumps
set_option linter.unusedVariables false
set_option linter.unusedSimpArgs false
namespace Go.Proofs.YtoanofdomhnafaaGreatDoor
open Go.RowKit
/-- Some bool, of which something is known; the world is as it was. -/
def SomeBool (P : Bool → Prop) (w : World) (e : Ending) (w' : World) : Prop := ∃ b : Bool, P b ∧ e = .returned (.bool b) ∧ w = w'
/-- The values behind a slice's address (one cell each). -/
def Row (w : World) (a : Option Addr) (len : Nat) (vs : List Value) : Prop :=
  vs.length = len ∧ len ≤ maxLen ∧ (0 < len → ∃ b off, a = some ⟨b, off, none⟩ ∧ ∀ i, i < len → w.cell? ⟨b, off + i, none⟩ = some (vs.getD i undef))
theorem Row.below {w w' : World} {a : Option Addr} {len : Nat} {vs : List Value} (h : Row w a len vs) (hb : Below w.heap.size w w') : Row w' a len vs := by
  obtain ⟨h1, h2, h3⟩ := h
  refine ⟨h1, h2, fun hl => ?_⟩
  obtain ⟨b, off, rfl, hc⟩ := h3 hl
  refine ⟨b, off, rfl, fun i hi => ?_⟩
  have := hc i hi
  exact (hb.cell (p := ⟨b, off + i, none⟩) (World.block_lt_of_cell? _ _ this)).trans this
/-- The strings behind a slice's address. -/
def Strs (w : World) (a : Option Addr) (len : Nat) (ss : List ByteArray) : Prop := Row w a len (ss.map .string)
theorem Strs.below {w w' : World} {a : Option Addr} {len : Nat} {ss : List ByteArray} (h : Strs w a len ss) (hb : Below w.heap.size w w') : Strs w' a len ss := Row.below h hb
theorem Strs.len {w : World} {a : Option Addr} {len : Nat} {ss : List ByteArray} (h : Strs w a len ss) : ss.length = len ∧ len ≤ 9223372036854775807 := by
  obtain ⟨h1, h2, _⟩ := h
  exact ⟨by simpa using h1, h2⟩
theorem Strs.at {w : World} {a : Option Addr} {len : Nat} {ss : List ByteArray} (h : Strs w a len ss) (hl : 0 < len) :
    ∃ b off, a = some ⟨b, off, none⟩ ∧ ∀ i, i < len → w.cell? ⟨b, off + i, none⟩ = some (.string (ss.getD i ByteArray.empty)) := by
  obtain ⟨h1, _, h3⟩ := h
  obtain ⟨b, off, rfl, hc⟩ := h3 hl
  refine ⟨b, off, rfl, fun i hi => ?_⟩
  rw [hc i hi]
  have h1' : ss.length = len := by simpa using h1
  have hi' : i < ss.length := by omega
  simp [List.getD, hi']
def kidsFrom (z : Nat → Nat) (e : Nat) : Nat → Nat → List Nat
  | 0, _ => []
  | f + 1, k => if k < e then k :: kidsFrom z e f (k + z k) else []
/-- The places of a node's kids. -/
def kids (z : Nat → Nat) (at_ : Nat) : List Nat := kidsFrom z (at_ + z at_) (z at_) (at_ + 1)
theorem kidsFrom_step {z : Nat → Nat} {e f k : Nat} (h : k < e) (hf : e - k ≤ f) : ∃ g, f = g + 1 ∧ kidsFrom z e f k = k :: kidsFrom z e g (k + z k) := by
  cases f with
  | zero => omega
  | succ g => exact ⟨g, rfl, by simp [kidsFrom, h]⟩
theorem kidsFrom_end {z : Nat → Nat} {e f k : Nat} (h : e ≤ k) : kidsFrom z e f k = [] := by
  cases f with
  | zero => rfl
  | succ g => simp [kidsFrom, show ¬ k < e by omega]
/-- Sizes that nest: every place up to n. -/
structure Nest (z : Nat → Nat) (n : Nat) : Prop where
  pos : ∀ i, i < n → 1 ≤ z i
  lam : ∀ i j, i < n → i ≤ j → j < i + z i → j + z j ≤ i + z i
  fit : ∀ i, i < n → i + z i ≤ n
/-- At block b lie these cells. -/
def World.objAt (w : World) (b : Nat) (cs : Array Value) (t : TypeId) : Prop := w.heap[b]? = some (.cells cs t (0, 0))
theorem World.objAt.lt {w : World} {b : Nat} {cs : Array Value} {t : TypeId} (h : World.objAt w b cs t) : b < w.heap.size := by
  unfold World.objAt at h
  obtain ⟨h, _⟩ := Array.getElem?_eq_some_iff.1 h
  exact h
theorem World.objAt.cell {w : World} {b : Nat} {cs : Array Value} {t : TypeId} (h : World.objAt w b cs t) {i : Nat} {v : Value} (hv : cs[i]? = some v) : w.cell? ⟨b, i, none⟩ = some v := by
  unfold World.objAt at h
  simp [World.cell?, h, hv]
theorem World.objAt.free {w : World} {b : Nat} {cs : Array Value} {t : TypeId} (h : World.objAt w b cs t) (o : Nat) : w.frozen? ⟨b, o, none⟩ = false := by
  unfold World.objAt at h
  simp [World.frozen?, h]
theorem setCell_heap {w : World} {b : Nat} {cs : Array Value} {t : TypeId} (h : World.objAt w b cs t) (i : Nat) (v : Value) :
    w.setCell ⟨b, i, none⟩ v = { w with heap := w.heap.setIfInBounds b (.cells (cs.setIfInBounds i v) t (0, 0)) } := by
  have hlt := h.lt
  unfold World.objAt at h
  unfold World.setCell
  congr 1
  apply Array.ext_getElem?
  intro k
  simp only [Array.getElem?_modify]
  by_cases hk : b = k
  · subst hk
    rw [if_pos rfl, h, Array.getElem?_setIfInBounds_self_of_lt hlt]
    simp
  · rw [Array.getElem?_setIfInBounds_ne hk, if_neg hk]
theorem World.objAt.set {w : World} {b : Nat} {cs : Array Value} {t : TypeId} (h : World.objAt w b cs t) (i : Nat) (v : Value) : World.objAt (w.setCell ⟨b, i, none⟩ v) b (cs.setIfInBounds i v) t := by
  have hlt := h.lt
  rw [setCell_heap h]
  unfold World.objAt
  exact Array.getElem?_setIfInBounds_self_of_lt hlt
theorem World.objAt.setBelow {w : World} {b : Nat} {cs : Array Value} {t : TypeId} (h : World.objAt w b cs t) (i : Nat) (v : Value) {B : Nat} {a : World} (ha : Below B a w) (hb : B ≤ b) : Below B a (w.setCell ⟨b, i, none⟩ v) := by
  rw [setCell_heap h]
  exact ha.trans ⟨rfl, rfl, rfl, by simp, fun k hk => Array.getElem?_setIfInBounds_ne (by omega)⟩
theorem objAt_alloc_new (w : World) (cs : Array Value) (t : TypeId) : World.objAt (w.alloc (.cells cs t)) w.heap.size cs t := by
  unfold World.objAt World.alloc
  simp
theorem World.objAt.below {w w' : World} {b B : Nat} {cs : Array Value} {t : TypeId} (h : World.objAt w b cs t) (hb : Below B w w') (hlt : b < B) : World.objAt w' b cs t := by
  unfold World.objAt at h ⊢
  rw [hb.block b hlt]
  exact h
theorem results_cell1 {fn : Func} {p : Tmp} {ty : TypeId} (h : fn.results = #[.cell p ty]) (tmps : Array Value) (P : Program) (w : World) :
    (results fn tmps).run P w = ((asAddr (tmps.getD p undef)).run P w).andThen fun a w₁ => (loadVar ty a).run P w₁ := by
  simp only [results, h]
  simp [Sem.run_bind, Result.andThen]
end Go.Proofs.YtoanofdomhnafaaGreatDoor
namespace Go.Proofs.YtoanofdomhnafaaGreatDoor
open Go
/-- By a goto to a label: J; else as Q. -/
def Exit.jumps (J : Nat → Act → World → Prop) (Q : Exit → Act → World → Prop) : Exit → Act → World → Prop
  | .goto l, a, w => J l a w
  | e, a, w => Q e a w
/-- What is left of a scope's run, with at most n jumps. -/
def ScW (P : Program) (c : Code) (Q : Exit → Act → World → Prop) : Nat → Code → Act → World → Prop
  | 0, r, a, w => r.wp P (Exit.jumps (fun _ _ _ => False) Q) a w
  | n + 1, r, a, w => r.wp P (Exit.jumps (fun l a' w' => ∃ rest, findLabel c l = some rest ∧ ScW P c Q n rest a' w') Q) a w
theorem wp_scope_of {P : Program} {c : Code} {Q : Exit → Act → World → Prop} (n : Nat) {a : Act} {w : World} (h : ScW P c Q n c a w) : (Code.scope c).wp P Q a w := by
  intro b k cs
  have key : ∀ n r a w, ScW P c Q n r a w → ∃ e a' w', Q e a' w' ∧ Arrives P (lone (b.at a (.code r :: .inScope c :: k)) cs w) b k cs e a' w' := by
    intro n
    induction n with
    | zero =>
      intro r a w h
      obtain ⟨e, a₁, w₁, hq, harr⟩ := h b (.inScope c :: k) cs
      cases e with
      | normal => exact ⟨.normal, a₁, w₁, hq, Steps.trans harr (.one step_inScope)⟩
      | exit id => exact ⟨.exit id, a₁, w₁, hq, fun k' hk => harr k' (by simp [exitTo, hk])⟩
      | goto l' => exact hq.elim
      | ret => exact ⟨_, a₁, w₁, hq, harr⟩
      | panic ch => exact ⟨_, a₁, w₁, hq, harr⟩
      | outgrown => exact ⟨_, a₁, w₁, hq, harr⟩
    | succ n ih =>
      intro r a w h
      obtain ⟨e, a₁, w₁, hq, harr⟩ := h b (.inScope c :: k) cs
      cases e with
      | normal => exact ⟨.normal, a₁, w₁, hq, Steps.trans harr (.one step_inScope)⟩
      | exit id => exact ⟨.exit id, a₁, w₁, hq, fun k' hk => harr k' (by simp [exitTo, hk])⟩
      | goto l' =>
        obtain ⟨rest, hf, hS⟩ := hq
        have hg : gotoIn l' (.inScope c :: k) = some (.code rest :: .inScope c :: k) := by simp [gotoIn, hf]
        obtain ⟨e₂, a₂, w₂, hq₂, harr₂⟩ := ih rest a₁ w₁ hS
        exact ⟨e₂, a₂, w₂, hq₂, .of_steps (harr _ hg) harr₂⟩
      | ret => exact ⟨_, a₁, w₁, hq, harr⟩
      | panic ch => exact ⟨_, a₁, w₁, hq, harr⟩
      | outgrown => exact ⟨_, a₁, w₁, hq, harr⟩
  obtain ⟨e, a₁, w₁, hq, harr⟩ := key n c a w h
  exact ⟨e, a₁, w₁, hq, .of_steps (.one step_scope) harr⟩
end Go.Proofs.YtoanofdomhnafaaGreatDoor
namespace Go.Proofs.YtoanofdomhnafaaGreatDoor
open Go.RowKit
/-- It returns this text; what was there is as it was. -/
def StrPost (t : ByteArray) (w : World) (e : Ending) (w' : World) : Prop := e = .returned (.string t) ∧ Below w.heap.size w w'
end Go.Proofs.YtoanofdomhnafaaGreatDoor
