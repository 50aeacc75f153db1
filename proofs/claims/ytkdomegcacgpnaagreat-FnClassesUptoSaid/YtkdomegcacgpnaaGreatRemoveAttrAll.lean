/- A region whose loads all come ahead of its first store: a condition on the world that need hold only up to that store. goquery.removeAttr: the class attribute of a node. -/
import Derived.Test.YtkdomegcacgpnaaGreatBaseAll
import Derived.Deep.RegionHeld3
import Derived.StillTail
import Derived.Test.YtkdomegcacgpnaaGreatIntsAll
import Derived.Test.YtkdomegcacgpnaaGreatKnotAll
import Derived.Test.YtkdomegcacgpnaaGreatAloneAll
import Derived.Test.YtkdomegcacgpnaaGreatSegAll
import Derived.BigRegion
import Derived.RegionTactic
import Derived.ChangeAlike
namespace Go.Proofs.YtkdomegcacgpnaaGreat
open Go
set_option linter.unusedVariables false
set_option linter.unusedSimpArgs false

section
variable {P : Program} {ops : Array Oper} {Q : Exit → Act → World → Prop} {md : Region.Mode} {S : World → Prop} {k0 : Nat}

/-- Whatever order is picked from here on; S holds as long as operation k0 has not come up. -/
def wpAnyG (P : Program) (md : Region.Mode) (ops : Array Oper) (Q : Exit → Act → World → Prop) (S : World → Prop) (k0 : Nat) : Nat → Array Bool → Act → World → Prop
  | 0, listed, a, w => Region.ready md ops listed = [] ∧ Q .normal a w
  | fuel + 1, listed, a, w =>
    (Region.ready md ops listed = [] → Q .normal a w) ∧
    ∀ i ∈ Region.ready md ops listed, wpOp P ops Q i (fun a' w' => ((listed.setIfInBounds i true).getD k0 true = false → S w') ∧ wpAnyG P md ops Q S k0 fuel (listed.setIfInBounds i true) a' w') a w

theorem wpAny_of_G : ∀ (fuel : Nat) (listed : Array Bool) (a : Act) (w : World), wpAnyG P md ops Q S k0 fuel listed a w → wpAny P md ops Q fuel listed a w
  | 0, _, _, _, h => h
  | fuel + 1, _, _, _, h => ⟨h.1, fun i hi => wpOp_mono (fun a' w' h' => wpAny_of_G fuel _ a' w' h'.2) (h.2 i hi)⟩

/-- An operation that yields its value in every world that meets T may be taken first: T is S and the operation comes ahead of k0, or T holds of every world. -/
theorem wpAnyG_first {T : World → Prop} {i : Nat} {oi : Oper} {v : Value} (hik : i ≠ k0) (hi : ops[i]? = some oi) (hsel : ∀ (j : Nat) (o : Oper) cs b, ops[j]? = some o → o.op ≠ .select cs b)
    (hQ : ∀ c a w, Q (.panic c) (a.put oi.dst v) w → Q (.panic c) a w) (hT : (∀ w, T w) ∨ ((∀ w, S w → T w) ∧ ∃ ok, ops[k0]? = some ok ∧ ∃ e ∈ ok.after, Region.binds md e = true ∧ e.on = i)) :
    ∀ (fuel : Nat) (listed : Array Bool) (a : Act) (w : World),
      (∀ j oj, ops[j]? = some oj → j ≠ i → listed.getD j true = false → (∀ e ∈ oj.after, Region.binds md e = true → e.on ≠ i) → oi.apart ops oj = true) →
      i ∈ Region.ready md ops listed → YieldsIf P ops T oi v a → (listed.getD k0 true = false → S w) → T w → ((∀ w, T w) ∨ listed.getD k0 true = false) →
      wpAnyG P md ops Q S k0 fuel (listed.setIfInBounds i true) (a.put oi.dst v) w → wpAnyG P md ops Q S k0 (fuel + 1) listed a w := by
  have hset : ∀ listed : Array Bool, (listed.setIfInBounds i true).getD k0 true = listed.getD k0 true := fun listed => getD_set_ne true hik
  intro fuel
  induction fuel with
  | zero =>
    intro listed a w _ hr hy hS hTw hu H
    refine ⟨fun h => (by rw [h] at hr; cases hr), fun j hj => ?_⟩
    by_cases hji : j = i
    · subst hji; exact hy.wpOp hi hTw ⟨fun h => hS (by rwa [hset] at h), H⟩
    · have := ready_mono hj hji
      rw [H.1] at this
      cases this
  | succ fuel ih =>
    intro listed a w hfree hr hy hS hTw hu H
    refine ⟨fun h => (by rw [h] at hr; cases hr), fun j hj => ?_⟩
    by_cases hji : j = i
    · subst hji; exact hy.wpOp hi hTw ⟨fun h => hS (by rwa [hset] at h), H⟩
    · have h1 := H.2 j (ready_mono hj hji)
      obtain ⟨hjun, oj, hoj, hall⟩ := mem_ready.1 hj
      have hnot : ∀ e ∈ oj.after, Region.binds md e = true → e.on ≠ i := fun e he hb heq => by
        have h1 := hall e he hb
        have h0 := (mem_ready.1 hr).1
        rw [heq] at h1
        rcases Nat.lt_or_ge i listed.size with h' | h'
        · simp [h'] at h0 h1; rw [h0] at h1; cases h1
        · simp [Array.getElem?_eq_none h'] at h1
      have h2 := wpOp_putIf hoj (hfree j oj hoj hji hjun hnot) (fun cs b => hsel i oi cs b hi) (fun cs b => hsel j oj cs b hoj) hQ hy h1
      have hfree' : ∀ k ok, ops[k]? = some ok → k ≠ i → (listed.setIfInBounds j true).getD k true = false →
          (∀ e ∈ ok.after, Region.binds md e = true → e.on ≠ i) → oi.apart ops ok = true := fun k ok hk hki hun hno => by
        refine hfree k ok hk hki ?_ hno
        by_cases hjk : j = k
        · subst hjk; exact hjun
        · rw [getD_set_ne true hjk] at hun; exact hun
      refine wpOp_mono (fun a' w' h3 => ?_) h2
      have e3 : ((listed.setIfInBounds i true).setIfInBounds j true).getD k0 true = (listed.setIfInBounds j true).getD k0 true := by
        rw [Array.setIfInBounds_comm _ _ (Ne.symm hji), hset]
      have hS' : (listed.setIfInBounds j true).getD k0 true = false → S w' := fun h => h3.2.1 (by rw [e3]; exact h)
      have hTu : T w' ∧ ((∀ w, T w) ∨ (listed.setIfInBounds j true).getD k0 true = false) := by
        rcases hT with hT | ⟨hT, ok, hok, e, he, hb, hon⟩
        · exact ⟨hT w', .inl hT⟩
        · have hjk : j ≠ k0 := fun hjk => by
            subst hjk
            have : oj = ok := Option.some.inj (hoj.symm.trans hok)
            subst this
            exact hnot e he hb hon
          rcases hu with hu | hu
          · exact ⟨hu w', .inl hu⟩
          · have h5 : (listed.setIfInBounds j true).getD k0 true = false := by rw [getD_set_ne true hjk]; exact hu
            exact ⟨hT w' (hS' h5), .inr h5⟩
      refine ⟨hS', ih (listed.setIfInBounds j true) a' w' hfree' (ready_mono hr (Ne.symm hji)) h3.1 hS' hTu.1 hTu.2 ?_⟩
      rw [Array.setIfInBounds_comm _ _ hji]
      exact h3.2.2

/-- A load, ahead of k0. -/
theorem wpAnyG_load {i : Nat} {oi : Oper} {v : Value} {fuel : Nat} {listed : Array Bool} {a : Act} {w : World} (hi : ops[i]? = some oi)
    (hs : Region.noSelect ops = true) (hf : Region.free md ops listed i = true) (hr : (Region.ready md ops listed).contains i = true)
    (hQ : ∀ c a w, Q (.panic c) (a.put oi.dst v) w → Q (.panic c) a w) (hw : Region.waitsFor md ops k0 i = true) (hu : listed.getD k0 true = false) (hik : (i == k0) = false) (hy : YieldsIf P ops S oi v a) (hS : S w)
    (h : wpAnyG P md ops Q S k0 fuel (listed.setIfInBounds i true) (a.put oi.dst v) w) : wpAnyG P md ops Q S k0 (fuel + 1) listed a w :=
  wpAnyG_first (T := S) (by simpa using hik) hi (Region.noSelect_spec hs) hQ (.inr ⟨fun _ h => h, Region.waitsFor_spec hw⟩) fuel listed a w (Region.free_spec hi hf) (by simpa using hr) hy (fun _ => hS) hS (.inr hu) h

/-- An operation that looks at no memory. -/
theorem wpAnyG_pure {i : Nat} {oi : Oper} {v : Value} {fuel : Nat} {listed : Array Bool} {a : Act} {w : World} (hi : ops[i]? = some oi)
    (hs : Region.noSelect ops = true) (hf : Region.free md ops listed i = true) (hr : (Region.ready md ops listed).contains i = true)
    (hQ : ∀ c a w, Q (.panic c) (a.put oi.dst v) w → Q (.panic c) a w) (hik : (i == k0) = false) (hy : YieldsIf P ops (fun _ => True) oi v a) (hS : listed.getD k0 true = false → S w)
    (h : wpAnyG P md ops Q S k0 fuel (listed.setIfInBounds i true) (a.put oi.dst v) w) : wpAnyG P md ops Q S k0 (fuel + 1) listed a w :=
  wpAnyG_first (T := fun _ => True) (by simpa using hik) hi (Region.noSelect_spec hs) hQ (.inl fun _ => trivial) fuel listed a w (Region.free_spec hi hf) (by simpa using hr) hy hS trivial (.inl fun _ => trivial) h

/-- The only one that may come up: a store. -/
theorem wpAnyG_one {i : Nat} {o : Oper} {fuel : Nat} {listed : Array Bool} {a : Act} {w : World} (hr : Region.ready md ops listed = [i]) (ho : ops[i]? = some o)
    (h : ∀ K' : Act → World → Prop, Shut (∀ a w, ((listed.setIfInBounds i true).getD k0 true = false → S w) → wpAnyG P md ops Q S k0 fuel (listed.setIfInBounds i true) a w → K' a w) → if Region.wanted o (yielded ops a.tmps) = true then Oper.wp P o a w K' Q else K' (a.put o.dst undef) w) :
    wpAnyG P md ops Q S k0 (fuel + 1) listed a w := by
  refine ⟨fun h0 => (by rw [h0] at hr; cases hr), fun j hj => ?_⟩
  rw [hr] at hj
  simp at hj
  subst hj
  exact wpOp_step ho (fun K' hK => h K' (fun a w hS hW => hK a w ⟨hS, hW⟩))

theorem wpAnyG_done {listed : Array Bool} {a : Act} {w : World} (hr : Region.ready md ops listed = []) (h : Q .normal a w) :
    ∀ fuel, wpAnyG P md ops Q S k0 fuel listed a w
  | 0 => ⟨hr, h⟩
  | _ + 1 => ⟨fun _ => h, by rw [hr]; simp⟩

theorem wp_region_G {id : Nat} {a : Act} {w : World} (hm : P.follows .mixedOrders = true) (hS : S w.drew)
    (h : S w.drew → wpAnyG P .any ops Q S k0 ops.size (Array.replicate ops.size false) a w.drew) : (Code.region id ops true).wp P Q a w :=
  wp_region_any hm (wpAny_of_G _ _ _ _ (h hS))

end
end Go.Proofs.YtkdomegcacgpnaaGreat

namespace Go.Proofs.YtkdomegcacgpnaaGreat
open Go.RowKit
set_option linter.unusedVariables false
set_option linter.unusedSimpArgs false

theorem row_cap {w : World} {B : Nat} {e : TypeId} {size n cap : Nat} {a : Option Addr} {xs : List Value} (h : w.ownsRow B e size (.slice a n cap) n xs) : n ≤ cap ∧ cap ≤ 9223372036854775807 := by
  rcases h.2 with ⟨hv, hz⟩ | ⟨g, cap', cur, hv, hb, hg, hn, hm, hcs, ht⟩
  · simp at hv
    obtain ⟨_, rfl, rfl⟩ := hv
    exact ⟨Nat.le_refl _, Nat.zero_le _⟩
  · simp at hv
    obtain ⟨_, rfl⟩ := hv
    exact ⟨hn, hm⟩

/-- Attributes without the class: the last one stands in its place. -/
def RemC (l l' : List (ByteArray × ByteArray)) : Prop :=
  ((∀ x ∈ l, (x.1.toList == [99, 108, 97, 115, 115]) = false) ∧ l' = l) ∨ ∃ i, i < l.length ∧ ((l.getD i default).1.toList == [99, 108, 97, 115, 115]) = true ∧ l' = (l.set i (l.getD (l.length - 1) default)).dropLast

structure Unattr (B b : Nat) (r : NRec) (l : List (ByteArray × ByteArray)) (w w' : World) (v' : Value) (l' : List (ByteArray × ByteArray)) : Prop where
  rem : RemC l l'
  node : World.nodeAt w' b { r with attr := v' }
  own : w'.ownsRow B 119 3 v' l'.length (attrCells l')
  same : v'.ownBlock = r.attr.ownBlock
  keep : ∀ k, k < w.heap.size → k ≠ b → (0 < l.length → r.attr.ownBlock ≠ some k) → w'.heap[k]? = w.heap[k]?
  size : w.heap.size ≤ w'.heap.size
  bel : ∀ B', B' ≤ B → B' ≤ b → Below B' w w'

theorem attrCells_set3 : ∀ (l : List (ByteArray × ByteArray)) (i : Nat) (k v : ByteArray), i < l.length → (((attrCells l).set (i * 3) (.string ByteArray.empty)).set (i * 3 + 1) (.string k)).set (i * 3 + 2) (.string v) = attrCells (l.set i (k, v))
  | [], i, _, _, h => by simp at h
  | x :: r, 0, k, v, _ => by
    have e : attrCells (x :: r) = Value.string ByteArray.empty :: .string x.1 :: .string x.2 :: attrCells r := by simp [attrCells]
    have e2 : attrCells ((x :: r).set 0 (k, v)) = Value.string ByteArray.empty :: .string k :: .string v :: attrCells r := by simp [attrCells]
    rw [e, e2]
    rfl
  | x :: r, i + 1, k, v, h => by
    have e : attrCells (x :: r) = Value.string ByteArray.empty :: .string x.1 :: .string x.2 :: attrCells r := by simp [attrCells]
    have e2 : attrCells ((x :: r).set (i + 1) (k, v)) = Value.string ByteArray.empty :: .string x.1 :: .string x.2 :: attrCells (r.set i (k, v)) := by simp [attrCells]
    have ih := attrCells_set3 r i k v (by simpa using h)
    rw [e, e2, ← ih, show (i + 1) * 3 = i * 3 + 1 + 1 + 1 by omega, show i * 3 + 1 + 1 + 1 + 1 = (i * 3 + 1) + 1 + 1 + 1 by omega, show i * 3 + 1 + 1 + 1 + 2 = (i * 3 + 2) + 1 + 1 + 1 by omega]
    simp only [List.set_cons_succ]

theorem attrCells_take : ∀ (l : List (ByteArray × ByteArray)) (J : Nat), (attrCells l).take (J * 3) = attrCells (l.take J)
  | [], J => by simp [attrCells]
  | x :: r, 0 => by simp [attrCells]
  | x :: r, J + 1 => by
    have e : attrCells (x :: r) = Value.string ByteArray.empty :: .string x.1 :: .string x.2 :: attrCells r := by simp [attrCells]
    have e2 : attrCells ((x :: r).take (J + 1)) = Value.string ByteArray.empty :: .string x.1 :: .string x.2 :: attrCells (r.take J) := by simp [attrCells]
    rw [e, e2, ← attrCells_take r J, show (J + 1) * 3 = J * 3 + 1 + 1 + 1 by omega]
    simp only [List.take_succ_cons]

/-- A row, shortened. -/
theorem ownsRow_less {w : World} {B : Nat} {e : TypeId} {size g n cap : Nat} {xs : List Value} (h : w.ownsRow B e size (.slice (some ⟨g, 0, none⟩) n cap) n xs) {m : Nat} (hm : m ≤ n) : w.ownsRow B e size (.slice (some ⟨g, 0, none⟩) m cap) m (xs.take (m * size)) := by
  rcases h.2 with ⟨h1, _⟩ | ⟨g', cap', cur, hv, hb, hg, hn, hmx, hcs, ht⟩
  · simp at h1
  · simp at hv
    obtain ⟨rfl, rfl⟩ := hv
    have hle : m * size ≤ n * size := Nat.mul_le_mul_right size hm
    refine ⟨by rw [List.length_take, h.1]; omega, .inr ⟨g, cap, cur, rfl, hb, hg, by omega, hmx, hcs, ?_⟩⟩
    rw [← ht, List.take_take, Nat.min_eq_left hle]

theorem unattr_fin {B b g cap : Nat} {w X : World} {r : NRec} {l : List (ByteArray × ByteArray)} (hrow : X.ownsRow B 119 3 (.slice (some ⟨g, 0, none⟩) l.length cap) l.length (attrCells l)) (hnode : World.nodeAt X b r) (hbel : Below w.heap.size w X) (hb : b < w.heap.size) (hgb : g ≠ b) (hra : r.attr = .slice (some ⟨g, 0, none⟩) l.length cap) {i J : Nat} (hi : i < l.length) (hJ : J + 1 = l.length) (hq : ((l.getD i default).1.toList == [99, 108, 97, 115, 115]) = true) {k2 v2 : ByteArray} (hk : l.getD J default = (k2, v2)) (z : Value) :
    Unattr B b r l w (((((((X.setCell ⟨g, i * 3, none⟩ (.string ByteArray.empty)).setCell ⟨g, i * 3 + 1, none⟩ (.string k2)).setCell ⟨g, i * 3 + 2, none⟩ (.string v2)).setCell ⟨g, J * 3, none⟩ z).setCell ⟨g, J * 3 + 1, none⟩ z).setCell ⟨g, J * 3 + 2, none⟩ z).setCell ⟨b, 9, none⟩ (.slice (some ⟨g, 0, none⟩) J cap)).drew (.slice (some ⟨g, 0, none⟩) J cap) ((l.set i (k2, v2)).dropLast) := by
  have hgB := (World.ownsRow.lt hrow g rfl).1
  have r1 := ownsRow_set hrow (i := i * 3) (by omega) (.string ByteArray.empty)
  have r2 := ownsRow_set r1 (i := i * 3 + 1) (by omega) (.string k2)
  have r3 := ownsRow_set r2 (i := i * 3 + 2) (by omega) (.string v2)
  rw [attrCells_set3 l i k2 v2 hi] at r3
  have r4 := ownsRow_set r3 (i := J * 3) (by omega) z
  have r5 := ownsRow_set r4 (i := J * 3 + 1) (by omega) z
  have r6 := ownsRow_set r5 (i := J * 3 + 2) (by omega) z
  have r7 := ownsRow_less r6 (m := J) (by omega)
  rw [List.take_set_of_le (by omega), List.take_set_of_le (by omega), List.take_set_of_le (by omega), attrCells_take] at r7
  have hdl : (l.set i (k2, v2)).dropLast = (l.set i (k2, v2)).take J := by
    rw [List.dropLast_eq_take, List.length_set]
    congr 1
    omega
  have hdn : ((l.set i (k2, v2)).dropLast).length = J := by rw [List.length_dropLast, List.length_set]; omega
  obtain ⟨Y, hY⟩ : ∃ Y, (((((X.setCell ⟨g, i * 3, none⟩ (.string ByteArray.empty)).setCell ⟨g, i * 3 + 1, none⟩ (.string k2)).setCell ⟨g, i * 3 + 2, none⟩ (.string v2)).setCell ⟨g, J * 3, none⟩ z).setCell ⟨g, J * 3 + 1, none⟩ z).setCell ⟨g, J * 3 + 2, none⟩ z = Y := ⟨_, rfl⟩
  rw [hY] at r7 ⊢
  have hYk : ∀ k, k ≠ g → Y.heap[k]? = X.heap[k]? := fun k hk => by
    rw [← hY, heap_setCell_other _ _ _ _ hk, heap_setCell_other _ _ _ _ hk, heap_setCell_other _ _ _ _ hk, heap_setCell_other _ _ _ _ hk, heap_setCell_other _ _ _ _ hk, heap_setCell_other _ _ _ _ hk]
  have hYn : World.nodeAt Y b r := by
    unfold World.nodeAt at hnode ⊢
    rw [hYk b (Ne.symm hgb)]; exact hnode
  have hYb : ∀ B', B' ≤ g → B' ≤ w.heap.size → Below B' w Y := fun B' h1 h2 => by
    rw [← hY]
    exact ((((((hbel.mono h2).setCell h1 _).setCell h1 _).setCell h1 _).setCell h1 _).setCell h1 _).setCell h1 _
  refine ⟨.inr ⟨i, hi, hq, ?_⟩, ?_, ?_, by rw [hra]; rfl, fun k hk1 hk2 hk3 => ?_, ?_, fun B' h1 h2 => ?_⟩
  · have : l.getD (l.length - 1) default = (k2, v2) := by rw [← hk]; congr 1; omega
    rw [this]
  · show World.nodeAt (Y.setCell ⟨b, 9, none⟩ _) b _
    rw [setCell_attr hYn]
    exact hYn.put _
  · rw [hdn, hdl]
    show (Y.setCell ⟨b, 9, none⟩ _).ownsRow B _ 3 _ J _
    exact ownsRow_kept r7 (fun q hq2 => by
      simp [Value.ownBlock] at hq2
      subst hq2
      exact heap_setCell_other _ _ _ _ hgb)
  · show (Y.setCell ⟨b, 9, none⟩ _).heap[k]? = _
    have hkg : k ≠ g := fun e => hk3 (by omega) (by rw [hra, e]; rfl)
    rw [heap_setCell_other _ _ _ _ hk2, hYk k hkg]
    exact hbel.block k hk1
  · have h1 := hbel.size
    show w.heap.size ≤ (Y.setCell ⟨b, 9, none⟩ _).heap.size
    rw [← hY]
    simpa [World.setCell] using h1
  · exact ((hYb B' (Nat.le_trans h1 hgB) (by omega)).setCell h2 _).drew

def UnattrPost (B b : Nat) (r : NRec) (l : List (ByteArray × ByteArray)) (w : World) (e : Ending) (w' : World) : Prop := ∃ v' l', e = .returned (.tuple #[]) ∧ Hid (Unattr B b r l w w' v' l')

set_option maxRecDepth 100000 in
set_option maxHeartbeats 4000000 in
theorem removeAttr_any (B b : Nat) (r : NRec) (l : List (ByteArray × ByteArray)) (w : World) (hn : World.nodeAt w b r) (ho : w.ownsRow B 119 3 r.attr l.length (attrCells l)) (hl : l.length ≤ 100) :
    Calls Tryz.prog 72 #[.pointer (some ⟨b, 0, none⟩), .string ⟨#[99, 108, 97, 115, 115]⟩] w (UnattrPost B b r l w) := by
  obtain ⟨a, cap, g, hv, hlm, hg, hcc⟩ := attr_open ho
  have c9 := hn.attr
  rw [hv] at c9
  have HO := Lib.hid (And.intro ho hn)
  have HCC := Lib.hid hcc
  have HV := Lib.hid hv
  have HG := Lib.hid hg
  clear ho hn hcc hv hg
  go_enter Tryz.func72, Tryz.ntmps72
  go_wp2
  go_loopw [11] (fun iv wr => ∃ i : Nat, i ≤ l.length ∧ iv = .int .i64 (i : Int) ∧ Hid (Below w.heap.size w wr) ∧ Hid (∀ j, j < i → ((l.getD j default).1.toList == [99, 108, 97, 115, 115]) = false)) (fun iv _ => l.length - (intOf iv).toNat)
  case atStart => exact ⟨0, by omega, by go_num, Lib.hid (Below.refl _ _), Lib.hid (fun j hj => by omega)⟩
  case round =>
    obtain ⟨i, hi, rfl, HB, HNO⟩ := hrel
    by_cases hlt : i < l.length
    · obtain rfl := HG.out (by omega)
      obtain ⟨p0, p1, p2⟩ := HCC.out i hlt
      have p0 := cell_below HB.out p0
      have p1 := cell_below HB.out p1
      have p2 := cell_below HB.out p2
      have hbs := HB.out.size
      obtain ⟨ky, hky⟩ : ∃ ky, (l.getD i default).1 = ky := ⟨_, rfl⟩
      obtain ⟨vl, hvl⟩ : ∃ vl, (l.getD i default).2 = vl := ⟨_, rfl⟩
      rw [hky] at p1
      rw [hvl] at p2
      have hiI : (i : Int) < (l.length : Int) := by omega
      cases hq : (ky.toList == [99, 108, 97, 115, 115])
      · have hno : ∀ j, j < i + 1 → ((l.getD j default).1.toList == [99, 108, 97, 115, 115]) = false := fun j hj => by
          by_cases e : j = i
          · subst e; rw [hky]; exact hq
          · exact HNO.out j (by omega)
        have HNO2 := Lib.hid hno
        clear hno hky hvl
        go_wp2
        refine ⟨?rel, ?measure⟩
        case rel => exact ⟨i + 1, by omega, by go_num, Lib.hid (HB.out.alloc hbs _), HNO2⟩
        case measure => simp [intOf]; omega
      · obtain ⟨X, hX⟩ : ∃ X, wr.alloc (.cells #[.string ByteArray.empty, .string ky, .string vl] 119) = X := ⟨_, rfl⟩
        have hbX : Below wr.heap.size wr X := by rw [← hX]; exact (Below.refl _ _).alloc (Nat.le_refl _) _
        have a1 : X.cell? ⟨wr.heap.size, 1, none⟩ = some (.string ky) := by rw [← hX]; exact cell_alloc_new' _ _ _ rfl rfl
        have HBX := Lib.hid (HB.out.trans (hbX.mono hbs))
        have c9 := cell_below HBX.out c9
        have hrow : X.ownsRow B 119 3 (.slice (some ⟨g, 0, none⟩) l.length cap) l.length (attrCells l) := ownsRow_kept (by have := HO.out.1; rwa [HV.out] at this) (fun k hk => HBX.out.block k (World.ownsRow.lt HO.out.1 k (by rw [HV.out]; exact hk)).2)
        have HROW := Lib.hid hrow
        have f9 : X.frozen? ⟨b, 9, none⟩ = false := by
          have h1 := HO.out.2
          unfold World.nodeAt at h1
          have h2 : World.nodeAt X b r := by
            unfold World.nodeAt
            rw [HBX.out.block b (World.nodeAt.lt HO.out.2)]
            exact h1
          exact h2.free 9
        have hgb : g ≠ b := fun e => by
          have h1 := node_ne_own HO.out.2 HO.out.1
          rw [HV.out] at h1
          exact h1 (by rw [← e]; rfl)
        have hfar : ∀ (Y : World) (o : Nat) (u : Value), (Y.setCell ⟨g, o, none⟩ u).cell? ⟨b, 9, none⟩ = Y.cell? ⟨b, 9, none⟩ := fun Y o u => World.cell?_setCell_far Y ⟨g, o, none⟩ ⟨b, 9, none⟩ u hgb
        have hwi : ∀ o, X.frozen? ⟨g, o, none⟩ = false := fun o => World.ownsRow.frozenAt HROW.out o
        have fi0 := hwi (i * 3)
        have fi1 := hwi (i * 3 + 1)
        have fi2 := hwi (i * 3 + 2)
        by_cases hlast : i + 1 = l.length
        · obtain ⟨m, hm⟩ : ∃ m, l.length = m := ⟨_, rfl⟩
          obtain ⟨hcap1, hcap2⟩ := row_cap hrow
          have hJI : (l.length : Int) - 1 = (i : Int) := by omega
          have hJc : (i : Int) ≤ (cap : Int) := by omega
          have hcI : (cap : Int) ≤ 9223372036854775807 := by omega
          rw [hm] at hiI hJI hlt hlm c9 ⊢
          have HKV := Lib.hid (And.intro hky (And.intro hvl (And.intro hlast hm)))
          have p0' := cell_below hbX p0
          have p1' := cell_below hbX p1
          have p2' := cell_below hbX p2
          have hwJ : IntKind.i64.wrap ((i : Nat) : Int) = ((i : Nat) : Int) := (IntWalk.i64_left _).trans (IntWalk.wrap64_in _ (by omega))
          clear hky hvl hlast hm hrow hwi hcap1
          go_wp2
          refine wp_region_noPanic ?_
          refine wp_region_G (k0 := 41) (S := fun w' => w'.cell? ⟨b, 9, none⟩ = some (.slice (some ⟨g, 0, none⟩) m cap) ∧ w'.cell? ⟨g, i * 3, none⟩ = some (.string ByteArray.empty) ∧ w'.cell? ⟨g, i * 3 + 1, none⟩ = some (.string ky) ∧ w'.cell? ⟨g, i * 3 + 2, none⟩ = some (.string vl)) (by kernel_rfl) ?_ (fun hHeld => ?_)
          · exact ⟨c9, p0', p1', p2'⟩
          refine wpAnyG_pure (i := 0) (oi := { dst := Option.some 20, op := .move (.tmp 0), type := 75, pos := "property.go:249", after := #[], guard := Option.none }) (v := ?_) rfl (by kernel_rfl) (by kernel_rfl) (by kernel_rfl) (fun _ _ _ h => h) (by kernel_rfl) (Or.inl ⟨by rfl, ?_⟩) (fun _ => hHeld) ?_
          rotate_left
          · (intro w hSw; (try dsimp only at hSw); go_simp; try with_reducible rfl)
          try simp only [Act.put, List.setIfInBounds_toArray, List.set_cons_zero, List.set_cons_succ]
          refine wpAnyG_pure (i := 1) (oi := { dst := Option.some 21, op := .nilCheck (.tmp 20), type := 0, pos := "property.go:249", after := #[{ on := 0, ground := .data }], guard := Option.none }) (v := ?_) rfl (by kernel_rfl) (by kernel_rfl) (by kernel_rfl) (fun _ _ _ h => h) (by kernel_rfl) (Or.inl ⟨by rfl, ?_⟩) (fun _ => hHeld) ?_
          rotate_left
          · (intro w hSw; (try dsimp only at hSw); go_simp; try with_reducible rfl)
          try simp only [Act.put, List.setIfInBounds_toArray, List.set_cons_zero, List.set_cons_succ]
          refine wpAnyG_pure (i := 2) (oi := { dst := Option.some 22, op := .fieldAddr 117 (.tmp 21) 9, type := 0, pos := "property.go:249", after := #[{ on := 1, ground := .data }], guard := Option.none }) (v := ?_) rfl (by kernel_rfl) (by kernel_rfl) (by kernel_rfl) (fun _ _ _ h => h) (by kernel_rfl) (Or.inl ⟨by rfl, ?_⟩) (fun _ => hHeld) ?_
          rotate_left
          · (intro w hSw; (try dsimp only at hSw); go_simp; try with_reducible rfl)
          try simp only [Act.put, List.setIfInBounds_toArray, List.set_cons_zero, List.set_cons_succ]
          refine wpAnyG_load (i := 3) (oi := { dst := Option.some 23, op := .load 112 (.tmp 22), type := 112, pos := "property.go:249", after := #[{ on := 2, ground := .data }], guard := Option.none }) (v := ?_) rfl (by kernel_rfl) (by kernel_rfl) (by kernel_rfl) (fun _ _ _ h => h) (by kernel_rfl) (by kernel_rfl) (by kernel_rfl) (Or.inl ⟨by rfl, ?_⟩) hHeld ?_
          rotate_left
          · (intro w hSw; (try dsimp only at hSw); go_simp; try with_reducible rfl)
          try simp only [Act.put, List.setIfInBounds_toArray, List.set_cons_zero, List.set_cons_succ]
          refine wpAnyG_pure (i := 4) (oi := { dst := Option.some 24, op := .move (.tmp 4), type := 3, pos := "property.go:249", after := #[], guard := Option.none }) (v := ?_) rfl (by kernel_rfl) (by kernel_rfl) (by kernel_rfl) (fun _ _ _ h => h) (by kernel_rfl) (Or.inl ⟨by rfl, ?_⟩) (fun _ => hHeld) ?_
          rotate_left
          · (intro w hSw; (try dsimp only at hSw); go_simp; try with_reducible rfl)
          try simp only [Act.put, List.setIfInBounds_toArray, List.set_cons_zero, List.set_cons_succ]
          refine wpAnyG_pure (i := 5) (oi := { dst := Option.some 25, op := .move (.tmp 0), type := 75, pos := "property.go:249", after := #[], guard := Option.none }) (v := ?_) rfl (by kernel_rfl) (by kernel_rfl) (by kernel_rfl) (fun _ _ _ h => h) (by kernel_rfl) (Or.inl ⟨by rfl, ?_⟩) (fun _ => hHeld) ?_
          rotate_left
          · (intro w hSw; (try dsimp only at hSw); go_simp; try with_reducible rfl)
          try simp only [Act.put, List.setIfInBounds_toArray, List.set_cons_zero, List.set_cons_succ]
          refine wpAnyG_pure (i := 6) (oi := { dst := Option.some 26, op := .nilCheck (.tmp 25), type := 0, pos := "property.go:249", after := #[{ on := 5, ground := .data }], guard := Option.none }) (v := ?_) rfl (by kernel_rfl) (by kernel_rfl) (by kernel_rfl) (fun _ _ _ h => h) (by kernel_rfl) (Or.inl ⟨by rfl, ?_⟩) (fun _ => hHeld) ?_
          rotate_left
          · (intro w hSw; (try dsimp only at hSw); go_simp; try with_reducible rfl)
          try simp only [Act.put, List.setIfInBounds_toArray, List.set_cons_zero, List.set_cons_succ]
          refine wpAnyG_pure (i := 7) (oi := { dst := Option.some 27, op := .fieldAddr 117 (.tmp 26) 9, type := 0, pos := "property.go:249", after := #[{ on := 6, ground := .data }], guard := Option.none }) (v := ?_) rfl (by kernel_rfl) (by kernel_rfl) (by kernel_rfl) (fun _ _ _ h => h) (by kernel_rfl) (Or.inl ⟨by rfl, ?_⟩) (fun _ => hHeld) ?_
          rotate_left
          · (intro w hSw; (try dsimp only at hSw); go_simp; try with_reducible rfl)
          try simp only [Act.put, List.setIfInBounds_toArray, List.set_cons_zero, List.set_cons_succ]
          refine wpAnyG_load (i := 8) (oi := { dst := Option.some 28, op := .load 112 (.tmp 27), type := 112, pos := "property.go:249", after := #[{ on := 7, ground := .data }], guard := Option.none }) (v := ?_) rfl (by kernel_rfl) (by kernel_rfl) (by kernel_rfl) (fun _ _ _ h => h) (by kernel_rfl) (by kernel_rfl) (by kernel_rfl) (Or.inl ⟨by rfl, ?_⟩) hHeld ?_
          rotate_left
          · (intro w hSw; (try dsimp only at hSw); go_simp; try with_reducible rfl)
          try simp only [Act.put, List.setIfInBounds_toArray, List.set_cons_zero, List.set_cons_succ]
          refine wpAnyG_pure (i := 9) (oi := { dst := Option.some 29, op := .move (.tmp 0), type := 75, pos := "property.go:249", after := #[], guard := Option.none }) (v := ?_) rfl (by kernel_rfl) (by kernel_rfl) (by kernel_rfl) (fun _ _ _ h => h) (by kernel_rfl) (Or.inl ⟨by rfl, ?_⟩) (fun _ => hHeld) ?_
          rotate_left
          · (intro w hSw; (try dsimp only at hSw); go_simp; try with_reducible rfl)
          try simp only [Act.put, List.setIfInBounds_toArray, List.set_cons_zero, List.set_cons_succ]
          refine wpAnyG_pure (i := 10) (oi := { dst := Option.some 30, op := .nilCheck (.tmp 29), type := 0, pos := "property.go:249", after := #[{ on := 9, ground := .data }], guard := Option.none }) (v := ?_) rfl (by kernel_rfl) (by kernel_rfl) (by kernel_rfl) (fun _ _ _ h => h) (by kernel_rfl) (Or.inl ⟨by rfl, ?_⟩) (fun _ => hHeld) ?_
          rotate_left
          · (intro w hSw; (try dsimp only at hSw); go_simp; try with_reducible rfl)
          try simp only [Act.put, List.setIfInBounds_toArray, List.set_cons_zero, List.set_cons_succ]
          refine wpAnyG_pure (i := 11) (oi := { dst := Option.some 31, op := .fieldAddr 117 (.tmp 30) 9, type := 0, pos := "property.go:249", after := #[{ on := 10, ground := .data }], guard := Option.none }) (v := ?_) rfl (by kernel_rfl) (by kernel_rfl) (by kernel_rfl) (fun _ _ _ h => h) (by kernel_rfl) (Or.inl ⟨by rfl, ?_⟩) (fun _ => hHeld) ?_
          rotate_left
          · (intro w hSw; (try dsimp only at hSw); go_simp; try with_reducible rfl)
          try simp only [Act.put, List.setIfInBounds_toArray, List.set_cons_zero, List.set_cons_succ]
          refine wpAnyG_load (i := 12) (oi := { dst := Option.some 32, op := .load 112 (.tmp 31), type := 112, pos := "property.go:249", after := #[{ on := 11, ground := .data }], guard := Option.none }) (v := ?_) rfl (by kernel_rfl) (by kernel_rfl) (by kernel_rfl) (fun _ _ _ h => h) (by kernel_rfl) (by kernel_rfl) (by kernel_rfl) (Or.inl ⟨by rfl, ?_⟩) hHeld ?_
          rotate_left
          · (intro w hSw; (try dsimp only at hSw); go_simp; try with_reducible rfl)
          try simp only [Act.put, List.setIfInBounds_toArray, List.set_cons_zero, List.set_cons_succ]
          refine wpAnyG_pure (i := 13) (oi := { dst := Option.some 33, op := .call { callee := .builtin .len, args := #[.tmp 32], argTypes := #[112] }, type := 3, pos := "property.go:249", after := #[{ on := 12, ground := .data }], guard := Option.none }) (v := ?_) rfl (by kernel_rfl) (by kernel_rfl) (by kernel_rfl) (fun _ _ _ h => h) (by kernel_rfl) (Or.inl ⟨by rfl, ?_⟩) (fun _ => hHeld) ?_
          rotate_left
          · (intro w hSw; (try dsimp only at hSw); go_simp; try with_reducible rfl)
          try simp only [Act.put, List.setIfInBounds_toArray, List.set_cons_zero, List.set_cons_succ]
          refine wpAnyG_pure (i := 14) (oi := { dst := Option.some 34, op := .binOp .sub 3 (.tmp 33) (.const (.int .i64 1)) 3, type := 3, pos := "property.go:249", after := #[{ on := 13, ground := .data }, { on := 41, ground := .gcOnly Go.Departure.lateStores }], guard := Option.none }) (v := ?_) rfl (by kernel_rfl) (by kernel_rfl) (by kernel_rfl) (fun _ _ _ h => h) (by kernel_rfl) (Or.inl ⟨by rfl, ?_⟩) (fun _ => hHeld) ?_
          rotate_left
          · (intro w hSw; (try dsimp only at hSw); go_simp; try with_reducible rfl)
          try simp only [Act.put, List.setIfInBounds_toArray, List.set_cons_zero, List.set_cons_succ]
          refine wpAnyG_pure (i := 15) (oi := { dst := Option.some 35, op := .move (.tmp 0), type := 75, pos := "property.go:249", after := #[{ on := 43, ground := .gcOnly Go.Departure.lateStores }], guard := Option.none }) (v := ?_) rfl (by kernel_rfl) (by kernel_rfl) (by kernel_rfl) (fun _ _ _ h => h) (by kernel_rfl) (Or.inl ⟨by rfl, ?_⟩) (fun _ => hHeld) ?_
          rotate_left
          · (intro w hSw; (try dsimp only at hSw); go_simp; try with_reducible rfl)
          try simp only [Act.put, List.setIfInBounds_toArray, List.set_cons_zero, List.set_cons_succ]
          refine wpAnyG_pure (i := 16) (oi := { dst := Option.some 36, op := .move (.tmp 0), type := 75, pos := "property.go:249", after := #[], guard := Option.none }) (v := ?_) rfl (by kernel_rfl) (by kernel_rfl) (by kernel_rfl) (fun _ _ _ h => h) (by kernel_rfl) (Or.inl ⟨by rfl, ?_⟩) (fun _ => hHeld) ?_
          rotate_left
          · (intro w hSw; (try dsimp only at hSw); go_simp; try with_reducible rfl)
          try simp only [Act.put, List.setIfInBounds_toArray, List.set_cons_zero, List.set_cons_succ]
          refine wpAnyG_pure (i := 17) (oi := { dst := Option.some 37, op := .nilCheck (.tmp 36), type := 0, pos := "property.go:249", after := #[{ on := 16, ground := .data }], guard := Option.none }) (v := ?_) rfl (by kernel_rfl) (by kernel_rfl) (by kernel_rfl) (fun _ _ _ h => h) (by kernel_rfl) (Or.inl ⟨by rfl, ?_⟩) (fun _ => hHeld) ?_
          rotate_left
          · (intro w hSw; (try dsimp only at hSw); go_simp; try with_reducible rfl)
          try simp only [Act.put, List.setIfInBounds_toArray, List.set_cons_zero, List.set_cons_succ]
          refine wpAnyG_pure (i := 18) (oi := { dst := Option.some 38, op := .fieldAddr 117 (.tmp 37) 9, type := 0, pos := "property.go:249", after := #[{ on := 17, ground := .data }], guard := Option.none }) (v := ?_) rfl (by kernel_rfl) (by kernel_rfl) (by kernel_rfl) (fun _ _ _ h => h) (by kernel_rfl) (Or.inl ⟨by rfl, ?_⟩) (fun _ => hHeld) ?_
          rotate_left
          · (intro w hSw; (try dsimp only at hSw); go_simp; try with_reducible rfl)
          try simp only [Act.put, List.setIfInBounds_toArray, List.set_cons_zero, List.set_cons_succ]
          refine wpAnyG_load (i := 19) (oi := { dst := Option.some 39, op := .load 112 (.tmp 38), type := 112, pos := "property.go:249", after := #[{ on := 18, ground := .data }], guard := Option.none }) (v := ?_) rfl (by kernel_rfl) (by kernel_rfl) (by kernel_rfl) (fun _ _ _ h => h) (by kernel_rfl) (by kernel_rfl) (by kernel_rfl) (Or.inl ⟨by rfl, ?_⟩) hHeld ?_
          rotate_left
          · (intro w hSw; (try dsimp only at hSw); go_simp; try with_reducible rfl)
          try simp only [Act.put, List.setIfInBounds_toArray, List.set_cons_zero, List.set_cons_succ]
          refine wpAnyG_pure (i := 20) (oi := { dst := Option.some 40, op := .move (.tmp 0), type := 75, pos := "property.go:249", after := #[], guard := Option.none }) (v := ?_) rfl (by kernel_rfl) (by kernel_rfl) (by kernel_rfl) (fun _ _ _ h => h) (by kernel_rfl) (Or.inl ⟨by rfl, ?_⟩) (fun _ => hHeld) ?_
          rotate_left
          · (intro w hSw; (try dsimp only at hSw); go_simp; try with_reducible rfl)
          try simp only [Act.put, List.setIfInBounds_toArray, List.set_cons_zero, List.set_cons_succ]
          refine wpAnyG_pure (i := 21) (oi := { dst := Option.some 41, op := .nilCheck (.tmp 40), type := 0, pos := "property.go:249", after := #[{ on := 20, ground := .data }], guard := Option.none }) (v := ?_) rfl (by kernel_rfl) (by kernel_rfl) (by kernel_rfl) (fun _ _ _ h => h) (by kernel_rfl) (Or.inl ⟨by rfl, ?_⟩) (fun _ => hHeld) ?_
          rotate_left
          · (intro w hSw; (try dsimp only at hSw); go_simp; try with_reducible rfl)
          try simp only [Act.put, List.setIfInBounds_toArray, List.set_cons_zero, List.set_cons_succ]
          refine wpAnyG_pure (i := 22) (oi := { dst := Option.some 42, op := .fieldAddr 117 (.tmp 41) 9, type := 0, pos := "property.go:249", after := #[{ on := 21, ground := .data }], guard := Option.none }) (v := ?_) rfl (by kernel_rfl) (by kernel_rfl) (by kernel_rfl) (fun _ _ _ h => h) (by kernel_rfl) (Or.inl ⟨by rfl, ?_⟩) (fun _ => hHeld) ?_
          rotate_left
          · (intro w hSw; (try dsimp only at hSw); go_simp; try with_reducible rfl)
          try simp only [Act.put, List.setIfInBounds_toArray, List.set_cons_zero, List.set_cons_succ]
          refine wpAnyG_load (i := 23) (oi := { dst := Option.some 43, op := .load 112 (.tmp 42), type := 112, pos := "property.go:249", after := #[{ on := 22, ground := .data }], guard := Option.none }) (v := ?_) rfl (by kernel_rfl) (by kernel_rfl) (by kernel_rfl) (fun _ _ _ h => h) (by kernel_rfl) (by kernel_rfl) (by kernel_rfl) (Or.inl ⟨by rfl, ?_⟩) hHeld ?_
          rotate_left
          · (intro w hSw; (try dsimp only at hSw); go_simp; try with_reducible rfl)
          try simp only [Act.put, List.setIfInBounds_toArray, List.set_cons_zero, List.set_cons_succ]
          refine wpAnyG_pure (i := 24) (oi := { dst := Option.some 44, op := .call { callee := .builtin .len, args := #[.tmp 43], argTypes := #[112] }, type := 3, pos := "property.go:249", after := #[{ on := 23, ground := .data }], guard := Option.none }) (v := ?_) rfl (by kernel_rfl) (by kernel_rfl) (by kernel_rfl) (fun _ _ _ h => h) (by kernel_rfl) (Or.inl ⟨by rfl, ?_⟩) (fun _ => hHeld) ?_
          rotate_left
          · (intro w hSw; (try dsimp only at hSw); go_simp; try with_reducible rfl)
          try simp only [Act.put, List.setIfInBounds_toArray, List.set_cons_zero, List.set_cons_succ]
          refine wpAnyG_pure (i := 25) (oi := { dst := Option.some 45, op := .binOp .sub 3 (.tmp 44) (.const (.int .i64 1)) 3, type := 3, pos := "property.go:249", after := #[{ on := 24, ground := .data }], guard := Option.none }) (v := ?_) rfl (by kernel_rfl) (by kernel_rfl) (by kernel_rfl) (fun _ _ _ h => h) (by kernel_rfl) (Or.inl ⟨by rfl, ?_⟩) (fun _ => hHeld) ?_
          rotate_left
          · (intro w hSw; (try dsimp only at hSw); go_simp; try with_reducible rfl)
          try simp only [Act.put, List.setIfInBounds_toArray, List.set_cons_zero, List.set_cons_succ]
          refine wpAnyG_pure (i := 26) (oi := { dst := Option.some 46, op := .indexAddr 112 (.tmp 39) (.tmp 45), type := 0, pos := "property.go:249", after := #[{ on := 19, ground := .data }, { on := 25, ground := .data }], guard := Option.none }) (v := ?_) rfl (by kernel_rfl) (by kernel_rfl) (by kernel_rfl) (fun _ _ _ h => h) (by kernel_rfl) (Or.inl ⟨by rfl, ?_⟩) (fun _ => hHeld) ?_
          rotate_left
          · (intro w hSw; (try dsimp only at hSw); go_simp; try with_reducible rfl)
          try simp only [Act.put, List.setIfInBounds_toArray, List.set_cons_zero, List.set_cons_succ]
          refine wpAnyG_load (i := 27) (oi := { dst := Option.some 47, op := .load 119 (.tmp 46), type := 119, pos := "property.go:249", after := #[{ on := 26, ground := .data }], guard := Option.none }) (v := ?_) rfl (by kernel_rfl) (by kernel_rfl) (by kernel_rfl) (fun _ _ _ h => h) (by kernel_rfl) (by kernel_rfl) (by kernel_rfl) (Or.inl ⟨by rfl, ?_⟩) hHeld ?_
          rotate_left
          · (intro w hSw; (try dsimp only at hSw); go_simp; try with_reducible rfl)
          try simp only [Act.put, List.setIfInBounds_toArray, List.set_cons_zero, List.set_cons_succ]
          refine wpAnyG_pure (i := 28) (oi := { dst := Option.some 48, op := .build 119 #[], type := 119, pos := "property.go:249", after := #[], guard := Option.none }) (v := ?_) rfl (by kernel_rfl) (by kernel_rfl) (by kernel_rfl) (fun _ _ _ h => h) (by kernel_rfl) (Or.inl ⟨by rfl, ?_⟩) (fun _ => hHeld) ?_
          rotate_left
          · (intro w hSw; (try dsimp only at hSw); go_simp; try with_reducible rfl)
          try simp only [Act.put, List.setIfInBounds_toArray, List.set_cons_zero, List.set_cons_succ]
          refine wpAnyG_pure (i := 29) (oi := { dst := Option.some 49, op := .move (.tmp 0), type := 75, pos := "property.go:249", after := #[], guard := Option.none }) (v := ?_) rfl (by kernel_rfl) (by kernel_rfl) (by kernel_rfl) (fun _ _ _ h => h) (by kernel_rfl) (Or.inl ⟨by rfl, ?_⟩) (fun _ => hHeld) ?_
          rotate_left
          · (intro w hSw; (try dsimp only at hSw); go_simp; try with_reducible rfl)
          try simp only [Act.put, List.setIfInBounds_toArray, List.set_cons_zero, List.set_cons_succ]
          refine wpAnyG_pure (i := 30) (oi := { dst := Option.some 50, op := .nilCheck (.tmp 49), type := 0, pos := "property.go:249", after := #[{ on := 29, ground := .data }], guard := Option.none }) (v := ?_) rfl (by kernel_rfl) (by kernel_rfl) (by kernel_rfl) (fun _ _ _ h => h) (by kernel_rfl) (Or.inl ⟨by rfl, ?_⟩) (fun _ => hHeld) ?_
          rotate_left
          · (intro w hSw; (try dsimp only at hSw); go_simp; try with_reducible rfl)
          try simp only [Act.put, List.setIfInBounds_toArray, List.set_cons_zero, List.set_cons_succ]
          refine wpAnyG_pure (i := 31) (oi := { dst := Option.some 51, op := .fieldAddr 117 (.tmp 50) 9, type := 0, pos := "property.go:249", after := #[{ on := 30, ground := .data }], guard := Option.none }) (v := ?_) rfl (by kernel_rfl) (by kernel_rfl) (by kernel_rfl) (fun _ _ _ h => h) (by kernel_rfl) (Or.inl ⟨by rfl, ?_⟩) (fun _ => hHeld) ?_
          rotate_left
          · (intro w hSw; (try dsimp only at hSw); go_simp; try with_reducible rfl)
          try simp only [Act.put, List.setIfInBounds_toArray, List.set_cons_zero, List.set_cons_succ]
          refine wpAnyG_load (i := 32) (oi := { dst := Option.some 52, op := .load 112 (.tmp 51), type := 112, pos := "property.go:249", after := #[{ on := 31, ground := .data }], guard := Option.none }) (v := ?_) rfl (by kernel_rfl) (by kernel_rfl) (by kernel_rfl) (fun _ _ _ h => h) (by kernel_rfl) (by kernel_rfl) (by kernel_rfl) (Or.inl ⟨by rfl, ?_⟩) hHeld ?_
          rotate_left
          · (intro w hSw; (try dsimp only at hSw); go_simp; try with_reducible rfl)
          try simp only [Act.put, List.setIfInBounds_toArray, List.set_cons_zero, List.set_cons_succ]
          refine wpAnyG_pure (i := 33) (oi := { dst := Option.some 53, op := .move (.tmp 0), type := 75, pos := "property.go:249", after := #[], guard := Option.none }) (v := ?_) rfl (by kernel_rfl) (by kernel_rfl) (by kernel_rfl) (fun _ _ _ h => h) (by kernel_rfl) (Or.inl ⟨by rfl, ?_⟩) (fun _ => hHeld) ?_
          rotate_left
          · (intro w hSw; (try dsimp only at hSw); go_simp; try with_reducible rfl)
          try simp only [Act.put, List.setIfInBounds_toArray, List.set_cons_zero, List.set_cons_succ]
          refine wpAnyG_pure (i := 34) (oi := { dst := Option.some 54, op := .nilCheck (.tmp 53), type := 0, pos := "property.go:249", after := #[{ on := 33, ground := .data }], guard := Option.none }) (v := ?_) rfl (by kernel_rfl) (by kernel_rfl) (by kernel_rfl) (fun _ _ _ h => h) (by kernel_rfl) (Or.inl ⟨by rfl, ?_⟩) (fun _ => hHeld) ?_
          rotate_left
          · (intro w hSw; (try dsimp only at hSw); go_simp; try with_reducible rfl)
          try simp only [Act.put, List.setIfInBounds_toArray, List.set_cons_zero, List.set_cons_succ]
          refine wpAnyG_pure (i := 35) (oi := { dst := Option.some 55, op := .fieldAddr 117 (.tmp 54) 9, type := 0, pos := "property.go:249", after := #[{ on := 34, ground := .data }], guard := Option.none }) (v := ?_) rfl (by kernel_rfl) (by kernel_rfl) (by kernel_rfl) (fun _ _ _ h => h) (by kernel_rfl) (Or.inl ⟨by rfl, ?_⟩) (fun _ => hHeld) ?_
          rotate_left
          · (intro w hSw; (try dsimp only at hSw); go_simp; try with_reducible rfl)
          try simp only [Act.put, List.setIfInBounds_toArray, List.set_cons_zero, List.set_cons_succ]
          refine wpAnyG_load (i := 36) (oi := { dst := Option.some 56, op := .load 112 (.tmp 55), type := 112, pos := "property.go:249", after := #[{ on := 35, ground := .data }], guard := Option.none }) (v := ?_) rfl (by kernel_rfl) (by kernel_rfl) (by kernel_rfl) (fun _ _ _ h => h) (by kernel_rfl) (by kernel_rfl) (by kernel_rfl) (Or.inl ⟨by rfl, ?_⟩) hHeld ?_
          rotate_left
          · (intro w hSw; (try dsimp only at hSw); go_simp; try with_reducible rfl)
          try simp only [Act.put, List.setIfInBounds_toArray, List.set_cons_zero, List.set_cons_succ]
          refine wpAnyG_pure (i := 37) (oi := { dst := Option.some 57, op := .call { callee := .builtin .len, args := #[.tmp 56], argTypes := #[112] }, type := 3, pos := "property.go:249", after := #[{ on := 36, ground := .data }], guard := Option.none }) (v := ?_) rfl (by kernel_rfl) (by kernel_rfl) (by kernel_rfl) (fun _ _ _ h => h) (by kernel_rfl) (Or.inl ⟨by rfl, ?_⟩) (fun _ => hHeld) ?_
          rotate_left
          · (intro w hSw; (try dsimp only at hSw); go_simp; try with_reducible rfl)
          try simp only [Act.put, List.setIfInBounds_toArray, List.set_cons_zero, List.set_cons_succ]
          refine wpAnyG_pure (i := 38) (oi := { dst := Option.some 58, op := .binOp .sub 3 (.tmp 57) (.const (.int .i64 1)) 3, type := 3, pos := "property.go:249", after := #[{ on := 37, ground := .data }], guard := Option.none }) (v := ?_) rfl (by kernel_rfl) (by kernel_rfl) (by kernel_rfl) (fun _ _ _ h => h) (by kernel_rfl) (Or.inl ⟨by rfl, ?_⟩) (fun _ => hHeld) ?_
          rotate_left
          · (intro w hSw; (try dsimp only at hSw); go_simp; try with_reducible rfl)
          try simp only [Act.put, List.setIfInBounds_toArray, List.set_cons_zero, List.set_cons_succ]
          refine wpAnyG_pure (i := 39) (oi := { dst := Option.some 59, op := .slice 112 (.tmp 52) Option.none (Option.some (.tmp 58)) Option.none, type := 112, pos := "property.go:249", after := #[{ on := 32, ground := .data }, { on := 38, ground := .data }], guard := Option.none }) (v := ?_) rfl (by kernel_rfl) (by kernel_rfl) (by kernel_rfl) (fun _ _ _ h => h) (by kernel_rfl) (Or.inl ⟨by rfl, ?_⟩) (fun _ => hHeld) ?_
          rotate_left
          · (intro w hSw; (try dsimp only at hSw); go_simp; try with_reducible rfl)
          try simp only [Act.put, List.setIfInBounds_toArray, List.set_cons_zero, List.set_cons_succ]
          refine wpAnyG_pure (i := 40) (oi := { dst := Option.some 60, op := .indexAddr 112 (.tmp 23) (.tmp 24), type := 0, pos := "property.go:249", after := #[{ on := 3, ground := .data }, { on := 4, ground := .data }, { on := 0, ground := .phase }, { on := 1, ground := .phase }, { on := 2, ground := .phase }, { on := 3, ground := .phase }, { on := 4, ground := .phase }, { on := 5, ground := .textOnly Go.Departure.lateStores }, { on := 6, ground := .textOnly Go.Departure.lateStoresUnsure }, { on := 7, ground := .textOnly Go.Departure.lateStoresUnsure }, { on := 8, ground := .phase }, { on := 9, ground := .textOnly Go.Departure.lateStores }, { on := 10, ground := .textOnly Go.Departure.lateStoresUnsure }, { on := 11, ground := .textOnly Go.Departure.lateStoresUnsure }, { on := 12, ground := .phase }, { on := 13, ground := .textOnly Go.Departure.lateStoresUnsure }, { on := 14, ground := .textOnly Go.Departure.lateStores }, { on := 15, ground := .textOnly Go.Departure.lateStores }, { on := 16, ground := .phase }, { on := 17, ground := .phase }, { on := 18, ground := .phase }, { on := 19, ground := .phase }, { on := 20, ground := .phase }, { on := 21, ground := .phase }, { on := 22, ground := .phase }, { on := 23, ground := .phase }, { on := 24, ground := .phase }, { on := 25, ground := .phase }, { on := 26, ground := .phase }, { on := 27, ground := .phase }, { on := 28, ground := .textOnly Go.Departure.lateStoresUnsure }, { on := 29, ground := .textOnly Go.Departure.lateStores }, { on := 30, ground := .textOnly Go.Departure.lateStoresUnsure }, { on := 31, ground := .textOnly Go.Departure.lateStoresUnsure }, { on := 32, ground := .phase }, { on := 33, ground := .textOnly Go.Departure.lateStores }, { on := 34, ground := .textOnly Go.Departure.lateStoresUnsure }, { on := 35, ground := .textOnly Go.Departure.lateStoresUnsure }, { on := 36, ground := .phase }, { on := 37, ground := .textOnly Go.Departure.lateStoresUnsure }, { on := 38, ground := .textOnly Go.Departure.lateStores }, { on := 39, ground := .textOnly Go.Departure.lateStoresUnsure }], guard := Option.none }) (v := ?_) rfl (by kernel_rfl) (by kernel_rfl) (by kernel_rfl) (fun _ _ _ h => h) (by kernel_rfl) (Or.inl ⟨by rfl, ?_⟩) (fun _ => hHeld) ?_
          rotate_left
          · (intro w hSw; (try dsimp only at hSw); go_simp; try with_reducible rfl)
          try simp only [Act.put, List.setIfInBounds_toArray, List.set_cons_zero, List.set_cons_succ]
          refine wpAnyG_one (i := 41) (by kernel_rfl) (o := { dst := Option.none, op := .store 119 (.tmp 60) (.tmp 47), type := 0, pos := "property.go:249", after := #[{ on := 40, ground := .data }, { on := 27, ground := .data }, { on := 0, ground := .phase }, { on := 1, ground := .phase }, { on := 2, ground := .phase }, { on := 3, ground := .phase }, { on := 4, ground := .phase }, { on := 5, ground := .textOnly Go.Departure.lateStores }, { on := 6, ground := .textOnly Go.Departure.lateStoresUnsure }, { on := 7, ground := .textOnly Go.Departure.lateStoresUnsure }, { on := 8, ground := .phase }, { on := 9, ground := .textOnly Go.Departure.lateStores }, { on := 10, ground := .textOnly Go.Departure.lateStoresUnsure }, { on := 11, ground := .textOnly Go.Departure.lateStoresUnsure }, { on := 12, ground := .phase }, { on := 13, ground := .textOnly Go.Departure.lateStoresUnsure }, { on := 14, ground := .textOnly Go.Departure.lateStores }, { on := 15, ground := .textOnly Go.Departure.lateStores }, { on := 16, ground := .phase }, { on := 17, ground := .phase }, { on := 18, ground := .phase }, { on := 19, ground := .phase }, { on := 20, ground := .phase }, { on := 21, ground := .phase }, { on := 22, ground := .phase }, { on := 23, ground := .phase }, { on := 24, ground := .phase }, { on := 25, ground := .phase }, { on := 26, ground := .phase }, { on := 27, ground := .phase }, { on := 28, ground := .textOnly Go.Departure.lateStoresUnsure }, { on := 29, ground := .textOnly Go.Departure.lateStores }, { on := 30, ground := .textOnly Go.Departure.lateStoresUnsure }, { on := 31, ground := .textOnly Go.Departure.lateStoresUnsure }, { on := 32, ground := .phase }, { on := 33, ground := .textOnly Go.Departure.lateStores }, { on := 34, ground := .textOnly Go.Departure.lateStoresUnsure }, { on := 35, ground := .textOnly Go.Departure.lateStoresUnsure }, { on := 36, ground := .phase }, { on := 37, ground := .textOnly Go.Departure.lateStoresUnsure }, { on := 38, ground := .textOnly Go.Departure.lateStores }, { on := 39, ground := .textOnly Go.Departure.lateStoresUnsure }], guard := Option.none }) rfl (fun K hK => ?_)
          go_simp
          refine hK.out _ _ (fun h => absurd (h.symm.trans (by kernel_rfl : _ = true)) (by decide)) ?_
          clear hK K
          try simp only [Act.put, List.setIfInBounds_toArray, List.set_cons_zero, List.set_cons_succ]
          refine wpAnyG_pure (i := 42) (oi := { dst := Option.some 61, op := .indexAddr 112 (.tmp 28) (.tmp 34), type := 0, pos := "property.go:249", after := #[{ on := 8, ground := .data }, { on := 14, ground := .data }, { on := 0, ground := .phase }, { on := 1, ground := .phase }, { on := 2, ground := .phase }, { on := 3, ground := .phase }, { on := 4, ground := .phase }, { on := 5, ground := .phase }, { on := 6, ground := .phase }, { on := 7, ground := .phase }, { on := 8, ground := .phase }, { on := 9, ground := .phase }, { on := 10, ground := .phase }, { on := 11, ground := .phase }, { on := 12, ground := .phase }, { on := 13, ground := .phase }, { on := 14, ground := .phase }, { on := 15, ground := .textOnly Go.Departure.lateStores }, { on := 16, ground := .phase }, { on := 17, ground := .phase }, { on := 18, ground := .phase }, { on := 19, ground := .phase }, { on := 20, ground := .phase }, { on := 21, ground := .phase }, { on := 22, ground := .phase }, { on := 23, ground := .phase }, { on := 24, ground := .phase }, { on := 25, ground := .phase }, { on := 26, ground := .phase }, { on := 27, ground := .phase }, { on := 28, ground := .phase }, { on := 29, ground := .textOnly Go.Departure.lateStores }, { on := 30, ground := .textOnly Go.Departure.lateStoresUnsure }, { on := 31, ground := .textOnly Go.Departure.lateStoresUnsure }, { on := 32, ground := .phase }, { on := 33, ground := .textOnly Go.Departure.lateStores }, { on := 34, ground := .textOnly Go.Departure.lateStoresUnsure }, { on := 35, ground := .textOnly Go.Departure.lateStoresUnsure }, { on := 36, ground := .phase }, { on := 37, ground := .textOnly Go.Departure.lateStoresUnsure }, { on := 38, ground := .textOnly Go.Departure.lateStores }, { on := 39, ground := .textOnly Go.Departure.lateStoresUnsure }, { on := 40, ground := .phase }, { on := 41, ground := .phase }], guard := Option.none }) (v := ?_) rfl (by kernel_rfl) (by kernel_rfl) (by kernel_rfl) (fun _ _ _ h => h) (by kernel_rfl) (Or.inl ⟨by rfl, ?_⟩) (fun h => absurd (h.symm.trans (by kernel_rfl : _ = true)) (by decide)) ?_
          rotate_left
          · (intro w hSw; (try dsimp only at hSw); go_simp; try with_reducible rfl)
          try simp only [Act.put, List.setIfInBounds_toArray, List.set_cons_zero, List.set_cons_succ]
          refine wpAnyG_one (i := 43) (by kernel_rfl) (o := { dst := Option.none, op := .store 119 (.tmp 61) (.tmp 48), type := 0, pos := "property.go:249", after := #[{ on := 42, ground := .data }, { on := 28, ground := .data }, { on := 41, ground := .chain }, { on := 0, ground := .phase }, { on := 1, ground := .phase }, { on := 2, ground := .phase }, { on := 3, ground := .phase }, { on := 4, ground := .phase }, { on := 5, ground := .phase }, { on := 6, ground := .phase }, { on := 7, ground := .phase }, { on := 8, ground := .phase }, { on := 9, ground := .phase }, { on := 10, ground := .phase }, { on := 11, ground := .phase }, { on := 12, ground := .phase }, { on := 13, ground := .phase }, { on := 14, ground := .phase }, { on := 15, ground := .textOnly Go.Departure.lateStores }, { on := 16, ground := .phase }, { on := 17, ground := .phase }, { on := 18, ground := .phase }, { on := 19, ground := .phase }, { on := 20, ground := .phase }, { on := 21, ground := .phase }, { on := 22, ground := .phase }, { on := 23, ground := .phase }, { on := 24, ground := .phase }, { on := 25, ground := .phase }, { on := 26, ground := .phase }, { on := 27, ground := .phase }, { on := 28, ground := .phase }, { on := 29, ground := .textOnly Go.Departure.lateStores }, { on := 30, ground := .textOnly Go.Departure.lateStoresUnsure }, { on := 31, ground := .textOnly Go.Departure.lateStoresUnsure }, { on := 32, ground := .phase }, { on := 33, ground := .textOnly Go.Departure.lateStores }, { on := 34, ground := .textOnly Go.Departure.lateStoresUnsure }, { on := 35, ground := .textOnly Go.Departure.lateStoresUnsure }, { on := 36, ground := .phase }, { on := 37, ground := .textOnly Go.Departure.lateStoresUnsure }, { on := 38, ground := .textOnly Go.Departure.lateStores }, { on := 39, ground := .textOnly Go.Departure.lateStoresUnsure }, { on := 40, ground := .phase }, { on := 41, ground := .phase }], guard := Option.none }) rfl (fun K hK => ?_)
          go_simp
          refine hK.out _ _ (fun h => absurd (h.symm.trans (by kernel_rfl : _ = true)) (by decide)) ?_
          clear hK K
          try simp only [Act.put, List.setIfInBounds_toArray, List.set_cons_zero, List.set_cons_succ]
          refine wpAnyG_pure (i := 44) (oi := { dst := Option.some 62, op := .nilCheck (.tmp 35), type := 0, pos := "property.go:249", after := #[{ on := 15, ground := .data }, { on := 0, ground := .phase }, { on := 1, ground := .phase }, { on := 2, ground := .phase }, { on := 3, ground := .phase }, { on := 4, ground := .phase }, { on := 5, ground := .phase }, { on := 6, ground := .phase }, { on := 7, ground := .phase }, { on := 8, ground := .phase }, { on := 9, ground := .phase }, { on := 10, ground := .phase }, { on := 11, ground := .phase }, { on := 12, ground := .phase }, { on := 13, ground := .phase }, { on := 14, ground := .phase }, { on := 15, ground := .phase }, { on := 16, ground := .phase }, { on := 17, ground := .phase }, { on := 18, ground := .phase }, { on := 19, ground := .phase }, { on := 20, ground := .phase }, { on := 21, ground := .phase }, { on := 22, ground := .phase }, { on := 23, ground := .phase }, { on := 24, ground := .phase }, { on := 25, ground := .phase }, { on := 26, ground := .phase }, { on := 27, ground := .phase }, { on := 28, ground := .phase }, { on := 29, ground := .phase }, { on := 30, ground := .phase }, { on := 31, ground := .phase }, { on := 32, ground := .phase }, { on := 33, ground := .phase }, { on := 34, ground := .phase }, { on := 35, ground := .phase }, { on := 36, ground := .phase }, { on := 37, ground := .phase }, { on := 38, ground := .phase }, { on := 39, ground := .phase }, { on := 40, ground := .phase }, { on := 41, ground := .phase }, { on := 42, ground := .phase }, { on := 43, ground := .phase }], guard := Option.none }) (v := ?_) rfl (by kernel_rfl) (by kernel_rfl) (by kernel_rfl) (fun _ _ _ h => h) (by kernel_rfl) (Or.inl ⟨by rfl, ?_⟩) (fun h => absurd (h.symm.trans (by kernel_rfl : _ = true)) (by decide)) ?_
          rotate_left
          · (intro w hSw; (try dsimp only at hSw); go_simp; try with_reducible rfl)
          try simp only [Act.put, List.setIfInBounds_toArray, List.set_cons_zero, List.set_cons_succ]
          refine wpAnyG_pure (i := 45) (oi := { dst := Option.some 63, op := .fieldAddr 117 (.tmp 62) 9, type := 0, pos := "property.go:249", after := #[{ on := 44, ground := .data }, { on := 0, ground := .phase }, { on := 1, ground := .phase }, { on := 2, ground := .phase }, { on := 3, ground := .phase }, { on := 4, ground := .phase }, { on := 5, ground := .phase }, { on := 6, ground := .phase }, { on := 7, ground := .phase }, { on := 8, ground := .phase }, { on := 9, ground := .phase }, { on := 10, ground := .phase }, { on := 11, ground := .phase }, { on := 12, ground := .phase }, { on := 13, ground := .phase }, { on := 14, ground := .phase }, { on := 15, ground := .phase }, { on := 16, ground := .phase }, { on := 17, ground := .phase }, { on := 18, ground := .phase }, { on := 19, ground := .phase }, { on := 20, ground := .phase }, { on := 21, ground := .phase }, { on := 22, ground := .phase }, { on := 23, ground := .phase }, { on := 24, ground := .phase }, { on := 25, ground := .phase }, { on := 26, ground := .phase }, { on := 27, ground := .phase }, { on := 28, ground := .phase }, { on := 29, ground := .phase }, { on := 30, ground := .phase }, { on := 31, ground := .phase }, { on := 32, ground := .phase }, { on := 33, ground := .phase }, { on := 34, ground := .phase }, { on := 35, ground := .phase }, { on := 36, ground := .phase }, { on := 37, ground := .phase }, { on := 38, ground := .phase }, { on := 39, ground := .phase }, { on := 40, ground := .phase }, { on := 41, ground := .phase }, { on := 42, ground := .phase }, { on := 43, ground := .phase }], guard := Option.none }) (v := ?_) rfl (by kernel_rfl) (by kernel_rfl) (by kernel_rfl) (fun _ _ _ h => h) (by kernel_rfl) (Or.inl ⟨by rfl, ?_⟩) (fun h => absurd (h.symm.trans (by kernel_rfl : _ = true)) (by decide)) ?_
          rotate_left
          · (intro w hSw; (try dsimp only at hSw); go_simp; try with_reducible rfl)
          try simp only [Act.put, List.setIfInBounds_toArray, List.set_cons_zero, List.set_cons_succ]
          refine wpAnyG_one (i := 46) (by kernel_rfl) (o := { dst := Option.none, op := .store 112 (.tmp 63) (.tmp 59), type := 0, pos := "property.go:249", after := #[{ on := 45, ground := .data }, { on := 39, ground := .data }, { on := 43, ground := .chain }, { on := 0, ground := .phase }, { on := 1, ground := .phase }, { on := 2, ground := .phase }, { on := 3, ground := .phase }, { on := 4, ground := .phase }, { on := 5, ground := .phase }, { on := 6, ground := .phase }, { on := 7, ground := .phase }, { on := 8, ground := .phase }, { on := 9, ground := .phase }, { on := 10, ground := .phase }, { on := 11, ground := .phase }, { on := 12, ground := .phase }, { on := 13, ground := .phase }, { on := 14, ground := .phase }, { on := 15, ground := .phase }, { on := 16, ground := .phase }, { on := 17, ground := .phase }, { on := 18, ground := .phase }, { on := 19, ground := .phase }, { on := 20, ground := .phase }, { on := 21, ground := .phase }, { on := 22, ground := .phase }, { on := 23, ground := .phase }, { on := 24, ground := .phase }, { on := 25, ground := .phase }, { on := 26, ground := .phase }, { on := 27, ground := .phase }, { on := 28, ground := .phase }, { on := 29, ground := .phase }, { on := 30, ground := .phase }, { on := 31, ground := .phase }, { on := 32, ground := .phase }, { on := 33, ground := .phase }, { on := 34, ground := .phase }, { on := 35, ground := .phase }, { on := 36, ground := .phase }, { on := 37, ground := .phase }, { on := 38, ground := .phase }, { on := 39, ground := .phase }, { on := 40, ground := .phase }, { on := 41, ground := .phase }, { on := 42, ground := .phase }, { on := 43, ground := .phase }], guard := Option.none }) rfl (fun K hK => ?_)
          go_simp
          refine hK.out _ _ (fun h => absurd (h.symm.trans (by kernel_rfl : _ = true)) (by decide)) ?_
          clear hK K
          try simp only [Act.put, List.setIfInBounds_toArray, List.set_cons_zero, List.set_cons_succ]
          refine wpAnyG_done (by kernel_rfl) ?_ _
          refine NoPanic.normal ?_
          have HU := Lib.hid (unattr_fin (w := w) HROW.out (show World.nodeAt X b r by unfold World.nodeAt; rw [HBX.out.block b (World.nodeAt.lt HO.out.2)]; exact HO.out.2) HBX.out (World.nodeAt.lt HO.out.2) hgb HV.out (i := i) (J := i) (by have := HKV.out.2.2.1; omega) HKV.out.2.2.1 (by rw [HKV.out.1]; exact hq) (k2 := ky) (v2 := vl) (Prod.ext HKV.out.1 HKV.out.2.1) (.string ⟨#[]⟩))
          go_wp2
          go_end0
          exact ⟨_, _, rfl, HU⟩
        · obtain ⟨J, hJ⟩ : ∃ J, l.length - 1 = J := ⟨_, rfl⟩
          have hJI : (l.length : Int) - 1 = (J : Int) := by omega
          obtain ⟨r0, r1, r2⟩ := HCC.out J (by omega)
          have r0 := cell_below HBX.out r0
          have r1 := cell_below HBX.out r1
          have r2 := cell_below HBX.out r2
          have fj0 := hwi (J * 3)
          have fj1 := hwi (J * 3 + 1)
          have fj2 := hwi (J * 3 + 2)
          obtain ⟨k2, hk2⟩ : ∃ ky, (l.getD J default).1 = ky := ⟨_, rfl⟩
          obtain ⟨v2, hv2⟩ : ∃ vl, (l.getD J default).2 = vl := ⟨_, rfl⟩
          rw [hk2] at r1
          rw [hv2] at r2
          have hJm : (J : Int) < (l.length : Int) := by omega
          have hiJ : i < J := by omega
          obtain ⟨hcap1, hcap2⟩ := row_cap hrow
          have hJc : (J : Int) ≤ (cap : Int) := by omega
          have hcI : (cap : Int) ≤ 9223372036854775807 := by omega
          obtain ⟨m, hm⟩ : ∃ m, l.length = m := ⟨_, rfl⟩
          rw [hm] at hiI hJm hJI hlt hlm c9 ⊢
          have HKV := Lib.hid (And.intro hky (And.intro hvl (And.intro hk2 (And.intro hv2 (And.intro hJ hm)))))
          have p0' := cell_below hbX p0
          have p1' := cell_below hbX p1
          have p2' := cell_below hbX p2
          have hwJ : IntKind.i64.wrap ((J : Nat) : Int) = ((J : Nat) : Int) := (IntWalk.i64_left _).trans (IntWalk.wrap64_in _ (by omega))
          clear hky hvl hk2 hv2 hJ hm hrow hwi hcap1
          go_wp2
          refine wp_region_noPanic ?_
          refine wp_region_G (k0 := 41) (S := fun w' => w'.cell? ⟨b, 9, none⟩ = some (.slice (some ⟨g, 0, none⟩) m cap) ∧ w'.cell? ⟨g, J * 3, none⟩ = some (.string ByteArray.empty) ∧ w'.cell? ⟨g, J * 3 + 1, none⟩ = some (.string k2) ∧ w'.cell? ⟨g, J * 3 + 2, none⟩ = some (.string v2)) (by kernel_rfl) ?_ (fun hHeld => ?_)
          · exact ⟨c9, r0, r1, r2⟩
          refine wpAnyG_pure (i := 0) (oi := { dst := Option.some 20, op := .move (.tmp 0), type := 75, pos := "property.go:249", after := #[], guard := Option.none }) (v := ?_) rfl (by kernel_rfl) (by kernel_rfl) (by kernel_rfl) (fun _ _ _ h => h) (by kernel_rfl) (Or.inl ⟨by rfl, ?_⟩) (fun _ => hHeld) ?_
          rotate_left
          · (intro w hSw; (try dsimp only at hSw); go_simp; try with_reducible rfl)
          try simp only [Act.put, List.setIfInBounds_toArray, List.set_cons_zero, List.set_cons_succ]
          refine wpAnyG_pure (i := 1) (oi := { dst := Option.some 21, op := .nilCheck (.tmp 20), type := 0, pos := "property.go:249", after := #[{ on := 0, ground := .data }], guard := Option.none }) (v := ?_) rfl (by kernel_rfl) (by kernel_rfl) (by kernel_rfl) (fun _ _ _ h => h) (by kernel_rfl) (Or.inl ⟨by rfl, ?_⟩) (fun _ => hHeld) ?_
          rotate_left
          · (intro w hSw; (try dsimp only at hSw); go_simp; try with_reducible rfl)
          try simp only [Act.put, List.setIfInBounds_toArray, List.set_cons_zero, List.set_cons_succ]
          refine wpAnyG_pure (i := 2) (oi := { dst := Option.some 22, op := .fieldAddr 117 (.tmp 21) 9, type := 0, pos := "property.go:249", after := #[{ on := 1, ground := .data }], guard := Option.none }) (v := ?_) rfl (by kernel_rfl) (by kernel_rfl) (by kernel_rfl) (fun _ _ _ h => h) (by kernel_rfl) (Or.inl ⟨by rfl, ?_⟩) (fun _ => hHeld) ?_
          rotate_left
          · (intro w hSw; (try dsimp only at hSw); go_simp; try with_reducible rfl)
          try simp only [Act.put, List.setIfInBounds_toArray, List.set_cons_zero, List.set_cons_succ]
          refine wpAnyG_load (i := 3) (oi := { dst := Option.some 23, op := .load 112 (.tmp 22), type := 112, pos := "property.go:249", after := #[{ on := 2, ground := .data }], guard := Option.none }) (v := ?_) rfl (by kernel_rfl) (by kernel_rfl) (by kernel_rfl) (fun _ _ _ h => h) (by kernel_rfl) (by kernel_rfl) (by kernel_rfl) (Or.inl ⟨by rfl, ?_⟩) hHeld ?_
          rotate_left
          · (intro w hSw; (try dsimp only at hSw); go_simp; try with_reducible rfl)
          try simp only [Act.put, List.setIfInBounds_toArray, List.set_cons_zero, List.set_cons_succ]
          refine wpAnyG_pure (i := 4) (oi := { dst := Option.some 24, op := .move (.tmp 4), type := 3, pos := "property.go:249", after := #[], guard := Option.none }) (v := ?_) rfl (by kernel_rfl) (by kernel_rfl) (by kernel_rfl) (fun _ _ _ h => h) (by kernel_rfl) (Or.inl ⟨by rfl, ?_⟩) (fun _ => hHeld) ?_
          rotate_left
          · (intro w hSw; (try dsimp only at hSw); go_simp; try with_reducible rfl)
          try simp only [Act.put, List.setIfInBounds_toArray, List.set_cons_zero, List.set_cons_succ]
          refine wpAnyG_pure (i := 5) (oi := { dst := Option.some 25, op := .move (.tmp 0), type := 75, pos := "property.go:249", after := #[], guard := Option.none }) (v := ?_) rfl (by kernel_rfl) (by kernel_rfl) (by kernel_rfl) (fun _ _ _ h => h) (by kernel_rfl) (Or.inl ⟨by rfl, ?_⟩) (fun _ => hHeld) ?_
          rotate_left
          · (intro w hSw; (try dsimp only at hSw); go_simp; try with_reducible rfl)
          try simp only [Act.put, List.setIfInBounds_toArray, List.set_cons_zero, List.set_cons_succ]
          refine wpAnyG_pure (i := 6) (oi := { dst := Option.some 26, op := .nilCheck (.tmp 25), type := 0, pos := "property.go:249", after := #[{ on := 5, ground := .data }], guard := Option.none }) (v := ?_) rfl (by kernel_rfl) (by kernel_rfl) (by kernel_rfl) (fun _ _ _ h => h) (by kernel_rfl) (Or.inl ⟨by rfl, ?_⟩) (fun _ => hHeld) ?_
          rotate_left
          · (intro w hSw; (try dsimp only at hSw); go_simp; try with_reducible rfl)
          try simp only [Act.put, List.setIfInBounds_toArray, List.set_cons_zero, List.set_cons_succ]
          refine wpAnyG_pure (i := 7) (oi := { dst := Option.some 27, op := .fieldAddr 117 (.tmp 26) 9, type := 0, pos := "property.go:249", after := #[{ on := 6, ground := .data }], guard := Option.none }) (v := ?_) rfl (by kernel_rfl) (by kernel_rfl) (by kernel_rfl) (fun _ _ _ h => h) (by kernel_rfl) (Or.inl ⟨by rfl, ?_⟩) (fun _ => hHeld) ?_
          rotate_left
          · (intro w hSw; (try dsimp only at hSw); go_simp; try with_reducible rfl)
          try simp only [Act.put, List.setIfInBounds_toArray, List.set_cons_zero, List.set_cons_succ]
          refine wpAnyG_load (i := 8) (oi := { dst := Option.some 28, op := .load 112 (.tmp 27), type := 112, pos := "property.go:249", after := #[{ on := 7, ground := .data }], guard := Option.none }) (v := ?_) rfl (by kernel_rfl) (by kernel_rfl) (by kernel_rfl) (fun _ _ _ h => h) (by kernel_rfl) (by kernel_rfl) (by kernel_rfl) (Or.inl ⟨by rfl, ?_⟩) hHeld ?_
          rotate_left
          · (intro w hSw; (try dsimp only at hSw); go_simp; try with_reducible rfl)
          try simp only [Act.put, List.setIfInBounds_toArray, List.set_cons_zero, List.set_cons_succ]
          refine wpAnyG_pure (i := 9) (oi := { dst := Option.some 29, op := .move (.tmp 0), type := 75, pos := "property.go:249", after := #[], guard := Option.none }) (v := ?_) rfl (by kernel_rfl) (by kernel_rfl) (by kernel_rfl) (fun _ _ _ h => h) (by kernel_rfl) (Or.inl ⟨by rfl, ?_⟩) (fun _ => hHeld) ?_
          rotate_left
          · (intro w hSw; (try dsimp only at hSw); go_simp; try with_reducible rfl)
          try simp only [Act.put, List.setIfInBounds_toArray, List.set_cons_zero, List.set_cons_succ]
          refine wpAnyG_pure (i := 10) (oi := { dst := Option.some 30, op := .nilCheck (.tmp 29), type := 0, pos := "property.go:249", after := #[{ on := 9, ground := .data }], guard := Option.none }) (v := ?_) rfl (by kernel_rfl) (by kernel_rfl) (by kernel_rfl) (fun _ _ _ h => h) (by kernel_rfl) (Or.inl ⟨by rfl, ?_⟩) (fun _ => hHeld) ?_
          rotate_left
          · (intro w hSw; (try dsimp only at hSw); go_simp; try with_reducible rfl)
          try simp only [Act.put, List.setIfInBounds_toArray, List.set_cons_zero, List.set_cons_succ]
          refine wpAnyG_pure (i := 11) (oi := { dst := Option.some 31, op := .fieldAddr 117 (.tmp 30) 9, type := 0, pos := "property.go:249", after := #[{ on := 10, ground := .data }], guard := Option.none }) (v := ?_) rfl (by kernel_rfl) (by kernel_rfl) (by kernel_rfl) (fun _ _ _ h => h) (by kernel_rfl) (Or.inl ⟨by rfl, ?_⟩) (fun _ => hHeld) ?_
          rotate_left
          · (intro w hSw; (try dsimp only at hSw); go_simp; try with_reducible rfl)
          try simp only [Act.put, List.setIfInBounds_toArray, List.set_cons_zero, List.set_cons_succ]
          refine wpAnyG_load (i := 12) (oi := { dst := Option.some 32, op := .load 112 (.tmp 31), type := 112, pos := "property.go:249", after := #[{ on := 11, ground := .data }], guard := Option.none }) (v := ?_) rfl (by kernel_rfl) (by kernel_rfl) (by kernel_rfl) (fun _ _ _ h => h) (by kernel_rfl) (by kernel_rfl) (by kernel_rfl) (Or.inl ⟨by rfl, ?_⟩) hHeld ?_
          rotate_left
          · (intro w hSw; (try dsimp only at hSw); go_simp; try with_reducible rfl)
          try simp only [Act.put, List.setIfInBounds_toArray, List.set_cons_zero, List.set_cons_succ]
          refine wpAnyG_pure (i := 13) (oi := { dst := Option.some 33, op := .call { callee := .builtin .len, args := #[.tmp 32], argTypes := #[112] }, type := 3, pos := "property.go:249", after := #[{ on := 12, ground := .data }], guard := Option.none }) (v := ?_) rfl (by kernel_rfl) (by kernel_rfl) (by kernel_rfl) (fun _ _ _ h => h) (by kernel_rfl) (Or.inl ⟨by rfl, ?_⟩) (fun _ => hHeld) ?_
          rotate_left
          · (intro w hSw; (try dsimp only at hSw); go_simp; try with_reducible rfl)
          try simp only [Act.put, List.setIfInBounds_toArray, List.set_cons_zero, List.set_cons_succ]
          refine wpAnyG_pure (i := 14) (oi := { dst := Option.some 34, op := .binOp .sub 3 (.tmp 33) (.const (.int .i64 1)) 3, type := 3, pos := "property.go:249", after := #[{ on := 13, ground := .data }, { on := 41, ground := .gcOnly Go.Departure.lateStores }], guard := Option.none }) (v := ?_) rfl (by kernel_rfl) (by kernel_rfl) (by kernel_rfl) (fun _ _ _ h => h) (by kernel_rfl) (Or.inl ⟨by rfl, ?_⟩) (fun _ => hHeld) ?_
          rotate_left
          · (intro w hSw; (try dsimp only at hSw); go_simp; try with_reducible rfl)
          try simp only [Act.put, List.setIfInBounds_toArray, List.set_cons_zero, List.set_cons_succ]
          refine wpAnyG_pure (i := 15) (oi := { dst := Option.some 35, op := .move (.tmp 0), type := 75, pos := "property.go:249", after := #[{ on := 43, ground := .gcOnly Go.Departure.lateStores }], guard := Option.none }) (v := ?_) rfl (by kernel_rfl) (by kernel_rfl) (by kernel_rfl) (fun _ _ _ h => h) (by kernel_rfl) (Or.inl ⟨by rfl, ?_⟩) (fun _ => hHeld) ?_
          rotate_left
          · (intro w hSw; (try dsimp only at hSw); go_simp; try with_reducible rfl)
          try simp only [Act.put, List.setIfInBounds_toArray, List.set_cons_zero, List.set_cons_succ]
          refine wpAnyG_pure (i := 16) (oi := { dst := Option.some 36, op := .move (.tmp 0), type := 75, pos := "property.go:249", after := #[], guard := Option.none }) (v := ?_) rfl (by kernel_rfl) (by kernel_rfl) (by kernel_rfl) (fun _ _ _ h => h) (by kernel_rfl) (Or.inl ⟨by rfl, ?_⟩) (fun _ => hHeld) ?_
          rotate_left
          · (intro w hSw; (try dsimp only at hSw); go_simp; try with_reducible rfl)
          try simp only [Act.put, List.setIfInBounds_toArray, List.set_cons_zero, List.set_cons_succ]
          refine wpAnyG_pure (i := 17) (oi := { dst := Option.some 37, op := .nilCheck (.tmp 36), type := 0, pos := "property.go:249", after := #[{ on := 16, ground := .data }], guard := Option.none }) (v := ?_) rfl (by kernel_rfl) (by kernel_rfl) (by kernel_rfl) (fun _ _ _ h => h) (by kernel_rfl) (Or.inl ⟨by rfl, ?_⟩) (fun _ => hHeld) ?_
          rotate_left
          · (intro w hSw; (try dsimp only at hSw); go_simp; try with_reducible rfl)
          try simp only [Act.put, List.setIfInBounds_toArray, List.set_cons_zero, List.set_cons_succ]
          refine wpAnyG_pure (i := 18) (oi := { dst := Option.some 38, op := .fieldAddr 117 (.tmp 37) 9, type := 0, pos := "property.go:249", after := #[{ on := 17, ground := .data }], guard := Option.none }) (v := ?_) rfl (by kernel_rfl) (by kernel_rfl) (by kernel_rfl) (fun _ _ _ h => h) (by kernel_rfl) (Or.inl ⟨by rfl, ?_⟩) (fun _ => hHeld) ?_
          rotate_left
          · (intro w hSw; (try dsimp only at hSw); go_simp; try with_reducible rfl)
          try simp only [Act.put, List.setIfInBounds_toArray, List.set_cons_zero, List.set_cons_succ]
          refine wpAnyG_load (i := 19) (oi := { dst := Option.some 39, op := .load 112 (.tmp 38), type := 112, pos := "property.go:249", after := #[{ on := 18, ground := .data }], guard := Option.none }) (v := ?_) rfl (by kernel_rfl) (by kernel_rfl) (by kernel_rfl) (fun _ _ _ h => h) (by kernel_rfl) (by kernel_rfl) (by kernel_rfl) (Or.inl ⟨by rfl, ?_⟩) hHeld ?_
          rotate_left
          · (intro w hSw; (try dsimp only at hSw); go_simp; try with_reducible rfl)
          try simp only [Act.put, List.setIfInBounds_toArray, List.set_cons_zero, List.set_cons_succ]
          refine wpAnyG_pure (i := 20) (oi := { dst := Option.some 40, op := .move (.tmp 0), type := 75, pos := "property.go:249", after := #[], guard := Option.none }) (v := ?_) rfl (by kernel_rfl) (by kernel_rfl) (by kernel_rfl) (fun _ _ _ h => h) (by kernel_rfl) (Or.inl ⟨by rfl, ?_⟩) (fun _ => hHeld) ?_
          rotate_left
          · (intro w hSw; (try dsimp only at hSw); go_simp; try with_reducible rfl)
          try simp only [Act.put, List.setIfInBounds_toArray, List.set_cons_zero, List.set_cons_succ]
          refine wpAnyG_pure (i := 21) (oi := { dst := Option.some 41, op := .nilCheck (.tmp 40), type := 0, pos := "property.go:249", after := #[{ on := 20, ground := .data }], guard := Option.none }) (v := ?_) rfl (by kernel_rfl) (by kernel_rfl) (by kernel_rfl) (fun _ _ _ h => h) (by kernel_rfl) (Or.inl ⟨by rfl, ?_⟩) (fun _ => hHeld) ?_
          rotate_left
          · (intro w hSw; (try dsimp only at hSw); go_simp; try with_reducible rfl)
          try simp only [Act.put, List.setIfInBounds_toArray, List.set_cons_zero, List.set_cons_succ]
          refine wpAnyG_pure (i := 22) (oi := { dst := Option.some 42, op := .fieldAddr 117 (.tmp 41) 9, type := 0, pos := "property.go:249", after := #[{ on := 21, ground := .data }], guard := Option.none }) (v := ?_) rfl (by kernel_rfl) (by kernel_rfl) (by kernel_rfl) (fun _ _ _ h => h) (by kernel_rfl) (Or.inl ⟨by rfl, ?_⟩) (fun _ => hHeld) ?_
          rotate_left
          · (intro w hSw; (try dsimp only at hSw); go_simp; try with_reducible rfl)
          try simp only [Act.put, List.setIfInBounds_toArray, List.set_cons_zero, List.set_cons_succ]
          refine wpAnyG_load (i := 23) (oi := { dst := Option.some 43, op := .load 112 (.tmp 42), type := 112, pos := "property.go:249", after := #[{ on := 22, ground := .data }], guard := Option.none }) (v := ?_) rfl (by kernel_rfl) (by kernel_rfl) (by kernel_rfl) (fun _ _ _ h => h) (by kernel_rfl) (by kernel_rfl) (by kernel_rfl) (Or.inl ⟨by rfl, ?_⟩) hHeld ?_
          rotate_left
          · (intro w hSw; (try dsimp only at hSw); go_simp; try with_reducible rfl)
          try simp only [Act.put, List.setIfInBounds_toArray, List.set_cons_zero, List.set_cons_succ]
          refine wpAnyG_pure (i := 24) (oi := { dst := Option.some 44, op := .call { callee := .builtin .len, args := #[.tmp 43], argTypes := #[112] }, type := 3, pos := "property.go:249", after := #[{ on := 23, ground := .data }], guard := Option.none }) (v := ?_) rfl (by kernel_rfl) (by kernel_rfl) (by kernel_rfl) (fun _ _ _ h => h) (by kernel_rfl) (Or.inl ⟨by rfl, ?_⟩) (fun _ => hHeld) ?_
          rotate_left
          · (intro w hSw; (try dsimp only at hSw); go_simp; try with_reducible rfl)
          try simp only [Act.put, List.setIfInBounds_toArray, List.set_cons_zero, List.set_cons_succ]
          refine wpAnyG_pure (i := 25) (oi := { dst := Option.some 45, op := .binOp .sub 3 (.tmp 44) (.const (.int .i64 1)) 3, type := 3, pos := "property.go:249", after := #[{ on := 24, ground := .data }], guard := Option.none }) (v := ?_) rfl (by kernel_rfl) (by kernel_rfl) (by kernel_rfl) (fun _ _ _ h => h) (by kernel_rfl) (Or.inl ⟨by rfl, ?_⟩) (fun _ => hHeld) ?_
          rotate_left
          · (intro w hSw; (try dsimp only at hSw); go_simp; try with_reducible rfl)
          try simp only [Act.put, List.setIfInBounds_toArray, List.set_cons_zero, List.set_cons_succ]
          refine wpAnyG_pure (i := 26) (oi := { dst := Option.some 46, op := .indexAddr 112 (.tmp 39) (.tmp 45), type := 0, pos := "property.go:249", after := #[{ on := 19, ground := .data }, { on := 25, ground := .data }], guard := Option.none }) (v := ?_) rfl (by kernel_rfl) (by kernel_rfl) (by kernel_rfl) (fun _ _ _ h => h) (by kernel_rfl) (Or.inl ⟨by rfl, ?_⟩) (fun _ => hHeld) ?_
          rotate_left
          · (intro w hSw; (try dsimp only at hSw); go_simp; try with_reducible rfl)
          try simp only [Act.put, List.setIfInBounds_toArray, List.set_cons_zero, List.set_cons_succ]
          refine wpAnyG_load (i := 27) (oi := { dst := Option.some 47, op := .load 119 (.tmp 46), type := 119, pos := "property.go:249", after := #[{ on := 26, ground := .data }], guard := Option.none }) (v := ?_) rfl (by kernel_rfl) (by kernel_rfl) (by kernel_rfl) (fun _ _ _ h => h) (by kernel_rfl) (by kernel_rfl) (by kernel_rfl) (Or.inl ⟨by rfl, ?_⟩) hHeld ?_
          rotate_left
          · (intro w hSw; (try dsimp only at hSw); go_simp; try with_reducible rfl)
          try simp only [Act.put, List.setIfInBounds_toArray, List.set_cons_zero, List.set_cons_succ]
          refine wpAnyG_pure (i := 28) (oi := { dst := Option.some 48, op := .build 119 #[], type := 119, pos := "property.go:249", after := #[], guard := Option.none }) (v := ?_) rfl (by kernel_rfl) (by kernel_rfl) (by kernel_rfl) (fun _ _ _ h => h) (by kernel_rfl) (Or.inl ⟨by rfl, ?_⟩) (fun _ => hHeld) ?_
          rotate_left
          · (intro w hSw; (try dsimp only at hSw); go_simp; try with_reducible rfl)
          try simp only [Act.put, List.setIfInBounds_toArray, List.set_cons_zero, List.set_cons_succ]
          refine wpAnyG_pure (i := 29) (oi := { dst := Option.some 49, op := .move (.tmp 0), type := 75, pos := "property.go:249", after := #[], guard := Option.none }) (v := ?_) rfl (by kernel_rfl) (by kernel_rfl) (by kernel_rfl) (fun _ _ _ h => h) (by kernel_rfl) (Or.inl ⟨by rfl, ?_⟩) (fun _ => hHeld) ?_
          rotate_left
          · (intro w hSw; (try dsimp only at hSw); go_simp; try with_reducible rfl)
          try simp only [Act.put, List.setIfInBounds_toArray, List.set_cons_zero, List.set_cons_succ]
          refine wpAnyG_pure (i := 30) (oi := { dst := Option.some 50, op := .nilCheck (.tmp 49), type := 0, pos := "property.go:249", after := #[{ on := 29, ground := .data }], guard := Option.none }) (v := ?_) rfl (by kernel_rfl) (by kernel_rfl) (by kernel_rfl) (fun _ _ _ h => h) (by kernel_rfl) (Or.inl ⟨by rfl, ?_⟩) (fun _ => hHeld) ?_
          rotate_left
          · (intro w hSw; (try dsimp only at hSw); go_simp; try with_reducible rfl)
          try simp only [Act.put, List.setIfInBounds_toArray, List.set_cons_zero, List.set_cons_succ]
          refine wpAnyG_pure (i := 31) (oi := { dst := Option.some 51, op := .fieldAddr 117 (.tmp 50) 9, type := 0, pos := "property.go:249", after := #[{ on := 30, ground := .data }], guard := Option.none }) (v := ?_) rfl (by kernel_rfl) (by kernel_rfl) (by kernel_rfl) (fun _ _ _ h => h) (by kernel_rfl) (Or.inl ⟨by rfl, ?_⟩) (fun _ => hHeld) ?_
          rotate_left
          · (intro w hSw; (try dsimp only at hSw); go_simp; try with_reducible rfl)
          try simp only [Act.put, List.setIfInBounds_toArray, List.set_cons_zero, List.set_cons_succ]
          refine wpAnyG_load (i := 32) (oi := { dst := Option.some 52, op := .load 112 (.tmp 51), type := 112, pos := "property.go:249", after := #[{ on := 31, ground := .data }], guard := Option.none }) (v := ?_) rfl (by kernel_rfl) (by kernel_rfl) (by kernel_rfl) (fun _ _ _ h => h) (by kernel_rfl) (by kernel_rfl) (by kernel_rfl) (Or.inl ⟨by rfl, ?_⟩) hHeld ?_
          rotate_left
          · (intro w hSw; (try dsimp only at hSw); go_simp; try with_reducible rfl)
          try simp only [Act.put, List.setIfInBounds_toArray, List.set_cons_zero, List.set_cons_succ]
          refine wpAnyG_pure (i := 33) (oi := { dst := Option.some 53, op := .move (.tmp 0), type := 75, pos := "property.go:249", after := #[], guard := Option.none }) (v := ?_) rfl (by kernel_rfl) (by kernel_rfl) (by kernel_rfl) (fun _ _ _ h => h) (by kernel_rfl) (Or.inl ⟨by rfl, ?_⟩) (fun _ => hHeld) ?_
          rotate_left
          · (intro w hSw; (try dsimp only at hSw); go_simp; try with_reducible rfl)
          try simp only [Act.put, List.setIfInBounds_toArray, List.set_cons_zero, List.set_cons_succ]
          refine wpAnyG_pure (i := 34) (oi := { dst := Option.some 54, op := .nilCheck (.tmp 53), type := 0, pos := "property.go:249", after := #[{ on := 33, ground := .data }], guard := Option.none }) (v := ?_) rfl (by kernel_rfl) (by kernel_rfl) (by kernel_rfl) (fun _ _ _ h => h) (by kernel_rfl) (Or.inl ⟨by rfl, ?_⟩) (fun _ => hHeld) ?_
          rotate_left
          · (intro w hSw; (try dsimp only at hSw); go_simp; try with_reducible rfl)
          try simp only [Act.put, List.setIfInBounds_toArray, List.set_cons_zero, List.set_cons_succ]
          refine wpAnyG_pure (i := 35) (oi := { dst := Option.some 55, op := .fieldAddr 117 (.tmp 54) 9, type := 0, pos := "property.go:249", after := #[{ on := 34, ground := .data }], guard := Option.none }) (v := ?_) rfl (by kernel_rfl) (by kernel_rfl) (by kernel_rfl) (fun _ _ _ h => h) (by kernel_rfl) (Or.inl ⟨by rfl, ?_⟩) (fun _ => hHeld) ?_
          rotate_left
          · (intro w hSw; (try dsimp only at hSw); go_simp; try with_reducible rfl)
          try simp only [Act.put, List.setIfInBounds_toArray, List.set_cons_zero, List.set_cons_succ]
          refine wpAnyG_load (i := 36) (oi := { dst := Option.some 56, op := .load 112 (.tmp 55), type := 112, pos := "property.go:249", after := #[{ on := 35, ground := .data }], guard := Option.none }) (v := ?_) rfl (by kernel_rfl) (by kernel_rfl) (by kernel_rfl) (fun _ _ _ h => h) (by kernel_rfl) (by kernel_rfl) (by kernel_rfl) (Or.inl ⟨by rfl, ?_⟩) hHeld ?_
          rotate_left
          · (intro w hSw; (try dsimp only at hSw); go_simp; try with_reducible rfl)
          try simp only [Act.put, List.setIfInBounds_toArray, List.set_cons_zero, List.set_cons_succ]
          refine wpAnyG_pure (i := 37) (oi := { dst := Option.some 57, op := .call { callee := .builtin .len, args := #[.tmp 56], argTypes := #[112] }, type := 3, pos := "property.go:249", after := #[{ on := 36, ground := .data }], guard := Option.none }) (v := ?_) rfl (by kernel_rfl) (by kernel_rfl) (by kernel_rfl) (fun _ _ _ h => h) (by kernel_rfl) (Or.inl ⟨by rfl, ?_⟩) (fun _ => hHeld) ?_
          rotate_left
          · (intro w hSw; (try dsimp only at hSw); go_simp; try with_reducible rfl)
          try simp only [Act.put, List.setIfInBounds_toArray, List.set_cons_zero, List.set_cons_succ]
          refine wpAnyG_pure (i := 38) (oi := { dst := Option.some 58, op := .binOp .sub 3 (.tmp 57) (.const (.int .i64 1)) 3, type := 3, pos := "property.go:249", after := #[{ on := 37, ground := .data }], guard := Option.none }) (v := ?_) rfl (by kernel_rfl) (by kernel_rfl) (by kernel_rfl) (fun _ _ _ h => h) (by kernel_rfl) (Or.inl ⟨by rfl, ?_⟩) (fun _ => hHeld) ?_
          rotate_left
          · (intro w hSw; (try dsimp only at hSw); go_simp; try with_reducible rfl)
          try simp only [Act.put, List.setIfInBounds_toArray, List.set_cons_zero, List.set_cons_succ]
          refine wpAnyG_pure (i := 39) (oi := { dst := Option.some 59, op := .slice 112 (.tmp 52) Option.none (Option.some (.tmp 58)) Option.none, type := 112, pos := "property.go:249", after := #[{ on := 32, ground := .data }, { on := 38, ground := .data }], guard := Option.none }) (v := ?_) rfl (by kernel_rfl) (by kernel_rfl) (by kernel_rfl) (fun _ _ _ h => h) (by kernel_rfl) (Or.inl ⟨by rfl, ?_⟩) (fun _ => hHeld) ?_
          rotate_left
          · (intro w hSw; (try dsimp only at hSw); go_simp; try with_reducible rfl)
          try simp only [Act.put, List.setIfInBounds_toArray, List.set_cons_zero, List.set_cons_succ]
          refine wpAnyG_pure (i := 40) (oi := { dst := Option.some 60, op := .indexAddr 112 (.tmp 23) (.tmp 24), type := 0, pos := "property.go:249", after := #[{ on := 3, ground := .data }, { on := 4, ground := .data }, { on := 0, ground := .phase }, { on := 1, ground := .phase }, { on := 2, ground := .phase }, { on := 3, ground := .phase }, { on := 4, ground := .phase }, { on := 5, ground := .textOnly Go.Departure.lateStores }, { on := 6, ground := .textOnly Go.Departure.lateStoresUnsure }, { on := 7, ground := .textOnly Go.Departure.lateStoresUnsure }, { on := 8, ground := .phase }, { on := 9, ground := .textOnly Go.Departure.lateStores }, { on := 10, ground := .textOnly Go.Departure.lateStoresUnsure }, { on := 11, ground := .textOnly Go.Departure.lateStoresUnsure }, { on := 12, ground := .phase }, { on := 13, ground := .textOnly Go.Departure.lateStoresUnsure }, { on := 14, ground := .textOnly Go.Departure.lateStores }, { on := 15, ground := .textOnly Go.Departure.lateStores }, { on := 16, ground := .phase }, { on := 17, ground := .phase }, { on := 18, ground := .phase }, { on := 19, ground := .phase }, { on := 20, ground := .phase }, { on := 21, ground := .phase }, { on := 22, ground := .phase }, { on := 23, ground := .phase }, { on := 24, ground := .phase }, { on := 25, ground := .phase }, { on := 26, ground := .phase }, { on := 27, ground := .phase }, { on := 28, ground := .textOnly Go.Departure.lateStoresUnsure }, { on := 29, ground := .textOnly Go.Departure.lateStores }, { on := 30, ground := .textOnly Go.Departure.lateStoresUnsure }, { on := 31, ground := .textOnly Go.Departure.lateStoresUnsure }, { on := 32, ground := .phase }, { on := 33, ground := .textOnly Go.Departure.lateStores }, { on := 34, ground := .textOnly Go.Departure.lateStoresUnsure }, { on := 35, ground := .textOnly Go.Departure.lateStoresUnsure }, { on := 36, ground := .phase }, { on := 37, ground := .textOnly Go.Departure.lateStoresUnsure }, { on := 38, ground := .textOnly Go.Departure.lateStores }, { on := 39, ground := .textOnly Go.Departure.lateStoresUnsure }], guard := Option.none }) (v := ?_) rfl (by kernel_rfl) (by kernel_rfl) (by kernel_rfl) (fun _ _ _ h => h) (by kernel_rfl) (Or.inl ⟨by rfl, ?_⟩) (fun _ => hHeld) ?_
          rotate_left
          · (intro w hSw; (try dsimp only at hSw); go_simp; try with_reducible rfl)
          try simp only [Act.put, List.setIfInBounds_toArray, List.set_cons_zero, List.set_cons_succ]
          refine wpAnyG_one (i := 41) (by kernel_rfl) (o := { dst := Option.none, op := .store 119 (.tmp 60) (.tmp 47), type := 0, pos := "property.go:249", after := #[{ on := 40, ground := .data }, { on := 27, ground := .data }, { on := 0, ground := .phase }, { on := 1, ground := .phase }, { on := 2, ground := .phase }, { on := 3, ground := .phase }, { on := 4, ground := .phase }, { on := 5, ground := .textOnly Go.Departure.lateStores }, { on := 6, ground := .textOnly Go.Departure.lateStoresUnsure }, { on := 7, ground := .textOnly Go.Departure.lateStoresUnsure }, { on := 8, ground := .phase }, { on := 9, ground := .textOnly Go.Departure.lateStores }, { on := 10, ground := .textOnly Go.Departure.lateStoresUnsure }, { on := 11, ground := .textOnly Go.Departure.lateStoresUnsure }, { on := 12, ground := .phase }, { on := 13, ground := .textOnly Go.Departure.lateStoresUnsure }, { on := 14, ground := .textOnly Go.Departure.lateStores }, { on := 15, ground := .textOnly Go.Departure.lateStores }, { on := 16, ground := .phase }, { on := 17, ground := .phase }, { on := 18, ground := .phase }, { on := 19, ground := .phase }, { on := 20, ground := .phase }, { on := 21, ground := .phase }, { on := 22, ground := .phase }, { on := 23, ground := .phase }, { on := 24, ground := .phase }, { on := 25, ground := .phase }, { on := 26, ground := .phase }, { on := 27, ground := .phase }, { on := 28, ground := .textOnly Go.Departure.lateStoresUnsure }, { on := 29, ground := .textOnly Go.Departure.lateStores }, { on := 30, ground := .textOnly Go.Departure.lateStoresUnsure }, { on := 31, ground := .textOnly Go.Departure.lateStoresUnsure }, { on := 32, ground := .phase }, { on := 33, ground := .textOnly Go.Departure.lateStores }, { on := 34, ground := .textOnly Go.Departure.lateStoresUnsure }, { on := 35, ground := .textOnly Go.Departure.lateStoresUnsure }, { on := 36, ground := .phase }, { on := 37, ground := .textOnly Go.Departure.lateStoresUnsure }, { on := 38, ground := .textOnly Go.Departure.lateStores }, { on := 39, ground := .textOnly Go.Departure.lateStoresUnsure }], guard := Option.none }) rfl (fun K hK => ?_)
          go_simp
          refine hK.out _ _ (fun h => absurd (h.symm.trans (by kernel_rfl : _ = true)) (by decide)) ?_
          clear hK K
          try simp only [Act.put, List.setIfInBounds_toArray, List.set_cons_zero, List.set_cons_succ]
          refine wpAnyG_pure (i := 42) (oi := { dst := Option.some 61, op := .indexAddr 112 (.tmp 28) (.tmp 34), type := 0, pos := "property.go:249", after := #[{ on := 8, ground := .data }, { on := 14, ground := .data }, { on := 0, ground := .phase }, { on := 1, ground := .phase }, { on := 2, ground := .phase }, { on := 3, ground := .phase }, { on := 4, ground := .phase }, { on := 5, ground := .phase }, { on := 6, ground := .phase }, { on := 7, ground := .phase }, { on := 8, ground := .phase }, { on := 9, ground := .phase }, { on := 10, ground := .phase }, { on := 11, ground := .phase }, { on := 12, ground := .phase }, { on := 13, ground := .phase }, { on := 14, ground := .phase }, { on := 15, ground := .textOnly Go.Departure.lateStores }, { on := 16, ground := .phase }, { on := 17, ground := .phase }, { on := 18, ground := .phase }, { on := 19, ground := .phase }, { on := 20, ground := .phase }, { on := 21, ground := .phase }, { on := 22, ground := .phase }, { on := 23, ground := .phase }, { on := 24, ground := .phase }, { on := 25, ground := .phase }, { on := 26, ground := .phase }, { on := 27, ground := .phase }, { on := 28, ground := .phase }, { on := 29, ground := .textOnly Go.Departure.lateStores }, { on := 30, ground := .textOnly Go.Departure.lateStoresUnsure }, { on := 31, ground := .textOnly Go.Departure.lateStoresUnsure }, { on := 32, ground := .phase }, { on := 33, ground := .textOnly Go.Departure.lateStores }, { on := 34, ground := .textOnly Go.Departure.lateStoresUnsure }, { on := 35, ground := .textOnly Go.Departure.lateStoresUnsure }, { on := 36, ground := .phase }, { on := 37, ground := .textOnly Go.Departure.lateStoresUnsure }, { on := 38, ground := .textOnly Go.Departure.lateStores }, { on := 39, ground := .textOnly Go.Departure.lateStoresUnsure }, { on := 40, ground := .phase }, { on := 41, ground := .phase }], guard := Option.none }) (v := ?_) rfl (by kernel_rfl) (by kernel_rfl) (by kernel_rfl) (fun _ _ _ h => h) (by kernel_rfl) (Or.inl ⟨by rfl, ?_⟩) (fun h => absurd (h.symm.trans (by kernel_rfl : _ = true)) (by decide)) ?_
          rotate_left
          · (intro w hSw; (try dsimp only at hSw); go_simp; try with_reducible rfl)
          try simp only [Act.put, List.setIfInBounds_toArray, List.set_cons_zero, List.set_cons_succ]
          refine wpAnyG_one (i := 43) (by kernel_rfl) (o := { dst := Option.none, op := .store 119 (.tmp 61) (.tmp 48), type := 0, pos := "property.go:249", after := #[{ on := 42, ground := .data }, { on := 28, ground := .data }, { on := 41, ground := .chain }, { on := 0, ground := .phase }, { on := 1, ground := .phase }, { on := 2, ground := .phase }, { on := 3, ground := .phase }, { on := 4, ground := .phase }, { on := 5, ground := .phase }, { on := 6, ground := .phase }, { on := 7, ground := .phase }, { on := 8, ground := .phase }, { on := 9, ground := .phase }, { on := 10, ground := .phase }, { on := 11, ground := .phase }, { on := 12, ground := .phase }, { on := 13, ground := .phase }, { on := 14, ground := .phase }, { on := 15, ground := .textOnly Go.Departure.lateStores }, { on := 16, ground := .phase }, { on := 17, ground := .phase }, { on := 18, ground := .phase }, { on := 19, ground := .phase }, { on := 20, ground := .phase }, { on := 21, ground := .phase }, { on := 22, ground := .phase }, { on := 23, ground := .phase }, { on := 24, ground := .phase }, { on := 25, ground := .phase }, { on := 26, ground := .phase }, { on := 27, ground := .phase }, { on := 28, ground := .phase }, { on := 29, ground := .textOnly Go.Departure.lateStores }, { on := 30, ground := .textOnly Go.Departure.lateStoresUnsure }, { on := 31, ground := .textOnly Go.Departure.lateStoresUnsure }, { on := 32, ground := .phase }, { on := 33, ground := .textOnly Go.Departure.lateStores }, { on := 34, ground := .textOnly Go.Departure.lateStoresUnsure }, { on := 35, ground := .textOnly Go.Departure.lateStoresUnsure }, { on := 36, ground := .phase }, { on := 37, ground := .textOnly Go.Departure.lateStoresUnsure }, { on := 38, ground := .textOnly Go.Departure.lateStores }, { on := 39, ground := .textOnly Go.Departure.lateStoresUnsure }, { on := 40, ground := .phase }, { on := 41, ground := .phase }], guard := Option.none }) rfl (fun K hK => ?_)
          go_simp
          refine hK.out _ _ (fun h => absurd (h.symm.trans (by kernel_rfl : _ = true)) (by decide)) ?_
          clear hK K
          try simp only [Act.put, List.setIfInBounds_toArray, List.set_cons_zero, List.set_cons_succ]
          refine wpAnyG_pure (i := 44) (oi := { dst := Option.some 62, op := .nilCheck (.tmp 35), type := 0, pos := "property.go:249", after := #[{ on := 15, ground := .data }, { on := 0, ground := .phase }, { on := 1, ground := .phase }, { on := 2, ground := .phase }, { on := 3, ground := .phase }, { on := 4, ground := .phase }, { on := 5, ground := .phase }, { on := 6, ground := .phase }, { on := 7, ground := .phase }, { on := 8, ground := .phase }, { on := 9, ground := .phase }, { on := 10, ground := .phase }, { on := 11, ground := .phase }, { on := 12, ground := .phase }, { on := 13, ground := .phase }, { on := 14, ground := .phase }, { on := 15, ground := .phase }, { on := 16, ground := .phase }, { on := 17, ground := .phase }, { on := 18, ground := .phase }, { on := 19, ground := .phase }, { on := 20, ground := .phase }, { on := 21, ground := .phase }, { on := 22, ground := .phase }, { on := 23, ground := .phase }, { on := 24, ground := .phase }, { on := 25, ground := .phase }, { on := 26, ground := .phase }, { on := 27, ground := .phase }, { on := 28, ground := .phase }, { on := 29, ground := .phase }, { on := 30, ground := .phase }, { on := 31, ground := .phase }, { on := 32, ground := .phase }, { on := 33, ground := .phase }, { on := 34, ground := .phase }, { on := 35, ground := .phase }, { on := 36, ground := .phase }, { on := 37, ground := .phase }, { on := 38, ground := .phase }, { on := 39, ground := .phase }, { on := 40, ground := .phase }, { on := 41, ground := .phase }, { on := 42, ground := .phase }, { on := 43, ground := .phase }], guard := Option.none }) (v := ?_) rfl (by kernel_rfl) (by kernel_rfl) (by kernel_rfl) (fun _ _ _ h => h) (by kernel_rfl) (Or.inl ⟨by rfl, ?_⟩) (fun h => absurd (h.symm.trans (by kernel_rfl : _ = true)) (by decide)) ?_
          rotate_left
          · (intro w hSw; (try dsimp only at hSw); go_simp; try with_reducible rfl)
          try simp only [Act.put, List.setIfInBounds_toArray, List.set_cons_zero, List.set_cons_succ]
          refine wpAnyG_pure (i := 45) (oi := { dst := Option.some 63, op := .fieldAddr 117 (.tmp 62) 9, type := 0, pos := "property.go:249", after := #[{ on := 44, ground := .data }, { on := 0, ground := .phase }, { on := 1, ground := .phase }, { on := 2, ground := .phase }, { on := 3, ground := .phase }, { on := 4, ground := .phase }, { on := 5, ground := .phase }, { on := 6, ground := .phase }, { on := 7, ground := .phase }, { on := 8, ground := .phase }, { on := 9, ground := .phase }, { on := 10, ground := .phase }, { on := 11, ground := .phase }, { on := 12, ground := .phase }, { on := 13, ground := .phase }, { on := 14, ground := .phase }, { on := 15, ground := .phase }, { on := 16, ground := .phase }, { on := 17, ground := .phase }, { on := 18, ground := .phase }, { on := 19, ground := .phase }, { on := 20, ground := .phase }, { on := 21, ground := .phase }, { on := 22, ground := .phase }, { on := 23, ground := .phase }, { on := 24, ground := .phase }, { on := 25, ground := .phase }, { on := 26, ground := .phase }, { on := 27, ground := .phase }, { on := 28, ground := .phase }, { on := 29, ground := .phase }, { on := 30, ground := .phase }, { on := 31, ground := .phase }, { on := 32, ground := .phase }, { on := 33, ground := .phase }, { on := 34, ground := .phase }, { on := 35, ground := .phase }, { on := 36, ground := .phase }, { on := 37, ground := .phase }, { on := 38, ground := .phase }, { on := 39, ground := .phase }, { on := 40, ground := .phase }, { on := 41, ground := .phase }, { on := 42, ground := .phase }, { on := 43, ground := .phase }], guard := Option.none }) (v := ?_) rfl (by kernel_rfl) (by kernel_rfl) (by kernel_rfl) (fun _ _ _ h => h) (by kernel_rfl) (Or.inl ⟨by rfl, ?_⟩) (fun h => absurd (h.symm.trans (by kernel_rfl : _ = true)) (by decide)) ?_
          rotate_left
          · (intro w hSw; (try dsimp only at hSw); go_simp; try with_reducible rfl)
          try simp only [Act.put, List.setIfInBounds_toArray, List.set_cons_zero, List.set_cons_succ]
          refine wpAnyG_one (i := 46) (by kernel_rfl) (o := { dst := Option.none, op := .store 112 (.tmp 63) (.tmp 59), type := 0, pos := "property.go:249", after := #[{ on := 45, ground := .data }, { on := 39, ground := .data }, { on := 43, ground := .chain }, { on := 0, ground := .phase }, { on := 1, ground := .phase }, { on := 2, ground := .phase }, { on := 3, ground := .phase }, { on := 4, ground := .phase }, { on := 5, ground := .phase }, { on := 6, ground := .phase }, { on := 7, ground := .phase }, { on := 8, ground := .phase }, { on := 9, ground := .phase }, { on := 10, ground := .phase }, { on := 11, ground := .phase }, { on := 12, ground := .phase }, { on := 13, ground := .phase }, { on := 14, ground := .phase }, { on := 15, ground := .phase }, { on := 16, ground := .phase }, { on := 17, ground := .phase }, { on := 18, ground := .phase }, { on := 19, ground := .phase }, { on := 20, ground := .phase }, { on := 21, ground := .phase }, { on := 22, ground := .phase }, { on := 23, ground := .phase }, { on := 24, ground := .phase }, { on := 25, ground := .phase }, { on := 26, ground := .phase }, { on := 27, ground := .phase }, { on := 28, ground := .phase }, { on := 29, ground := .phase }, { on := 30, ground := .phase }, { on := 31, ground := .phase }, { on := 32, ground := .phase }, { on := 33, ground := .phase }, { on := 34, ground := .phase }, { on := 35, ground := .phase }, { on := 36, ground := .phase }, { on := 37, ground := .phase }, { on := 38, ground := .phase }, { on := 39, ground := .phase }, { on := 40, ground := .phase }, { on := 41, ground := .phase }, { on := 42, ground := .phase }, { on := 43, ground := .phase }], guard := Option.none }) rfl (fun K hK => ?_)
          go_simp
          refine hK.out _ _ (fun h => absurd (h.symm.trans (by kernel_rfl : _ = true)) (by decide)) ?_
          clear hK K
          try simp only [Act.put, List.setIfInBounds_toArray, List.set_cons_zero, List.set_cons_succ]
          refine wpAnyG_done (by kernel_rfl) ?_ _
          refine NoPanic.normal ?_
          have HU := Lib.hid (unattr_fin (w := w) HROW.out (show World.nodeAt X b r by unfold World.nodeAt; rw [HBX.out.block b (World.nodeAt.lt HO.out.2)]; exact HO.out.2) HBX.out (World.nodeAt.lt HO.out.2) hgb HV.out (i := i) (J := J) (by have := HKV.out.2.2.2.2; omega) (by have := HKV.out.2.2.2.2.1; have := HKV.out.2.2.2.2.2; omega) (by rw [HKV.out.1]; exact hq) (k2 := k2) (v2 := v2) (Prod.ext HKV.out.2.2.1 HKV.out.2.2.2.1) (.string ⟨#[]⟩))
          go_wp2
          go_end0
          exact ⟨_, _, rfl, HU⟩
    · obtain rfl : i = l.length := by omega
      go_wp2
      go_end0
      refine ⟨r.attr, l, rfl, Lib.hid ⟨.inl ⟨fun x hx => ?_, rfl⟩, ?_, ?_, rfl, fun k hk _ _ => HB.out.block k hk, HB.out.size, fun B' h1 h2 => HB.out.mono (Nat.le_of_lt (Nat.lt_of_le_of_lt h2 (World.nodeAt.lt HO.out.2)))⟩⟩
      · obtain ⟨j, hj, rfl⟩ := List.getElem_of_mem hx
        have := HNO.out j hj
        simpa [List.getD, hj] using this
      · have h1 := HO.out.2
        unfold World.nodeAt at *
        rw [HB.out.block b (World.nodeAt.lt HO.out.2)]
        exact h1
      · exact ownsRow_kept HO.out.1 (fun k hk => HB.out.block k (World.ownsRow.lt HO.out.1 k hk).2)

end Go.Proofs.YtkdomegcacgpnaaGreat

