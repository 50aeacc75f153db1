/- Attributes as data, of the call's own. An object of cells in memory: what a load finds there, what a store makes of it. The nodes of the reference's forest in memory. Nothing appended, or some values out of another slice. A row of the call's own that is stored into. -/
import Derived.Test.YtkdomegcacgpnaaGreatAttrPure
import Derived.Test.YtkdomegcacgpnaaGreatBaseAll
import Derived.Test.YtkdomegcacgpnaaGreatSegAll
import Derived.Deep.AppendLies
import Derived.Test.YtkdomegcacgpnaaGreatWoodAll
import Derived.Test.YtkdomegcacgpnaaGreatPtrAll
import Derived.Laws.AppendOwn
namespace Go.Proofs.YtkdomegcacgpnaaGreat
open Go.RowKit
set_option linter.unusedVariables false
set_option linter.unusedSimpArgs false

theorem Tryz.infoKV : (Tryz.prog.info? 61).map (fun i => (i.zero, i.size, i.bytes)) = some (some (.agg #[.string ByteArray.empty, .string ByteArray.empty]), 2, 32) := by kernel_rfl

/-- The cells of attributes as data. -/
def kvCells (l : KVs) : List Value := l.flatMap fun x => [.string x.1, .string x.2]
theorem kvCells_snoc (l : KVs) (x : ByteArray × ByteArray) : kvCells (l ++ [x]) = kvCells l ++ [.string x.1, .string x.2] := by simp [kvCells]

/-- Attributes as data, of the call's own. -/
def OwnKV (w : World) (B : Nat) (v : Value) (l : KVs) : Prop := w.ownsRow B 61 2 v l.length (kvCells l)

theorem kvCells_get : ∀ (l : KVs) (i : Nat), i < l.length → (kvCells l)[i * 2]? = some (.string (l.getD i default).1) ∧ (kvCells l)[i * 2 + 1]? = some (.string (l.getD i default).2) := by
  intro l
  induction l with
  | nil => intro i hi; simp at hi
  | cons x l ih =>
    intro i hi
    have hc : kvCells (x :: l) = [.string x.1, .string x.2] ++ kvCells l := by simp [kvCells]
    rw [hc]
    cases i with
    | zero => simp
    | succ i =>
      have hi' : i < l.length := by simpa using hi
      obtain ⟨h1, h2⟩ := ih i hi'
      rw [show (i + 1) * 2 = 2 + i * 2 by omega]
      refine ⟨?_, ?_⟩
      · rw [List.getElem?_append_right (by simp)]; simpa using h1
      · rw [List.getElem?_append_right (by simp; omega)]; simpa [show 2 + i * 2 + 1 - 2 = i * 2 + 1 by omega] using h2

theorem OwnKV.at_ {w : World} {B : Nat} {v : Value} {l : KVs} (h : OwnKV w B v l) (hs : ∀ x ∈ l, x.1.size ≤ maxLen ∧ x.2.size ≤ maxLen) : ∃ a cap, v = .slice a l.length cap ∧ AttrsAt w a l.length l := by
  rcases h.2 with ⟨rfl, h0⟩ | ⟨g, cap, cur, rfl, hb, hg, hn, hm, hcs, ht⟩
  · exact ⟨none, 0, by rw [h0], rfl, by rw [h0]; exact Nat.zero_le _, hs, fun h => by omega⟩
  · refine ⟨_, cap, rfl, rfl, by omega, hs, fun hl => ⟨g, 0, rfl, fun i hi => ?_⟩⟩
    have hadd : ∀ j, (⟨g, 0, none⟩ : Addr).add j = ⟨g, 0 + j, none⟩ := fun j => by unfold Addr.add; split <;> simp_all
    obtain ⟨h1, h2⟩ := kvCells_get l i hi
    have c1 := World.ownsRow.cells (h := h) (g := g) rfl _ _ h1
    have c2 := World.ownsRow.cells (h := h) (g := g) rfl _ _ h2
    rw [hadd] at c1 c2
    exact ⟨c1, by rw [Nat.add_assoc]; exact c2⟩

theorem OwnKV.below {w w' : World} {B : Nat} {v : Value} {l : KVs} (h : OwnKV w B v l) (hb : Below w.heap.size w w') : OwnKV w' B v l := ownsRow_kept h (fun k hk => hb.block k (World.ownsRow.lt h k hk).2)

theorem ownsRow_slice {w : World} {B : Nat} {e : TypeId} {size : Nat} {v : Value} {n : Nat} {xs : List Value} (h : w.ownsRow B e size v n xs) : ∃ a c, v = .slice a n c := by
  rcases h.2 with ⟨rfl, rfl⟩ | ⟨g, cap, cur, rfl, _⟩
  · exact ⟨_, _, rfl⟩
  · exact ⟨_, _, rfl⟩

end Go.Proofs.YtkdomegcacgpnaaGreat

namespace Go.Proofs.YtkdomegcacgpnaaGreat
open Go.RowKit
set_option linter.unusedVariables false
set_option linter.unusedSimpArgs false

/-- At block b lie these cells. -/
def World.objAt (w : World) (b : Nat) (cs : Array Value) (t : TypeId) : Prop := w.heap[b]? = some (.cells cs t (0, 0))

theorem World.objAt.lt {w : World} {b : Nat} {cs : Array Value} {t : TypeId} (h : World.objAt w b cs t) : b < w.heap.size := by
  unfold World.objAt at h
  obtain ⟨h, _⟩ := Array.getElem?_eq_some_iff.1 h
  exact h

theorem World.objAt.cell {w : World} {b : Nat} {cs : Array Value} {t : TypeId} (h : World.objAt w b cs t) {i : Nat} {v : Value} (hv : cs[i]? = some v) : w.cell? ⟨b, i, none⟩ = some v := by
  unfold World.objAt at h
  simp [World.cell?, h, hv]

theorem World.objAt.free {w : World} {b : Nat} {cs : Array Value} {t : TypeId} (h : World.objAt w b cs t) (o : Nat) : w.frozen? ⟨b, o, none⟩ = false := by
  unfold World.objAt at h
  simp [World.frozen?, h]

theorem setCell_heap {w : World} {b : Nat} {cs : Array Value} {t : TypeId} (h : World.objAt w b cs t) (i : Nat) (v : Value) :
    w.setCell ⟨b, i, none⟩ v = { w with heap := w.heap.setIfInBounds b (.cells (cs.setIfInBounds i v) t (0, 0)) } := by
  have hlt := h.lt
  unfold World.objAt at h
  unfold World.setCell
  congr 1
  apply Array.ext_getElem?
  intro k
  simp only [Array.getElem?_modify]
  by_cases hk : b = k
  · subst hk
    rw [if_pos rfl, h, Array.getElem?_setIfInBounds_self_of_lt hlt]
    simp
  · rw [Array.getElem?_setIfInBounds_ne hk, if_neg hk]

theorem World.objAt.set {w : World} {b : Nat} {cs : Array Value} {t : TypeId} (h : World.objAt w b cs t) (i : Nat) (v : Value) : World.objAt (w.setCell ⟨b, i, none⟩ v) b (cs.setIfInBounds i v) t := by
  have hlt := h.lt
  rw [setCell_heap h]
  unfold World.objAt
  exact Array.getElem?_setIfInBounds_self_of_lt hlt

theorem World.objAt.setBelow {w : World} {b : Nat} {cs : Array Value} {t : TypeId} (h : World.objAt w b cs t) (i : Nat) (v : Value) {B : Nat} {a : World} (ha : Below B a w) (hb : B ≤ b) : Below B a (w.setCell ⟨b, i, none⟩ v) := by
  rw [setCell_heap h]
  exact ha.trans ⟨rfl, rfl, rfl, by simp, fun k hk => Array.getElem?_setIfInBounds_ne (by omega)⟩

theorem objAt_alloc_new (w : World) (cs : Array Value) (t : TypeId) : World.objAt (w.alloc (.cells cs t)) w.heap.size cs t := by
  unfold World.objAt World.alloc
  simp

theorem World.objAt.below {w w' : World} {b B : Nat} {cs : Array Value} {t : TypeId} (h : World.objAt w b cs t) (hb : Below B w w') (hlt : b < B) : World.objAt w' b cs t := by
  unfold World.objAt at h ⊢
  rw [hb.block b hlt]
  exact h

end Go.Proofs.YtkdomegcacgpnaaGreat

namespace Go.Proofs.YtkdomegcacgpnaaGreat
open Go.RowKit
set_option linter.unusedVariables false
set_option linter.unusedSimpArgs false

/-- The cells of a node: where it was, what it is, what stands above it, what beneath it. -/
def knotCells (z : Int) (n : NodeD) (av : Value) (u : Option Nat) (kv : Value) : Array Value :=
  #[.int .i64 z, .int .i64 n.kind, .string n.tag, .string n.text, av, .int .i64 n.size, lk u, kv]

structure Knots (B : Nat) (w : World) (n : Nat) (kn : Nat → Nat) (kv av : Nat → Value) (pl : Nat → Int) (lab : Nat → NodeD) (F : Wd) : Prop where
  node : ∀ i, i < n → World.objAt w (kn i) (knotCells (pl i) (lab i) (av i) ((F.up i).map kn) (kv i)) 97
  row : ∀ i, i < n → w.ownsRow B 69 1 (kv i) (F.kids i).length ((F.kids i).map fun y => ptrV (kn y))
  attrs : ∀ i, i < n → OwnKV w B (av i) (lab i).attrs
  base : ∀ i, i < n → B ≤ kn i
  inj : ∀ i j, i < n → j < n → kn i = kn j → i = j

theorem objAt_ne_own {w : World} {b : Nat} {cs : Array Value} {t : TypeId} (h : World.objAt w b cs t) {B : Nat} {e : TypeId} {size : Nat} {v : Value} {n : Nat} {xs : List Value} (ho : w.ownsRow B e size v n xs) (hne : t ≠ e) : v.ownBlock ≠ some b := by
  intro hb
  obtain ⟨cur, hc⟩ := ownsRow_type ho hb
  unfold World.objAt at h
  rw [hc] at h
  simp only [Option.some.injEq, Obj.cells.injEq] at h
  exact hne h.2.1.symm

theorem Knots.below {B : Nat} {w w' : World} {n : Nat} {kn : Nat → Nat} {kv av : Nat → Value} {pl : Nat → Int} {lab : Nat → NodeD} {F : Wd} (h : Knots B w n kn kv av pl lab F) (hb : Below w.heap.size w w') : Knots B w' n kn kv av pl lab F :=
  ⟨fun i hi => (h.node i hi).below hb (h.node i hi).lt, fun i hi => ownsRow_kept (h.row i hi) (fun k hk => hb.block k (World.ownsRow.lt (h.row i hi) k hk).2), fun i hi => (h.attrs i hi).below hb, h.base, h.inj⟩

theorem Knots.congr {B : Nat} {w : World} {n : Nat} {kn : Nat → Nat} {kv av : Nat → Value} {pl : Nat → Int} {lab : Nat → NodeD} {F F' : Wd} (h : Knots B w n kn kv av pl lab F) (hk : ∀ i, i < n → F'.kids i = F.kids i) (hu : ∀ i, i < n → F'.up i = F.up i) : Knots B w n kn kv av pl lab F' :=
  ⟨fun i hi => by rw [hu i hi]; exact h.node i hi, fun i hi => by rw [hk i hi]; exact h.row i hi, h.attrs, h.base, h.inj⟩

/-- Only nodes of the forest are turned, and what is new. -/
structure OnlyK (n : Nat) (kn : Nat → Nat) (w w' : World) : Prop where
  size : w.heap.size ≤ w'.heap.size
  block : ∀ k, k < w.heap.size → (∀ i, i < n → k ≠ kn i) → w'.heap[k]? = w.heap[k]?
  below : ∀ B, B ≤ w.heap.size → (∀ i, i < n → B ≤ kn i) → Below B w w'

theorem OnlyK.refl (n : Nat) (kn : Nat → Nat) (w : World) : OnlyK n kn w w := ⟨Nat.le_refl _, fun _ _ _ => rfl, fun _ _ _ => Below.refl _ _⟩
theorem OnlyK.trans {n : Nat} {kn : Nat → Nat} {a b c : World} (h : OnlyK n kn a b) (h' : OnlyK n kn b c) : OnlyK n kn a c :=
  ⟨Nat.le_trans h.size h'.size, fun k hk hn => (h'.block k (Nat.lt_of_lt_of_le hk h.size) hn).trans (h.block k hk hn), fun B hB hn => (h.below B hB hn).trans (h'.below B (Nat.le_trans hB h.size) hn)⟩
theorem OnlyK.of_below {n : Nat} {kn : Nat → Nat} {w w' : World} (h : Below w.heap.size w w') : OnlyK n kn w w' := ⟨h.size, fun k hk _ => h.block k hk, fun B hB _ => h.mono hB⟩
theorem OnlyK.set {n : Nat} {kn : Nat → Nat} {a w : World} (h : OnlyK n kn a w) {i : Nat} (hi : i < n) {cs : Array Value} {t : TypeId} (ho : World.objAt w (kn i) cs t) (o : Nat) (v : Value) : OnlyK n kn a (w.setCell ⟨kn i, o, none⟩ v) := by
  have hs : (w.setCell ⟨kn i, o, none⟩ v).heap.size = w.heap.size := by rw [setCell_heap ho]; simp
  refine ⟨by rw [hs]; exact h.size, fun k hk hn => ?_, fun B hB hn => ho.setBelow o v (h.below B hB hn) (hn i hi)⟩
  rw [setCell_heap ho]
  have : (w.heap.setIfInBounds (kn i) (.cells (cs.setIfInBounds o v) t (0, 0)))[k]? = w.heap[k]? := Array.getElem?_setIfInBounds_ne (Ne.symm (hn i hi))
  rw [this]
  exact h.block k hk hn

theorem setCell_block {w : World} {b : Nat} {cs : Array Value} {t : TypeId} (h : World.objAt w b cs t) (o : Nat) (v : Value) {k : Nat} (hk : k ≠ b) : (w.setCell ⟨b, o, none⟩ v).heap[k]? = w.heap[k]? := by
  rw [setCell_heap h]
  exact Array.getElem?_setIfInBounds_ne (Ne.symm hk)

/-- A value at a place of a row of values by numbers. -/
def updV (f : Nat → Value) (x : Nat) (v : Value) : Nat → Value := fun i => if i = x then v else f i

theorem Knots.set7 {B : Nat} {w : World} {n : Nat} {kn : Nat → Nat} {kv av : Nat → Value} {pl : Nat → Int} {lab : Nat → NodeD} {F : Wd} (h : Knots B w n kn kv av pl lab F) {p : Nat} (hp : p < n) {v : Value} {l : List Nat} (hv : w.ownsRow B 69 1 v l.length (l.map fun y => ptrV (kn y))) :
    Knots B (w.setCell ⟨kn p, 7, none⟩ v) n kn (updV kv p v) av pl lab ⟨fun q => if q = p then l else F.kids q, F.up⟩ := by
  have hop := h.node p hp
  have hkeep : ∀ {e : TypeId} {size : Nat} {u : Value} {m : Nat} {xs : List Value}, 97 ≠ e → w.ownsRow B e size u m xs → (w.setCell ⟨kn p, 7, none⟩ v).ownsRow B e size u m xs := fun hne ho => ownsRow_kept ho (fun k hk => setCell_block hop 7 v (fun e => objAt_ne_own hop ho hne (by rw [hk, e])))
  refine ⟨fun i hi => ?_, fun i hi => ?_, fun i hi => hkeep (by decide) (h.attrs i hi), h.base, h.inj⟩
  · unfold updV
    by_cases e : i = p
    · subst e
      rw [if_pos rfl]
      exact hop.set 7 v
    · rw [if_neg e]
      have := h.node i hi
      unfold World.objAt at this ⊢
      rw [setCell_block hop 7 v (fun he => e (h.inj i p hi hp he))]
      exact this
  · unfold updV
    by_cases e : i = p
    · subst e
      simp only [if_true]
      exact hkeep (by decide) hv
    · simp only [if_neg e]
      exact hkeep (by decide) (h.row i hi)

theorem Knots.set6 {B : Nat} {w : World} {n : Nat} {kn : Nat → Nat} {kv av : Nat → Value} {pl : Nat → Int} {lab : Nat → NodeD} {F : Wd} (h : Knots B w n kn kv av pl lab F) {x : Nat} (hx : x < n) (u : Option Nat) :
    Knots B (w.setCell ⟨kn x, 6, none⟩ (lk (u.map kn))) n kn kv av pl lab ⟨F.kids, fun q => if q = x then u else F.up q⟩ := by
  have hop := h.node x hx
  have hkeep : ∀ {e : TypeId} {size : Nat} {v : Value} {m : Nat} {xs : List Value}, 97 ≠ e → w.ownsRow B e size v m xs → (w.setCell ⟨kn x, 6, none⟩ (lk (u.map kn))).ownsRow B e size v m xs := fun hne ho => ownsRow_kept ho (fun k hk => setCell_block hop 6 _ (fun e => objAt_ne_own hop ho hne (by rw [hk, e])))
  refine ⟨fun i hi => ?_, fun i hi => hkeep (by decide) (h.row i hi), fun i hi => hkeep (by decide) (h.attrs i hi), h.base, h.inj⟩
  by_cases e : i = x
  · subst e
    simp only [if_true]
    exact hop.set 6 _
  · simp only [if_neg e]
    have := h.node i hi
    unfold World.objAt at this ⊢
    rw [setCell_block hop 6 _ (fun he => e (h.inj i x hi hx he))]
    exact this

/-- The cells of a node, as a walk wants them. -/
theorem Knots.cells {B : Nat} {w : World} {n : Nat} {kn : Nat → Nat} {kv av : Nat → Value} {pl : Nat → Int} {lab : Nat → NodeD} {F : Wd} (h : Knots B w n kn kv av pl lab F) {i : Nat} (hi : i < n) :
    w.cell? ⟨kn i, 0, none⟩ = some (.int .i64 (pl i)) ∧ w.cell? ⟨kn i, 6, none⟩ = some (lk ((F.up i).map kn)) ∧ w.cell? ⟨kn i, 7, none⟩ = some (kv i) :=
  ⟨(h.node i hi).cell rfl, (h.node i hi).cell rfl, (h.node i hi).cell rfl⟩

theorem Knots.alive {B : Nat} {w : World} {n : Nat} {kn : Nat → Nat} {kv av : Nat → Value} {pl : Nat → Int} {lab : Nat → NodeD} {F : Wd} (h : Knots B w n kn kv av pl lab F) {i : Nat} (hi : i < n) : Alive w (kn i) := ⟨_, _, h.node i hi⟩

theorem Knots.ne {B : Nat} {w : World} {n : Nat} {kn : Nat → Nat} {kv av : Nat → Value} {pl : Nat → Int} {lab : Nat → NodeD} {F : Wd} (h : Knots B w n kn kv av pl lab F) {i j : Nat} (hi : i < n) (hj : j < n) (e : i ≠ j) : kn i ≠ kn j := fun he => e (h.inj i j hi hj he)

/-- The kids' slice, opened. -/
theorem own_open {w : World} {B : Nat} {e : TypeId} {v : Value} {l : List Nat} {kn : Nat → Nat} (h : w.ownsRow B e 1 v l.length (l.map fun y => ptrV (kn y))) :
    ∃ a cap g, v = .slice a l.length cap ∧ l.length ≤ cap ∧ cap ≤ 9223372036854775807 ∧ (0 < l.length → a = some ⟨g, 0, none⟩) ∧ (∀ i, i < l.length → w.cell? ⟨g, i, none⟩ = some (.pointer (some ⟨kn (l.getD i 0), 0, none⟩))) ∧ (a = none ∨ a = some ⟨g, 0, none⟩) ∧ (a = none → cap = 0) := by
  rcases h.2 with ⟨rfl, h0⟩ | ⟨g, cap, cur, rfl, hb, hg, hn, hm, hcs, ht⟩
  · exact ⟨none, 0, 0, by rw [h0], by omega, by omega, fun h => by omega, fun i hi => by omega, .inl rfl, fun _ => rfl⟩
  · refine ⟨_, cap, g, rfl, hn, hm, fun _ => rfl, fun i hi => ?_, .inr rfl, fun h => by cases h⟩
    have := h.cells (g := g) rfl i (ptrV (kn (l.getD i 0))) (by simp [List.getD, hi])
    rwa [show (⟨g, 0, none⟩ : Addr).add i = ⟨g, i, none⟩ by unfold Addr.add; split <;> simp_all] at this

theorem nodup_len : ∀ (n : Nat) (l : List Nat), l.Nodup → (∀ x ∈ l, x < n) → l.length ≤ n
  | 0, l, _, h => by
    cases l with
    | nil => exact Nat.le_refl _
    | cons a r => have := h a (List.mem_cons_self ..); omega
  | n + 1, l, hd, h => by
    by_cases hm : n ∈ l
    · obtain ⟨a, b, rfl⟩ := List.append_of_mem hm
      obtain ⟨h1, h2, h3, _⟩ := nd_parts hd
      have := nodup_len n (a ++ b) h3 (fun x hx => by
        have h4 : x < n + 1 := h x (by
          rw [List.mem_append, List.mem_cons]
          rw [List.mem_append] at hx
          rcases hx with hx | hx
          · exact .inl hx
          · exact .inr (.inr hx))
        have h5 : x ≠ n := fun e => by
          subst e
          rw [List.mem_append] at hx
          rcases hx with hx | hx
          · exact h1 hx
          · exact h2 hx
        omega)
      rw [List.length_append] at this
      rw [List.length_append, List.length_cons]
      omega
    · have := nodup_len n l hd (fun x hx => by
        have h4 := h x hx
        have h5 : x ≠ n := fun e => hm (e ▸ hx)
        omega)
      omega

theorem WOk.few {n : Nat} {F : Wd} (h : WOk n F) (x : Nat) : (F.kids x).length ≤ n := nodup_len n _ (h.nd x) (fun y hy => (h.lt x y hy).2)

theorem Tryz.knot_info : ∃ j, Tryz.prog.info? 97 = some j ∧ j.size ≠ 0 := by
  have h : (Tryz.prog.info? 97).map (fun i => decide (i.size ≠ 0)) = some true := by kernel_rfl
  obtain ⟨i, hi, hz⟩ := Option.map_eq_some_iff.1 h
  exact ⟨i, hi, of_decide_eq_true hz⟩

theorem eqlK_same (w : World) (b : Nat) : (binOp .eql 69 (.pointer (some ⟨b, 0, none⟩)) (.pointer (some ⟨b, 0, none⟩))).run Tryz.prog w = .ok (.bool true) w := by
  obtain ⟨j, hj, _⟩ := Tryz.knot_info
  exact run_eql_ptr_same w _ Tryz.underlying69 hj

theorem eqlK_other {w : World} {a b : Nat} (ha : Alive w a) (hb : Alive w b) (hne : a ≠ b) : (binOp .eql 69 (.pointer (some ⟨a, 0, none⟩)) (.pointer (some ⟨b, 0, none⟩))).run Tryz.prog w = .ok (.bool false) w := by
  obtain ⟨j, hj, hz⟩ := Tryz.knot_info
  obtain ⟨ca, ta, ha⟩ := ha
  obtain ⟨cb, tb, hb⟩ := hb
  exact run_eql_ptr_other w Tryz.underlying69 hj hz (by simp [hne]) ha hb

theorem Tryz.infoKnotP : (Tryz.prog.info? 69).map (fun i => (i.zero, i.size, i.bytes)) = some (some (.pointer none), 1, 8) := by kernel_rfl

def KIntPost (z : Int) (w : World) (e : Ending) (w' : World) : Prop := e = .returned (.int .i64 z) ∧ w = w'

set_option maxRecDepth 100000 in
set_option maxHeartbeats 1000000 in
theorem place_none {B : Nat} {w : World} {n : Nat} {kn : Nat → Nat} {kv av : Nat → Value} {pl : Nat → Int} {lab : Nat → NodeD} {F : Wd} (h : Knots B w n kn kv av pl lab F) {x : Nat} (hx : x < n) (hu : F.up x = none) :
    Calls Tryz.prog 107 #[.pointer (some ⟨kn x, 0, none⟩)] w (KIntPost (-1) w) := by
  have c6 := (h.cells hx).2.1
  rw [hu] at c6
  simp only [Option.map_none, lk_none] at c6
  clear h
  go_enter Tryz.func107, Tryz.ntmps107
  go_wp2
  go_ret
  exact ⟨rfl, rfl⟩

set_option maxRecDepth 100000 in
set_option maxHeartbeats 1000000 in
theorem place_some {B : Nat} {w : World} {n : Nat} {kn : Nat → Nat} {kv av : Nat → Value} {pl : Nat → Int} {lab : Nat → NodeD} {F : Wd} (h : Knots B w n kn kv av pl lab F) (hF : WOk n F) {x p : Nat} {a b : List Nat} (hl : F.kids p = a ++ x :: b) :
    Calls Tryz.prog 107 #[.pointer (some ⟨kn x, 0, none⟩)] w (KIntPost (a.length : Int) w) := by
  have hu : F.up x = some p := (hF.iff p x).1 (by rw [hl]; simp)
  obtain ⟨hx, hp⟩ := hF.lt p x (by rw [hl]; simp) |>.symm
  have c6 := (h.cells hx).2.1
  have c7 := (h.cells hp).2.2
  rw [hu] at c6
  simp only [Option.map_some, lk_some] at c6
  have hrow := h.row p hp
  obtain ⟨s, cap, g, hv, hcap, hcm, hs, hc, _, _⟩ := own_open hrow
  have hlen : (F.kids p).length = a.length + 1 + b.length := by rw [hl]; simp; omega
  have hs := hs (by omega)
  have hnd := hF.nd p
  rw [hl] at hnd
  obtain ⟨n1, _⟩ := nd_parts hnd
  have hcx : w.cell? ⟨g, a.length, none⟩ = some (.pointer (some ⟨kn x, 0, none⟩)) := by
    have := hc a.length (by omega)
    rw [hl] at this
    simpa [List.getD] using this
  have hca : ∀ k, k < a.length → ∃ y, y < n ∧ y ≠ x ∧ w.cell? ⟨g, k, none⟩ = some (.pointer (some ⟨kn y, 0, none⟩)) := fun k hk => by
    have h1 := hc k (by omega)
    have hm : (F.kids p).getD k 0 ∈ a := by
      rw [hl, List.getD_eq_getElem?_getD, List.getElem?_append_left hk, List.getElem?_eq_getElem hk]
      exact List.getElem_mem _
    exact ⟨_, (hF.lt p _ (getD_mem' (by omega))).2, fun e => n1 (e ▸ hm), h1⟩
  have hkc := hF.few p
  rw [hv] at c7
  rw [hs] at c7
  obtain ⟨L, hL⟩ : ∃ L, (F.kids p).length = L := ⟨_, rfl⟩
  rw [hL] at c7 hlen hcap
  have hLm : L ≤ 9223372036854775807 := by omega
  have HCA := Lib.hid hca
  have HAL := Lib.hid (fun (i : Nat) (hi : i < n) => h.alive hi)
  have HNE := Lib.hid (fun (i j : Nat) (hi : i < n) (hj : j < n) (e : i ≠ j) => h.ne hi hj e)
  have HX := Lib.hid hx
  have heq := eqlK_same w (kn x)
  clear h hF hu hl hrow hv hcap hs hc hnd n1 hca hL hkc hx hp
  go_enter Tryz.func107, Tryz.ntmps107
  go_wp2
  go_loop [3] (fun i => ∃ k : Nat, k ≤ a.length ∧ i = .int .i64 (k : Int)) (fun i => a.length - (intOf i).toNat)
  case atStart => exact ⟨0, by omega, by go_num⟩
  case round =>
    obtain ⟨k, hk, rfl⟩ := hrel
    have hkI : (k : Int) < (L : Int) := by omega
    by_cases hlt : k < a.length
    · obtain ⟨y, hy, hyx, ck⟩ := HCA.out k hlt
      have heq2 := eqlK_other (HAL.out y hy) (HAL.out x HX.out) (HNE.out y x hy HX.out hyx)
      clear hyx hy
      go_wp2
      go_round
      case rel => exact ⟨k + 1, by omega, by go_num⟩
      case measure => simp [intOf]; omega
    · obtain rfl : k = a.length := by omega
      go_wp2
      go_ret
      exact ⟨rfl, rfl⟩

end Go.Proofs.YtkdomegcacgpnaaGreat

namespace Go.Proofs.YtkdomegcacgpnaaGreat
open Go.RowKit
set_option linter.unusedVariables false
set_option linter.unusedSimpArgs false

section
variable {P : Program} {w : World}

/-- Nothing appended: the slice as it was. -/
theorem run_append_none2 (t ty e : TypeId) (i : TypeInfo) (ht : P.underlying t = some (.slice e)) (hi : P.info? e = some i) (b b' : Option Addr) (n c c' : Nat) (hc : n ≤ c) :
    (Builtin.append_ #[t, t] ty #[.slice b n c, .slice b' 0 c']).run P w = .ok (.slice b n c) w := by
  cases b <;> cases b' <;> simp [Builtin.append_, run_underlying ht, sizeOf, typeInfo, hi, Builtin.lenOf, hc, Builtin.firstCells, storeCells, Result.andThen, loadCells, loadCellsFrom]

theorem wp_append_none2 {o : Oper} {a : Act} {K : Act → World → Prop} {Q : Exit → Act → World → Prop} (s x : Operand) (t : TypeId)
    (ho : o.op = .call { callee := .builtin .append, args := #[s, x], argTypes := #[t, t] })
    (e : TypeId) (i : TypeInfo) (ht : P.underlying t = some (.slice e)) (hi : P.info? e = some i) (b b' : Option Addr) (n c c' : Nat) (hc : n ≤ c)
    (hs : a.eval s = .slice b n c) (hx : a.eval x = .slice b' 0 c') (h : K (a.put o.dst (.slice b n c)) w) : o.wp P a w K Q := by
  have hr := run_append_none2 (P := P) (w := w) t o.type e i ht hi b b' n c c' hc
  unfold Oper.wp execOp
  simp only [ho, resolve, invoke, builtin, Sem.run_bind, Sem.run_pure, Result.andThen_ok, List.map_toArray, List.map_cons, List.map_nil, hs, hx, hr]
  exact h

theorem wpList_append_none2 {ops : Array Oper} {rest : List Oper} {o : Oper} {a : Act} {Q : Exit → Act → World → Prop} (hgd : o.guard = none) (s x : Operand) (t : TypeId)
    (ho : o.op = .call { callee := .builtin .append, args := #[s, x], argTypes := #[t, t] })
    (e : TypeId) (i : TypeInfo) (ht : P.underlying t = some (.slice e)) (hi : P.info? e = some i) (b b' : Option Addr) (n c c' : Nat) (hc : n ≤ c)
    (hs : a.eval s = .slice b n c) (hx : a.eval x = .slice b' 0 c') (h : wpList P ops Q rest (a.put o.dst (.slice b n c)) w) : wpList P ops Q (o :: rest) a w :=
  wpList_plain hgd fun _ hK => wp_append_none2 s x t ho e i ht hi b b' n c c' hc hs hx (hK _ _ h)
/-- Some values out of a slice that can be read, or none, behind an own row. -/
theorem wp_append_reads {o : Oper} {a : Act} {K : Act → World → Prop} {Q : Exit → Act → World → Prop} (s x : Operand) (t : TypeId)
    (ho : o.op = .call { callee := .builtin .append, args := #[s, x], argTypes := #[t, t] })
    (base : Nat) (e : TypeId) (i : TypeInfo) (z : Value) (bytes : Nat) (ht : P.underlying t = some (.slice e)) (hi : P.info? e = some i) (hz : i.zero = some z)
    (hsize : i.size = 1) (hby : i.bytes = bytes) (hzs : z.cells.size = 1)
    (b : Option Addr) (n c : Nat) (xs : List Value) (hs : a.eval s = .slice b n c) (hown : w.ownsRow base e 1 (.slice b n c) n xs)
    (b' : Option Addr) (m c' : Nat) (news : List Value) (hx : a.eval x = .slice b' m c') (hrow : Row w b' m news) (h1 : ∀ u ∈ news, u.oneCell' = true)
    (h63 : n + m ≤ maxLen) (hbytes : (n + m) * bytes ≤ 140737488355328) (hbase : base ≤ w.heap.size)
    (h : ∀ b2 c2 w', w'.ownsRow base e 1 (.slice b2 (n + m) c2) (n + m) (xs ++ news) → w.grownBy w' (Value.slice b n c).ownBlock → K (a.put o.dst (.slice b2 (n + m) c2)) w') : o.wp P a w K Q := by
  obtain ⟨r1, r2, r3⟩ := hrow
  by_cases hm : m = 0
  · subst hm
    have hnil : news = [] := List.eq_nil_of_length_eq_zero r1
    subst hnil
    have hnc : n ≤ c := by
      rcases hown.2 with ⟨hv, _⟩ | ⟨g, cap, cur, hv, _, _, hn, _⟩
      · simp at hv; omega
      · simp at hv; omega
    refine wp_append_none2 s x t ho e i ht hi b b' n c c' hnc hs hx ?_
    exact h b c w (by simpa using hown) ⟨rfl, rfl, rfl, Nat.le_refl _, fun _ _ _ => rfl⟩
  · obtain ⟨bb, off, rfl, hc⟩ := r3 (by omega)
    refine wp_append_lies w s x t ho base e i z 1 bytes ht hi hz hsize hby hzs (by omega) (.slice b n c) n xs hs hown ⟨bb, off, none⟩ m c' news hx (by omega) (fun j u hj => ?_) h1 (by omega) h63 hbytes hbase _ rfl (fun g cap w' h2 h3 _ _ => h (some ⟨g, 0, none⟩) cap w' h2 h3)
    have hjl : j < news.length := (List.getElem?_eq_some_iff.1 hj).1
    have hadd : (⟨bb, off, none⟩ : Addr).add j = ⟨bb, off + j, none⟩ := by unfold Addr.add; split <;> simp_all
    rw [hadd, hc j (by omega), List.getD_eq_getElem?_getD, hj]
    rfl

theorem wpList_append_reads {ops : Array Oper} {rest : List Oper} {o : Oper} {a : Act} {Q : Exit → Act → World → Prop} (hgd : o.guard = none) (s x : Operand) (t : TypeId)
    (ho : o.op = .call { callee := .builtin .append, args := #[s, x], argTypes := #[t, t] })
    (base : Nat) (e : TypeId) (i : TypeInfo) (z : Value) (bytes : Nat) (ht : P.underlying t = some (.slice e)) (hi : P.info? e = some i) (hz : i.zero = some z)
    (hsize : i.size = 1) (hby : i.bytes = bytes) (hzs : z.cells.size = 1)
    (b : Option Addr) (n c : Nat) (xs : List Value) (hs : a.eval s = .slice b n c) (hown : w.ownsRow base e 1 (.slice b n c) n xs)
    (b' : Option Addr) (m c' : Nat) (news : List Value) (hx : a.eval x = .slice b' m c') (hrow : Row w b' m news) (h1 : ∀ u ∈ news, u.oneCell' = true)
    (h63 : n + m ≤ maxLen) (hbytes : (n + m) * bytes ≤ 140737488355328) (hbase : base ≤ w.heap.size)
    (h : ∀ b2 c2 w', w'.ownsRow base e 1 (.slice b2 (n + m) c2) (n + m) (xs ++ news) → w.grownBy w' (Value.slice b n c).ownBlock → wpList P ops Q rest (a.put o.dst (.slice b2 (n + m) c2)) w') : wpList P ops Q (o :: rest) a w :=
  wpList_plain hgd fun _ hK => wp_append_reads s x t ho base e i z bytes ht hi hz hsize hby hzs b n c xs hs hown b' m c' news hx hrow h1 h63 hbytes hbase fun b2 c2 w' h2 h3 => hK _ _ (h b2 c2 w' h2 h3)

/-- The same, where the operation has a guard. -/
theorem wpList_append_reads_g {ops : Array Oper} {rest : List Oper} {o : Oper} {a : Act} {Q : Exit → Act → World → Prop} (hgd : Region.wanted o (yielded ops a.tmps) = true) (s x : Operand) (t : TypeId)
    (ho : o.op = .call { callee := .builtin .append, args := #[s, x], argTypes := #[t, t] })
    (base : Nat) (e : TypeId) (i : TypeInfo) (z : Value) (bytes : Nat) (ht : P.underlying t = some (.slice e)) (hi : P.info? e = some i) (hz : i.zero = some z)
    (hsize : i.size = 1) (hby : i.bytes = bytes) (hzs : z.cells.size = 1)
    (b : Option Addr) (n c : Nat) (xs : List Value) (hs : a.eval s = .slice b n c) (hown : w.ownsRow base e 1 (.slice b n c) n xs)
    (b' : Option Addr) (m c' : Nat) (news : List Value) (hx : a.eval x = .slice b' m c') (hrow : Row w b' m news) (h1 : ∀ u ∈ news, u.oneCell' = true)
    (h63 : n + m ≤ maxLen) (hbytes : (n + m) * bytes ≤ 140737488355328) (hbase : base ≤ w.heap.size)
    (h : ∀ b2 c2 w', w'.ownsRow base e 1 (.slice b2 (n + m) c2) (n + m) (xs ++ news) → w.grownBy w' (Value.slice b n c).ownBlock → wpList P ops Q rest (a.put o.dst (.slice b2 (n + m) c2)) w') : wpList P ops Q (o :: rest) a w :=
  wpList_step fun _ hK => by
    rw [if_pos hgd]
    exact wp_append_reads s x t ho base e i z bytes ht hi hz hsize hby hzs b n c xs hs hown b' m c' news hx hrow h1 h63 hbytes hbase fun b2 c2 w' h2 h3 => hK _ _ (h b2 c2 w' h2 h3)
/-- At a step of a region that draws its order. -/
theorem step_append_reads {ops : Array Oper} {o : Oper} {a : Act} {K : Act → World → Prop} {Q : Exit → Act → World → Prop} {E : Prop} (hgd : o.guard = none) (s x : Operand) (t : TypeId)
    (ho : o.op = .call { callee := .builtin .append, args := #[s, x], argTypes := #[t, t] })
    (base : Nat) (e : TypeId) (i : TypeInfo) (z : Value) (bytes : Nat) (ht : P.underlying t = some (.slice e)) (hi : P.info? e = some i) (hz : i.zero = some z)
    (hsize : i.size = 1) (hby : i.bytes = bytes) (hzs : z.cells.size = 1)
    (b : Option Addr) (n c : Nat) (xs : List Value) (hs : a.eval s = .slice b n c) (hown : w.ownsRow base e 1 (.slice b n c) n xs)
    (b' : Option Addr) (m c' : Nat) (news : List Value) (hx : a.eval x = .slice b' m c') (hrow : Row w b' m news) (h1 : ∀ u ∈ news, u.oneCell' = true)
    (h63 : n + m ≤ maxLen) (hbytes : (n + m) * bytes ≤ 140737488355328) (hbase : base ≤ w.heap.size)
    (h : ∀ b2 c2 w', w'.ownsRow base e 1 (.slice b2 (n + m) c2) (n + m) (xs ++ news) → w.grownBy w' (Value.slice b n c).ownBlock → K (a.put o.dst (.slice b2 (n + m) c2)) w') :
    if Region.wanted o (yielded ops a.tmps) = true then Oper.wp P o a w K Q else E := by
  have hw : Region.wanted o (yielded ops a.tmps) = true := by simp [Region.wanted, hgd]
  rw [if_pos hw]
  exact wp_append_reads s x t ho base e i z bytes ht hi hz hsize hby hzs b n c xs hs hown b' m c' news hx hrow h1 h63 hbytes hbase h
end

/-- An empty row that has just been laid. -/
theorem owns_empty (w : World) (B : Nat) (hB : B ≤ w.heap.size) (e : TypeId) : (w.alloc (.cells #[] e)).ownsRow B e 1 (.slice (some ⟨w.heap.size, 0, none⟩) 0 0) 0 [] :=
  ⟨rfl, .inr ⟨w.heap.size, 0, #[], rfl, hB, heap_alloc_new w _, Nat.le_refl _, Nat.zero_le _, rfl, rfl⟩⟩

theorem reads_row {w : World} {a : Option Addr} {n c : Nat} {vs : List Value} (h : ReadsAs w (.slice a n c) vs) : Row w a n vs := by
  obtain ⟨a', c', he, _, _, hr⟩ := h
  simp at he
  obtain ⟨rfl, rfl, rfl⟩ := he
  exact hr

theorem intV_one {l : List Nat} : ∀ u ∈ l.map intV, u.oneCell' = true := by
  intro u hu
  obtain ⟨n, _, rfl⟩ := List.mem_map.1 hu
  rfl

end Go.Proofs.YtkdomegcacgpnaaGreat

namespace Go.Proofs.YtkdomegcacgpnaaGreat
open Go.RowKit
set_option linter.unusedVariables false
set_option linter.unusedSimpArgs false

/-- A row that is stored into. -/
theorem ownsRow_set {w : World} {B : Nat} {e : TypeId} {size g n cap : Nat} {xs : List Value} (h : w.ownsRow B e size (.slice (some ⟨g, 0, none⟩) n cap) n xs) {i : Nat} (hi : i < n * size) (u : Value) :
    (w.setCell ⟨g, i, none⟩ u).ownsRow B e size (.slice (some ⟨g, 0, none⟩) n cap) n (xs.set i u) := by
  rcases h.2 with ⟨h1, _⟩ | ⟨g', cap', cur, hv, hb, hg, hn, hm, hcs, ht⟩
  · simp at h1
  · simp at hv
    obtain ⟨rfl, rfl⟩ := hv
    refine ⟨by rw [List.length_set]; exact h.1, .inr ⟨g, cap, cur.setIfInBounds i u, rfl, hb, heap_setCell_same w g i cur e u hg, hn, hm, by simpa using hcs, ?_⟩⟩
    rw [← ht, Array.toList_setIfInBounds]
    apply List.ext_getElem?
    intro j
    simp only [List.getElem?_take, List.getElem?_set, List.length_take]
    have hl : n * size ≤ cur.toList.length := by
      have := h.1
      rw [← ht, List.length_take] at this
      omega
    by_cases hj : j < n * size
    · simp only [hj, if_true]
      by_cases hji : i = j
      · subst hji
        simp only [if_true]
        rw [if_pos (by omega), if_pos (by omega)]
      · simp only [hji, if_false]
    · simp only [hj, if_false]
      by_cases hji : i = j
      · omega
      · simp only [hji, if_false]

end Go.Proofs.YtkdomegcacgpnaaGreat

