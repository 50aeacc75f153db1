/- A document whose nodes' classes turn. -/
import Derived.Test.YtkdomegcacgpnaaGreatUClsText
import Derived.Test.YtkdomegcacgpnaaGreatDomAll
namespace Go.Proofs.YtkdomegcacgpnaaGreat
open Go.RowKit
set_option linter.unusedVariables false
set_option linter.unusedSimpArgs false

/-- The words of a class. -/
def Wc (l : KVs) : Wds := wl (ClsVal l).data.toList

/-- Toggled. -/
def togW (W N : Wds) : Wds := lessW W N ++ N.filter fun x => decide (x ∉ W)

theorem lessW_nil (W : Wds) : lessW W [] = W := List.filter_eq_self.2 (fun x _ => by simp)
theorem togW_nil (W : Wds) : togW W [] = W := by simp [togW, lessW_nil]
theorem moreW_nil (W : Wds) : moreW W [] = W := by simp [moreW]

theorem tog_mem {W N : Wds} {w : List UInt8} (hw : w ∉ N) : w ∈ togW W N ↔ w ∈ W := by
  unfold togW lessW
  simp [hw]

theorem tog_nodup {W N : Wds} (h : W.Nodup) (hn : N.Nodup) : (togW W N).Nodup := by
  unfold togW
  rw [List.nodup_append]
  refine ⟨less_nodup N h, List.Nodup.sublist List.filter_sublist hn, fun a ha b hb => ?_⟩
  rintro rfl
  unfold lessW at ha
  simp at ha hb
  exact hb.2 ha.1

theorem tog_snoc {W N : Wds} {w : List UInt8} (hw : w ∉ N) : (w ∈ W → (togW W N).filter (fun x => x != w) = togW W (N ++ [w])) ∧ (w ∉ W → togW W N ++ [w] = togW W (N ++ [w])) := by
  constructor
  · intro h
    unfold togW
    rw [List.filter_append, less_snoc, List.filter_append (p := fun x => decide (x ∉ W))]
    have h1 : ([w].filter fun x => decide (x ∉ W)) = [] := by simp [h]
    have h2 : (N.filter fun x => decide (x ∉ W)).filter (fun x => x != w) = N.filter fun x => decide (x ∉ W) := List.filter_eq_self.2 fun x hx => by
      simp
      rintro rfl
      exact hw (List.mem_filter.1 hx).1
    rw [h1, h2, List.append_nil]
  · intro h
    unfold togW
    have h1 : lessW W (N ++ [w]) = lessW W N := by
      rw [← less_snoc]
      refine List.filter_eq_self.2 fun x hx => ?_
      simp
      rintro rfl
      unfold lessW at hx
      exact h (List.mem_filter.1 hx).1
    have h2 : ([w].filter fun x => decide (x ∉ W)) = [w] := by simp [h]
    rw [h1, List.filter_append, h2, List.append_assoc]

/-- Labels of which some have turned their class. -/
def LabC (op : Wds → Wds → Wds) (N : Wds) (m s : Nat) (lab lab' : Nat → NodeD) (done : List Nat) : Prop :=
  ∀ i, (i ∉ done → lab' i = lab i) ∧ (i ∈ done → ∃ A, lab' i = { lab i with attrs := A } ∧ GoodC A (op (Wc (lab i).attrs) N) m s ∧ NearC (lab i).attrs A)

/-- Behind a change of attributes: only nodes and their rows turn. -/
structure OnlyC (B n : Nat) (nb : Nat → Nat) (v : Nat → Value) (w w' : World) : Prop where
  size : w.heap.size ≤ w'.heap.size
  block : ∀ k, k < w.heap.size → (∀ i, i < n → k ≠ nb i) → (∀ i, i < n → (v i).ownBlock ≠ some k) → w'.heap[k]? = w.heap[k]?
  below : ∀ B', B' ≤ B → (∀ i, i < n → B' ≤ nb i) → Below B' w w'

theorem OnlyC.refl (B n : Nat) (nb : Nat → Nat) (v : Nat → Value) (w : World) : OnlyC B n nb v w w := ⟨Nat.le_refl _, fun _ _ _ _ => rfl, fun _ _ _ => Below.refl _ _⟩

theorem OnlyC.ahead {B n : Nat} {nb : Nat → Nat} {v : Nat → Value} {w w1 w2 : World} (hb : Below w.heap.size w w1) (hB : ∀ B', B' ≤ B → (∀ i, i < n → B' ≤ nb i) → B' ≤ w.heap.size) (h : OnlyC B n nb v w1 w2) : OnlyC B n nb v w w2 :=
  ⟨Nat.le_trans hb.size h.size, fun k hk h1 h2 => (h.block k (Nat.lt_of_lt_of_le hk hb.size) h1 h2).trans (hb.block k hk), fun B' h1 h2 => (hb.mono (hB B' h1 h2)).trans (h.below B' h1 h2)⟩

/-- One node's attributes turned. -/
theorem DomAt.reattr {B : Nat} {w w' : World} {n : Nat} {nb : Nat → Nat} {v : Nat → Value} {lab : Nat → NodeD} {F : Wd} (h : DomAt B w n nb v lab F) {i : Nat} (hi : i < n) {v1 : Value} {A : KVs} (hu : Reattr B (nb i) (linkR F nb (lab i) (v i) i) w w' v1 A) :
    DomAt B w' n nb (fun j => if j = i then v1 else v j) (fun j => if j = i then { lab i with attrs := A } else lab j) F := by
  have hfar : ∀ j, j < n → j ≠ i → ∀ b, (v j).ownBlock = some b → v1.ownBlock ≠ some b := fun j hj hne b hb e => by
    rcases hu.at_ b e with h1 | h1
    · exact h.sep j i hj hi hne b hb h1
    · have := (World.ownsRow.lt (h.own j hj) b hb).2
      omega
  refine ⟨fun j hj => ?_, fun j hj => ?_, h.base, h.inj, fun j k hj hk hne b hb => ?_⟩
  · by_cases e : j = i
    · subst e
      simp only [if_true]
      exact hu.node
    · simp only [if_neg e]
      have h1 := h.node j hj
      unfold World.nodeAt at h1 ⊢
      rw [hu.keep (nb j) (World.nodeAt.lt (h.node j hj)) (h.ne hj hi e) (node_ne_own (h.node j hj) (h.own i hi))]
      exact h1
  · by_cases e : j = i
    · subst e
      simp only [if_true]
      exact hu.own
    · simp only [if_neg e]
      exact ownsRow_kept (h.own j hj) (fun q hq => hu.keep q (World.ownsRow.lt (h.own j hj) q hq).2 (fun e2 => node_ne_own (h.node i hi) (h.own j hj) (by rw [hq, e2])) (h.sep j i hj hi e q hq))
  · by_cases ej : j = i
    · subst ej
      simp only [if_true] at hb
      simp only [if_neg (Ne.symm hne)]
      exact fun e => hfar k hk (Ne.symm hne) b e hb
    · simp only [if_neg ej] at hb
      by_cases ek : k = i
      · subst ek
        simp only [if_true]
        exact hfar j hj ej b hb
      · simp only [if_neg ek]
        exact h.sep j k hj hk hne b hb

/-- While nodes' classes turn. -/
structure ClsMid (op : Wds → Wds → Wds) (N : Wds) (m s : Nat) (B n : Nat) (nb : Nat → Nat) (v : Nat → Value) (lab : Nat → NodeD) (F : Wd) (w wr : World) (done : List Nat) (v' : Nat → Value) (lab' : Nat → NodeD) : Prop where
  dom : DomAt B wr n nb v' lab' F
  labs : LabC op N m s lab lab' done
  only : OnlyC B n nb v w wr
  own : ∀ i, i < n → ∀ b, (v' i).ownBlock = some b → (v i).ownBlock = some b ∨ w.heap.size ≤ b

theorem ClsMid.start {op : Wds → Wds → Wds} {N : Wds} {m s B n : Nat} {nb : Nat → Nat} {v : Nat → Value} {lab : Nat → NodeD} {F : Wd} {w : World} (h : DomAt B w n nb v lab F) : ClsMid op N m s B n nb v lab F w w [] v lab :=
  ⟨h, fun i => ⟨fun _ => rfl, fun hi => by simp at hi⟩, OnlyC.refl _ _ _ _ _, fun i hi b hb => .inl hb⟩

theorem ClsMid.step {op : Wds → Wds → Wds} {N : Wds} {m s B n : Nat} {nb : Nat → Nat} {v : Nat → Value} {lab : Nat → NodeD} {F : Wd} {w wr w' : World} {done : List Nat} {v' : Nat → Value} {lab' : Nat → NodeD} (h : ClsMid op N m s B n nb v lab F w wr done v' lab') {x : Nat} (hx : x < n) (hnd : x ∉ done) {v1 : Value} {A : KVs}
    (hu : Reattr B (nb x) (linkR F nb (lab' x) (v' x) x) wr w' v1 A) (hg : GoodC A (op (Wc (lab x).attrs) N) m s) (hn : NearC (lab x).attrs A) :
    ClsMid op N m s B n nb v lab F w w' (done ++ [x]) (fun j => if j = x then v1 else v' j) (fun j => if j = x then { lab' x with attrs := A } else lab' j) := by
  have hlx := (h.labs x).1 hnd
  refine ⟨h.dom.reattr hx hu, fun i => ⟨fun hi => ?_, fun hi => ?_⟩, ⟨Nat.le_trans h.only.size hu.size, fun k hk h1 h2 => ?_, fun B' h1 h2 => (h.only.below B' h1 h2).trans (hu.bel B' h1 (h2 x hx))⟩, fun i hi b hb => ?_⟩
  · simp only [List.mem_append, List.mem_singleton, not_or] at hi
    simp only [if_neg hi.2]
    exact (h.labs i).1 hi.1
  · by_cases e : i = x
    · subst e
      exact ⟨A, by simp only [if_true, hlx], hg, hn⟩
    · simp only [if_neg e]
      simp only [List.mem_append, List.mem_singleton] at hi
      rcases hi with hi | hi
      · exact (h.labs i).2 hi
      · exact absurd hi e
  · rw [hu.keep k (Nat.lt_of_lt_of_le hk h.only.size) (h1 x hx) (fun e => ?_)]
    · exact h.only.block k hk h1 h2
    · rcases h.own x hx k e with h3 | h3
      · exact h2 x hx h3
      · omega
  · by_cases e : i = x
    · subst e
      simp only [if_true] at hb
      rcases hu.at_ b hb with h3 | h3
      · exact h.own i hi b h3
      · exact .inr (Nat.le_trans h.only.size h3)
    · simp only [if_neg e] at hb
      exact h.own i hi b hb

/-- Behind a step of classes. -/
def ManyPost (op : Wds → Wds → Wds) (N : Wds) (m s : Nat) (sp B n : Nat) (nb : Nat → Nat) (v : Nat → Value) (lab : Nat → NodeD) (F : Wd) (l : List Nat) (w : World) (e : Ending) (w' : World) : Prop :=
  e = .returned (.pointer (some ⟨sp, 0, none⟩)) ∧ ∃ v' lab', Hid (DomAt B w' n nb v' lab' F) ∧ Hid (LabC op N m s lab lab' l) ∧ Hid (OnlyC B n nb v w w') ∧ Hid (∀ i, i < n → ∀ b, (v' i).ownBlock = some b → (v i).ownBlock = some b ∨ w.heap.size ≤ b)

theorem take_name {ws : List ByteArray} {j : Nat} (h : j < ws.length) : (ws.map (·.data.toList)).take (j + 1) = (ws.map (·.data.toList)).take j ++ [(ws.getD j ByteArray.empty).data.toList] := by
  rw [List.take_add_one, List.getD_eq_getElem?_getD, List.getElem?_map, List.getElem?_eq_getElem h]
  rfl

theorem ne_of_words {r : ByteArray} {W : Wds} (h : wl r.data.toList = W) (h0 : W ≠ []) : r.toList.isEmpty = false := by
  cases hE : r.toList.isEmpty
  · rfl
  · rw [nil_of hE, wl_nil] at h
    exact absurd h.symm h0

end Go.Proofs.YtkdomegcacgpnaaGreat
