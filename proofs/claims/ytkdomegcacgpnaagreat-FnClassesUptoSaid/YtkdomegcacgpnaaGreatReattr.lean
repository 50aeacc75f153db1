/- What a change of one node's attributes leaves. -/
import Derived.Test.YtkdomegcacgpnaaGreatGetPtr
import Derived.Test.YtkdomegcacgpnaaGreatRemoveAttrAll
namespace Go.Proofs.YtkdomegcacgpnaaGreat
open Go.RowKit
set_option linter.unusedVariables false
set_option linter.unusedSimpArgs false

/-- A node's attributes turned: it, its row, and new blocks. -/
structure Reattr (B g : Nat) (r : NRec) (w w' : World) (v1 : Value) (A : KVs) : Prop where
  node : World.nodeAt w' g { r with attr := v1 }
  own : w'.ownsRow B 119 3 v1 A.length (attrCells A)
  keep : ∀ k, k < w.heap.size → k ≠ g → r.attr.ownBlock ≠ some k → w'.heap[k]? = w.heap[k]?
  size : w.heap.size ≤ w'.heap.size
  bel : ∀ B', B' ≤ B → B' ≤ g → Below B' w w'
  at_ : ∀ b, v1.ownBlock = some b → r.attr.ownBlock = some b ∨ w.heap.size ≤ b

theorem Reattr.refl {B g : Nat} {r : NRec} {w : World} {l : KVs} (hn : World.nodeAt w g r) (ho : w.ownsRow B 119 3 r.attr l.length (attrCells l)) : Reattr B g r w w r.attr l :=
  ⟨hn, ho, fun _ _ _ _ => rfl, Nat.le_refl _, fun _ _ _ => Below.refl _ _, fun b h => .inl h⟩

theorem Reattr.below {B g : Nat} {r : NRec} {w w1 w2 : World} {v1 : Value} {A : KVs} (h : Reattr B g r w w1 v1 A) (hb : Below w1.heap.size w1 w2) : Reattr B g r w w2 v1 A :=
  ⟨nodeAt_below h.node hb, ownsRow_kept h.own (fun k hk => hb.block k (World.ownsRow.lt h.own k hk).2), fun k hk h1 h2 => (hb.block k (Nat.lt_of_lt_of_le hk h.size)).trans (h.keep k hk h1 h2), Nat.le_trans h.size hb.size,
    fun B' h1 h2 => (h.bel B' h1 h2).trans (hb.mono (by have := h.node.lt; omega)), h.at_⟩

theorem Reattr.trans {B g : Nat} {r : NRec} {w w1 w2 : World} {v1 v2 : Value} {A A2 : KVs} (h : Reattr B g r w w1 v1 A) (h2 : Reattr B g { r with attr := v1 } w1 w2 v2 A2) : Reattr B g r w w2 v2 A2 := by
  refine ⟨h2.node, h2.own, fun k hk h3 h4 => ?_, Nat.le_trans h.size h2.size, fun B' h3 h4 => (h.bel B' h3 h4).trans (h2.bel B' h3 h4), fun b hb => ?_⟩
  · rw [h2.keep k (Nat.lt_of_lt_of_le hk h.size) h3 (fun e => ?_)]
    · exact h.keep k hk h3 h4
    · rcases h.at_ k e with h5 | h5
      · exact h4 h5
      · omega
  · rcases h2.at_ b hb with h5 | h5
    · exact h.at_ b h5
    · exact .inr (Nat.le_trans h.size h5)

/-- In front of it something else was laid. -/
theorem Reattr.ahead {B g : Nat} {r : NRec} {w w1 w2 : World} {v1 : Value} {A : KVs} (hb : Below w.heap.size w w1) (hg : g < w.heap.size) (hB : B ≤ w.heap.size) (h : Reattr B g r w1 w2 v1 A) : Reattr B g r w w2 v1 A :=
  ⟨h.node, h.own, fun k hk h1 h2 => (h.keep k (Nat.lt_of_lt_of_le hk hb.size) h1 h2).trans (hb.block k hk), Nat.le_trans hb.size h.size, fun B' h1 h2 => (hb.mono (by omega)).trans (h.bel B' h1 h2), fun b h1 => (h.at_ b h1).imp id (fun h2 => Nat.le_trans hb.size h2)⟩

theorem Unattr.re {B g : Nat} {r : NRec} {l : KVs} {w w' : World} {v1 : Value} {A : KVs} (h : Unattr B g r l w w' v1 A) : Reattr B g r w w' v1 A :=
  ⟨h.node, h.own, fun k hk h1 h2 => h.keep k hk h1 (fun _ => h2), h.size, h.bel, fun b hb => .inl (by rw [← h.same]; exact hb)⟩

/-- A grown row laid into the node. -/
theorem reattr_app {B g g2 n cap2 : Nat} {r : NRec} {w w2 : World} {l A : KVs} (hn : World.nodeAt w g r) (ho : w.ownsRow B 119 3 r.attr l.length (attrCells l)) (hgrow : w.grownBy w2 r.attr.ownBlock)
    (hA : A.length = n) (hown : w2.ownsRow B 119 3 (.slice (some ⟨g2, 0, none⟩) n cap2) n (attrCells A)) (hat : r.attr.ownBlock = some g2 ∨ g2 = w.heap.size) :
    Reattr B g r w (w2.setCell ⟨g, 9, none⟩ (.slice (some ⟨g2, 0, none⟩) n cap2)) (.slice (some ⟨g2, 0, none⟩) n cap2) A := by
  have hne : r.attr.ownBlock ≠ some g := node_ne_own hn ho
  have hlt := hn.lt
  have hn2 : World.nodeAt w2 g r := by
    unfold World.nodeAt at hn ⊢
    rw [hgrow.block g hlt (fun e => hne e.symm)]
    exact hn
  have hs := setCell_attr hn2 (.slice (some ⟨g2, 0, none⟩) n cap2)
  have hne2 : Value.ownBlock (.slice (some ⟨g2, 0, none⟩) n cap2) ≠ some g := node_ne_own hn2 hown
  subst hA
  refine ⟨by rw [hs]; exact hn2.put _, ?_, fun k hk h1 h2 => ?_, ?_, fun B' h1 h2 => ?_, fun b hb => ?_⟩
  · exact ownsRow_kept hown (fun q hq => by rw [heap_setCell_other _ _ _ _ (fun e => hne2 (by rw [hq]; exact congrArg some e))])
  · rw [heap_setCell_other _ _ _ _ h1]
    exact hgrow.block k hk (fun e => h2 e.symm)
  · simpa using hgrow.size
  · refine Below.setCell ?_ (by simpa using h2) _
    exact (Below.refl _ w).grown hgrow (by omega) (fun q hq => Nat.le_trans h1 (World.ownsRow.lt ho q hq).1)
  · have e : g2 = b := by
      simp only [Value.ownBlock] at hb
      first | exact Option.some.inj hb | (rw [if_pos rfl] at hb; exact Option.some.inj hb) | simpa using hb
    subst e
    rcases hat with h | h
    · exact .inl h
    · exact .inr (by omega)

end Go.Proofs.YtkdomegcacgpnaaGreat
