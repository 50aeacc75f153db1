/- An object of cells in memory: what a load finds there, what a store makes of it. -/
import Derived.Test.YtoleejaabiafcaaBase
namespace Go.Proofs.Ytoleejaabiafcaa
open Go.RowKit
set_option linter.unusedVariables false
set_option linter.unusedSimpArgs false

/-- At block b lie these cells. -/
def World.objAt (w : World) (b : Nat) (cs : Array Value) (t : TypeId) : Prop := w.heap[b]? = some (.cells cs t (0, 0))

theorem World.objAt.lt {w : World} {b : Nat} {cs : Array Value} {t : TypeId} (h : World.objAt w b cs t) : b < w.heap.size := by
  unfold World.objAt at h
  obtain ⟨h, _⟩ := Array.getElem?_eq_some_iff.1 h
  exact h

theorem World.objAt.cell {w : World} {b : Nat} {cs : Array Value} {t : TypeId} (h : World.objAt w b cs t) {i : Nat} {v : Value} (hv : cs[i]? = some v) : w.cell? ⟨b, i, none⟩ = some v := by
  unfold World.objAt at h
  simp [World.cell?, h, hv]

theorem World.objAt.free {w : World} {b : Nat} {cs : Array Value} {t : TypeId} (h : World.objAt w b cs t) (o : Nat) : w.frozen? ⟨b, o, none⟩ = false := by
  unfold World.objAt at h
  simp [World.frozen?, h]

theorem setCell_heap {w : World} {b : Nat} {cs : Array Value} {t : TypeId} (h : World.objAt w b cs t) (i : Nat) (v : Value) :
    w.setCell ⟨b, i, none⟩ v = { w with heap := w.heap.setIfInBounds b (.cells (cs.setIfInBounds i v) t (0, 0)) } := by
  have hlt := h.lt
  unfold World.objAt at h
  unfold World.setCell
  congr 1
  apply Array.ext_getElem?
  intro k
  simp only [Array.getElem?_modify]
  by_cases hk : b = k
  · subst hk
    rw [if_pos rfl, h, Array.getElem?_setIfInBounds_self_of_lt hlt]
    simp
  · rw [Array.getElem?_setIfInBounds_ne hk, if_neg hk]

theorem World.objAt.set {w : World} {b : Nat} {cs : Array Value} {t : TypeId} (h : World.objAt w b cs t) (i : Nat) (v : Value) : World.objAt (w.setCell ⟨b, i, none⟩ v) b (cs.setIfInBounds i v) t := by
  have hlt := h.lt
  rw [setCell_heap h]
  unfold World.objAt
  exact Array.getElem?_setIfInBounds_self_of_lt hlt

theorem World.objAt.setBelow {w : World} {b : Nat} {cs : Array Value} {t : TypeId} (h : World.objAt w b cs t) (i : Nat) (v : Value) {B : Nat} {a : World} (ha : Below B a w) (hb : B ≤ b) : Below B a (w.setCell ⟨b, i, none⟩ v) := by
  rw [setCell_heap h]
  exact ha.trans ⟨rfl, rfl, rfl, by simp, fun k hk => Array.getElem?_setIfInBounds_ne (by omega)⟩

theorem objAt_alloc_new (w : World) (cs : Array Value) (t : TypeId) : World.objAt (w.alloc (.cells cs t)) w.heap.size cs t := by
  unfold World.objAt World.alloc
  simp

theorem World.objAt.below {w w' : World} {b B : Nat} {cs : Array Value} {t : TypeId} (h : World.objAt w b cs t) (hb : Below B w w') (hlt : b < B) : World.objAt w' b cs t := by
  unfold World.objAt at h ⊢
  rw [hb.block b hlt]
  exact h

end Go.Proofs.Ytoleejaabiafcaa
