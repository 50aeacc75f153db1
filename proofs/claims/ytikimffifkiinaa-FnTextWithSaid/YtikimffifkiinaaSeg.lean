/- A part of a tree in memory: its nodes with their links, their attributes; two parts put together by AppendChild. -/
import Derived.Test.YtikimffifkiinaaLinks
import Derived.Test.YtikimffifkiinaaAloneAny
namespace Go.Proofs.Ytikimffifkiinaa
open Go.RowKit
set_option linter.unusedVariables false
set_option linter.unusedSimpArgs false

/-- A node of a part, with its links. -/
def nodeR (E : Nat → Nat) (lo : Nat) (nb : Nat → Nat) (n : NodeD) (v : Value) (i : Nat) : NRec :=
  { par := (up E lo i).map nb, fst := (fstK E i).map nb, lst := (lstK E lo i).map nb, prv := (prvK E lo i).map nb, nxt := (nxtK E lo i).map nb, ty := tyOf n.kind, atom := 0, data := dataOf n, ns := ByteArray.empty, attr := v }

structure Seg (w : World) (E : Nat → Nat) (lo hi : Nat) (nb : Nat → Nat) (v : Nat → Value) (ts : List NodeD) (B : Nat) : Prop where
  node : ∀ i, lo ≤ i → i < hi → World.nodeAt w (nb i) (nodeR E lo nb (ts.getD i default) (v i) i)
  own : ∀ i, lo ≤ i → i < hi → w.ownsRow B 81 3 (v i) (ts.getD i default).attrs.length (attrCells (ts.getD i default).attrs)
  base : ∀ i, lo ≤ i → i < hi → B ≤ nb i
  inj : ∀ i j, lo ≤ i → i < hi → lo ≤ j → j < hi → nb i = nb j → i = j
  sep : ∀ i j, lo ≤ i → i < hi → lo ≤ j → j < hi → i ≠ j → ∀ b, (v i).ownBlock = some b → (v j).ownBlock ≠ some b

theorem map_congr {nb nb' : Nat → Nat} {x : Option Nat} (h : ∀ p, x = some p → nb p = nb' p) : x.map nb = x.map nb' := by
  cases x with
  | none => rfl
  | some p => simp [h p rfl]

theorem nodeR_congr {E : Nat → Nat} {lo hi : Nat} {nb nb' : Nat → Nat} {n : NodeD} {v : Value} {i : Nat} (hp : Part E lo hi) (h1 : lo ≤ i) (h2 : i < hi) (h : ∀ j, lo ≤ j → j < hi → nb j = nb' j) :
    nodeR E lo nb n v i = nodeR E lo nb' n v i := by
  obtain ⟨a, b, c, d, e⟩ := hp.links h1 h2
  unfold nodeR
  rw [map_congr (fun p hp => h p (a p hp).1 (a p hp).2), map_congr (fun p hp => h p (b p hp).1 (b p hp).2), map_congr (fun p hp => h p (c p hp).1 (c p hp).2),
    map_congr (fun p hp => h p (d p hp).1 (d p hp).2), map_congr (fun p hp => h p (e p hp).1 (e p hp).2)]

theorem Seg.congr {w : World} {E : Nat → Nat} {lo hi : Nat} {nb nb' : Nat → Nat} {v v' : Nat → Value} {ts : List NodeD} {B : Nat} (h : Seg w E lo hi nb v ts B) (hp : Part E lo hi)
    (hn : ∀ j, lo ≤ j → j < hi → nb j = nb' j) (hv : ∀ j, lo ≤ j → j < hi → v j = v' j) : Seg w E lo hi nb' v' ts B := by
  refine ⟨fun i a b => ?_, fun i a b => ?_, fun i a b => ?_, fun i j a b c d e => ?_, fun i j a b c d e x hx => ?_⟩
  · rw [← hn i a b, ← hv i a b, ← nodeR_congr hp a b hn]; exact h.node i a b
  · rw [← hv i a b]; exact h.own i a b
  · rw [← hn i a b]; exact h.base i a b
  · rw [← hn i a b, ← hn j c d] at e; exact h.inj i j a b c d e
  · rw [← hv i a b] at hx; rw [← hv j c d]; exact h.sep i j a b c d e x hx

theorem ownsRow_base {w : World} {B B' : Nat} {e : TypeId} {size : Nat} {v : Value} {n : Nat} {xs : List Value} (h : w.ownsRow B e size v n xs) (hB : B' ≤ B) : w.ownsRow B' e size v n xs := by
  refine ⟨h.1, ?_⟩
  rcases h.2 with h2 | ⟨g, cap, cur, a, b, r⟩
  · exact .inl h2
  · exact .inr ⟨g, cap, cur, a, Nat.le_trans hB b, r⟩

/-- What is owned stays owned where its block is as it was. -/
theorem ownsRow_kept {w w' : World} {B : Nat} {e : TypeId} {size : Nat} {v : Value} {n : Nat} {xs : List Value} (h : w.ownsRow B e size v n xs) (hk : ∀ b, v.ownBlock = some b → w'.heap[b]? = w.heap[b]?) : w'.ownsRow B e size v n xs := by
  refine ⟨h.1, ?_⟩
  rcases h.2 with h2 | ⟨g, cap, cur, rfl, b, hg, r⟩
  · exact .inl h2
  · exact .inr ⟨g, cap, cur, rfl, b, by rw [hk g rfl]; exact hg, r⟩

/-- The block of what is owned bears its element's type. -/
theorem ownsRow_type {w : World} {B : Nat} {e : TypeId} {size : Nat} {v : Value} {n : Nat} {xs : List Value} (h : w.ownsRow B e size v n xs) {b : Nat} (hb : v.ownBlock = some b) : ∃ cur, w.heap[b]? = some (.cells cur e (0, 0)) := by
  rcases h.2 with ⟨rfl, _⟩ | ⟨g, cap, cur, rfl, _, hg, _⟩
  · simp [Value.ownBlock] at hb
  · simp [Value.ownBlock] at hb; subst hb; exact ⟨cur, hg⟩

/-- A part stays where the blocks of nodes and attributes are as they were. -/
theorem Seg.kept {w w' : World} {E : Nat → Nat} {lo hi : Nat} {nb : Nat → Nat} {v : Nat → Value} {ts : List NodeD} {B : Nat} (h : Seg w E lo hi nb v ts B)
    (hk : ∀ b, b < w.heap.size → (∀ cur t fr, w.heap[b]? = some (.cells cur t fr) → t = 59 ∨ t = 81) → w'.heap[b]? = w.heap[b]?) : Seg w' E lo hi nb v ts B := by
  refine ⟨fun i a b => ?_, fun i a b => ?_, h.base, h.inj, h.sep⟩
  · have := h.node i a b
    unfold World.nodeAt at *
    rw [hk (nb i) (World.nodeAt.lt (h.node i a b)) (fun cur t fr hc => by rw [this] at hc; simp [NRec.obj] at hc; exact .inl hc.2.1.symm)]
    exact this
  · refine ownsRow_kept (h.own i a b) (fun x hx => ?_)
    obtain ⟨cur, hc⟩ := ownsRow_type (h.own i a b) hx
    exact hk x (World.ownsRow.lt (h.own i a b) x hx).2 (fun cur' t fr hc' => by rw [hc] at hc'; simp at hc'; exact .inr hc'.2.1.symm)

/-- .. behind a call that wrote to one row of another type alone. -/
theorem Seg.grown {w w' : World} {E : Nat → Nat} {lo hi : Nat} {nb : Nat → Nat} {v : Nat → Value} {ts : List NodeD} {B bl : Nat} (h : Seg w E lo hi nb v ts B) (hg : w.grownBy w' (some bl)) {arr : Array Value} {t : TypeId} {fr : Nat × Nat}
    (hb : w.heap[bl]? = some (.cells arr t fr)) (h1 : t ≠ 59) (h2 : t ≠ 81) : Seg w' E lo hi nb v ts B := by
  refine h.kept (fun b hlt ht => hg.block b hlt (fun e => ?_))
  simp at e; subst e
  rcases ht arr t fr hb with h3 | h3
  · exact h1 h3
  · exact h2 h3

theorem node_ne_own {w : World} {b : Nat} {r : NRec} (h : World.nodeAt w b r) {B : Nat} {size : Nat} {v : Value} {n : Nat} {xs : List Value} (ho : w.ownsRow B 81 size v n xs) : v.ownBlock ≠ some b := by
  intro hb
  obtain ⟨cur, hc⟩ := ownsRow_type ho hb
  unfold World.nodeAt at h
  rw [hc] at h
  simp [NRec.obj] at h

/-- What is owned stays owned where a node is written. -/
theorem ownsRow_putN {w : World} {b : Nat} {r r' : NRec} (h : World.nodeAt w b r) {B : Nat} {size : Nat} {v : Value} {n : Nat} {xs : List Value} (ho : w.ownsRow B 81 size v n xs) :
    (World.putN w b r').ownsRow B 81 size v n xs :=
  ownsRow_kept ho (fun x hx => World.heap_putN_other r' (fun e => node_ne_own h ho (by rw [hx, e])))

/-- The ends of the places, while a node's kids are not all there. -/
def Ez (z : Nat → Nat) (lo hi i : Nat) : Nat := if i = lo then hi else i + z i

theorem Ez_full (z : Nat → Nat) (lo : Nat) : Ez z lo (lo + z lo) = fun i => i + z i := by
  funext i
  unfold Ez
  split
  · rename_i h; rw [h]
  · rfl

/-- A part out of sizes. -/
theorem part_of {z : Nat → Nat} {n lo hi : Nat} (hz : Nest z n) (h1 : lo < hi) (h2 : hi ≤ n) (h3 : ∀ i, lo < i → i < hi → i + z i ≤ hi) : Part (Ez z lo hi) lo hi := by
  refine ⟨h1, by simp [Ez], fun i a b => ?_, fun i j a b c d => ?_⟩
  · unfold Ez
    split
    · omega
    · have := hz.pos i (by omega); omega
  · unfold Ez at *
    by_cases e : i = lo
    · subst e
      simp only [if_true] at d ⊢
      split
      · exact Nat.le_refl _
      · exact h3 j (by omega) d
    · simp only [e, if_false] at d ⊢
      have : j ≠ lo := by omega
      simp only [this, if_false]
      exact hz.lam i j (by omega) c d

theorem part_full {z : Nat → Nat} {n lo : Nat} (hz : Nest z n) (h : lo < n) : Part (fun i => i + z i) lo (lo + z lo) := by
  have := part_of (lo := lo) (hi := lo + z lo) hz (by have := hz.pos lo h; omega) (hz.fit lo h) (fun i a b => hz.lam lo i h (by omega) b)
  rwa [Ez_full] at this

theorem join_of {z : Nat → Nat} {n lo k : Nat} (hz : Nest z n) (h1 : lo < k) (h2 : k < n) (h3 : ∀ i, lo < i → i < k → i + z i ≤ k) : Join (Ez z lo k) (fun i => i + z i) (Ez z lo (k + z k)) lo k (k + z k) :=
  ⟨part_of hz h1 (by omega) h3, part_full hz h2, by simp [Ez], fun i a b => by simp [Ez, show i ≠ lo by omega], fun i a b => by simp [Ez, show i ≠ lo by omega]⟩

end Go.Proofs.Ytikimffifkiinaa
