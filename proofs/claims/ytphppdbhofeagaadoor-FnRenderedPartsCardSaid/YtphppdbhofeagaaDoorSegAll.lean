/- A part of a tree in memory: its nodes with their links, their attributes; two parts put together by AppendChild. Two parts of a tree, put together. -/
import Derived.Test.YtphppdbhofeagaaDoorLinkAll
import Derived.Test.YtphppdbhofeagaaDoorAloneAll
namespace Go.Proofs.YtphppdbhofeagaaDoor
open Go.RowKit
set_option linter.unusedVariables false
set_option linter.unusedSimpArgs false

/-- A node of a part, with its links. -/
def nodeR (E : Nat → Nat) (lo : Nat) (nb : Nat → Nat) (n : NodeD) (v : Value) (i : Nat) : NRec :=
  { par := (up E lo i).map nb, fst := (fstK E i).map nb, lst := (lstK E lo i).map nb, prv := (prvK E lo i).map nb, nxt := (nxtK E lo i).map nb, ty := tyOf n.kind, atom := 0, data := dataOf n, ns := ByteArray.empty, attr := v }

structure Seg (w : World) (E : Nat → Nat) (lo hi : Nat) (nb : Nat → Nat) (v : Nat → Value) (ts : List NodeD) (B : Nat) : Prop where
  node : ∀ i, lo ≤ i → i < hi → World.nodeAt w (nb i) (nodeR E lo nb (ts.getD i default) (v i) i)
  own : ∀ i, lo ≤ i → i < hi → w.ownsRow B 109 3 (v i) (ts.getD i default).attrs.length (attrCells (ts.getD i default).attrs)
  base : ∀ i, lo ≤ i → i < hi → B ≤ nb i
  inj : ∀ i j, lo ≤ i → i < hi → lo ≤ j → j < hi → nb i = nb j → i = j
  sep : ∀ i j, lo ≤ i → i < hi → lo ≤ j → j < hi → i ≠ j → ∀ b, (v i).ownBlock = some b → (v j).ownBlock ≠ some b

theorem map_congr {nb nb' : Nat → Nat} {x : Option Nat} (h : ∀ p, x = some p → nb p = nb' p) : x.map nb = x.map nb' := by
  cases x with
  | none => rfl
  | some p => simp [h p rfl]

theorem nodeR_congr {E : Nat → Nat} {lo hi : Nat} {nb nb' : Nat → Nat} {n : NodeD} {v : Value} {i : Nat} (hp : Part E lo hi) (h1 : lo ≤ i) (h2 : i < hi) (h : ∀ j, lo ≤ j → j < hi → nb j = nb' j) :
    nodeR E lo nb n v i = nodeR E lo nb' n v i := by
  obtain ⟨a, b, c, d, e⟩ := hp.links h1 h2
  unfold nodeR
  rw [map_congr (fun p hp => h p (a p hp).1 (a p hp).2), map_congr (fun p hp => h p (b p hp).1 (b p hp).2), map_congr (fun p hp => h p (c p hp).1 (c p hp).2),
    map_congr (fun p hp => h p (d p hp).1 (d p hp).2), map_congr (fun p hp => h p (e p hp).1 (e p hp).2)]

theorem Seg.congr {w : World} {E : Nat → Nat} {lo hi : Nat} {nb nb' : Nat → Nat} {v v' : Nat → Value} {ts : List NodeD} {B : Nat} (h : Seg w E lo hi nb v ts B) (hp : Part E lo hi)
    (hn : ∀ j, lo ≤ j → j < hi → nb j = nb' j) (hv : ∀ j, lo ≤ j → j < hi → v j = v' j) : Seg w E lo hi nb' v' ts B := by
  refine ⟨fun i a b => ?_, fun i a b => ?_, fun i a b => ?_, fun i j a b c d e => ?_, fun i j a b c d e x hx => ?_⟩
  · rw [← hn i a b, ← hv i a b, ← nodeR_congr hp a b hn]; exact h.node i a b
  · rw [← hv i a b]; exact h.own i a b
  · rw [← hn i a b]; exact h.base i a b
  · rw [← hn i a b, ← hn j c d] at e; exact h.inj i j a b c d e
  · rw [← hv i a b] at hx; rw [← hv j c d]; exact h.sep i j a b c d e x hx

theorem ownsRow_base {w : World} {B B' : Nat} {e : TypeId} {size : Nat} {v : Value} {n : Nat} {xs : List Value} (h : w.ownsRow B e size v n xs) (hB : B' ≤ B) : w.ownsRow B' e size v n xs := by
  refine ⟨h.1, ?_⟩
  rcases h.2 with h2 | ⟨g, cap, cur, a, b, r⟩
  · exact .inl h2
  · exact .inr ⟨g, cap, cur, a, Nat.le_trans hB b, r⟩

/-- What is owned stays owned where its block is as it was. -/
theorem ownsRow_kept {w w' : World} {B : Nat} {e : TypeId} {size : Nat} {v : Value} {n : Nat} {xs : List Value} (h : w.ownsRow B e size v n xs) (hk : ∀ b, v.ownBlock = some b → w'.heap[b]? = w.heap[b]?) : w'.ownsRow B e size v n xs := by
  refine ⟨h.1, ?_⟩
  rcases h.2 with h2 | ⟨g, cap, cur, rfl, b, hg, r⟩
  · exact .inl h2
  · exact .inr ⟨g, cap, cur, rfl, b, by rw [hk g rfl]; exact hg, r⟩

/-- The block of what is owned bears its element's type. -/
theorem ownsRow_type {w : World} {B : Nat} {e : TypeId} {size : Nat} {v : Value} {n : Nat} {xs : List Value} (h : w.ownsRow B e size v n xs) {b : Nat} (hb : v.ownBlock = some b) : ∃ cur, w.heap[b]? = some (.cells cur e (0, 0)) := by
  rcases h.2 with ⟨rfl, _⟩ | ⟨g, cap, cur, rfl, _, hg, _⟩
  · simp [Value.ownBlock] at hb
  · simp [Value.ownBlock] at hb; subst hb; exact ⟨cur, hg⟩

/-- A part stays where the blocks of nodes and attributes are as they were. -/
theorem Seg.kept {w w' : World} {E : Nat → Nat} {lo hi : Nat} {nb : Nat → Nat} {v : Nat → Value} {ts : List NodeD} {B : Nat} (h : Seg w E lo hi nb v ts B)
    (hk : ∀ b, b < w.heap.size → (∀ cur t fr, w.heap[b]? = some (.cells cur t fr) → t = 68 ∨ t = 109) → w'.heap[b]? = w.heap[b]?) : Seg w' E lo hi nb v ts B := by
  refine ⟨fun i a b => ?_, fun i a b => ?_, h.base, h.inj, h.sep⟩
  · have := h.node i a b
    unfold World.nodeAt at *
    rw [hk (nb i) (World.nodeAt.lt (h.node i a b)) (fun cur t fr hc => by rw [this] at hc; simp [NRec.obj] at hc; exact .inl hc.2.1.symm)]
    exact this
  · refine ownsRow_kept (h.own i a b) (fun x hx => ?_)
    obtain ⟨cur, hc⟩ := ownsRow_type (h.own i a b) hx
    exact hk x (World.ownsRow.lt (h.own i a b) x hx).2 (fun cur' t fr hc' => by rw [hc] at hc'; simp at hc'; exact .inr hc'.2.1.symm)

/-- .. behind a call that wrote to one row of another type alone. -/
theorem Seg.grown {w w' : World} {E : Nat → Nat} {lo hi : Nat} {nb : Nat → Nat} {v : Nat → Value} {ts : List NodeD} {B bl : Nat} (h : Seg w E lo hi nb v ts B) (hg : w.grownBy w' (some bl)) {arr : Array Value} {t : TypeId} {fr : Nat × Nat}
    (hb : w.heap[bl]? = some (.cells arr t fr)) (h1 : t ≠ 68) (h2 : t ≠ 109) : Seg w' E lo hi nb v ts B := by
  refine h.kept (fun b hlt ht => hg.block b hlt (fun e => ?_))
  simp at e; subst e
  rcases ht arr t fr hb with h3 | h3
  · exact h1 h3
  · exact h2 h3

theorem node_ne_own {w : World} {b : Nat} {r : NRec} (h : World.nodeAt w b r) {B : Nat} {size : Nat} {v : Value} {n : Nat} {xs : List Value} (ho : w.ownsRow B 109 size v n xs) : v.ownBlock ≠ some b := by
  intro hb
  obtain ⟨cur, hc⟩ := ownsRow_type ho hb
  unfold World.nodeAt at h
  rw [hc] at h
  simp [NRec.obj] at h

/-- What is owned stays owned where a node is written. -/
theorem ownsRow_putN {w : World} {b : Nat} {r r' : NRec} (h : World.nodeAt w b r) {B : Nat} {size : Nat} {v : Value} {n : Nat} {xs : List Value} (ho : w.ownsRow B 109 size v n xs) :
    (World.putN w b r').ownsRow B 109 size v n xs :=
  ownsRow_kept ho (fun x hx => World.heap_putN_other r' (fun e => node_ne_own h ho (by rw [hx, e])))

/-- The ends of the places, while a node's kids are not all there. -/
def Ez (z : Nat → Nat) (lo hi i : Nat) : Nat := if i = lo then hi else i + z i

theorem Ez_full (z : Nat → Nat) (lo : Nat) : Ez z lo (lo + z lo) = fun i => i + z i := by
  funext i
  unfold Ez
  split
  · rename_i h; rw [h]
  · rfl

/-- A part out of sizes. -/
theorem part_of {z : Nat → Nat} {n lo hi : Nat} (hz : Nest z n) (h1 : lo < hi) (h2 : hi ≤ n) (h3 : ∀ i, lo < i → i < hi → i + z i ≤ hi) : Part (Ez z lo hi) lo hi := by
  refine ⟨h1, by simp [Ez], fun i a b => ?_, fun i j a b c d => ?_⟩
  · unfold Ez
    split
    · omega
    · have := hz.pos i (by omega); omega
  · unfold Ez at *
    by_cases e : i = lo
    · subst e
      simp only [if_true] at d ⊢
      split
      · exact Nat.le_refl _
      · exact h3 j (by omega) d
    · simp only [e, if_false] at d ⊢
      have : j ≠ lo := by omega
      simp only [this, if_false]
      exact hz.lam i j (by omega) c d

theorem part_full {z : Nat → Nat} {n lo : Nat} (hz : Nest z n) (h : lo < n) : Part (fun i => i + z i) lo (lo + z lo) := by
  have := part_of (lo := lo) (hi := lo + z lo) hz (by have := hz.pos lo h; omega) (hz.fit lo h) (fun i a b => hz.lam lo i h (by omega) b)
  rwa [Ez_full] at this

theorem join_of {z : Nat → Nat} {n lo k : Nat} (hz : Nest z n) (h1 : lo < k) (h2 : k < n) (h3 : ∀ i, lo < i → i < k → i + z i ≤ k) : Join (Ez z lo k) (fun i => i + z i) (Ez z lo (k + z k)) lo k (k + z k) :=
  ⟨part_of hz h1 (by omega) h3, part_full hz h2, by simp [Ez], fun i a b => by simp [Ez, show i ≠ lo by omega], fun i a b => by simp [Ez, show i ≠ lo by omega]⟩

end Go.Proofs.YtphppdbhofeagaaDoor

namespace Go.Proofs.YtphppdbhofeagaaDoor
open Go.RowKit
set_option linter.unusedVariables false
set_option linter.unusedSimpArgs false

theorem prvK_lo {E : Nat → Nat} {lo : Nat} : prvK E lo lo = none := by
  refine top_none (fun j hj => ?_)
  have : ¬ lo ≤ j := by omega
  simp [this]

theorem nxtK_lo {E : Nat → Nat} {lo : Nat} : nxtK E lo lo = none := by unfold nxtK; rw [up_lo (Nat.le_refl _)]

section
variable {E1 F E2 : Nat → Nat} {lo k k' : Nat} (J : Join E1 F E2 lo k k') (nb : Nat → Nat) (n : NodeD) (v : Value)
include J

theorem Join.node_k0 (h : k = lo + 1) : nodeR E2 lo nb n v k = { nodeR F k nb n v k with par := some (nb lo) } := by
  unfold nodeR
  rw [J.up_k, J.fst_b (Nat.le_refl _) J.pF.lt, J.lst_b (Nat.le_refl _) J.pF.lt, J.prv_k, J.nxt_k, nxtK_lo, prvK_lo, J.p1.lst_none (by rw [J.p1.root]; omega)]
  rfl

theorem Join.node_k {l : Nat} (h : lstK E1 lo lo = some l) : nodeR E2 lo nb n v k = { nodeR F k nb n v k with par := some (nb lo), prv := some (nb l) } := by
  unfold nodeR
  rw [J.up_k, J.fst_b (Nat.le_refl _) J.pF.lt, J.lst_b (Nat.le_refl _) J.pF.lt, J.prv_k, J.nxt_k, nxtK_lo, h]
  rfl

theorem Join.node_b {i : Nat} (h1 : k < i) (h2 : i < k') : nodeR E2 lo nb n v i = nodeR F k nb n v i := by
  unfold nodeR
  rw [J.up_b h1 h2, J.fst_b (by omega) h2, J.lst_b (by omega) h2, J.prv_b h1 h2, J.nxt_b h1 h2]

theorem Join.node_lo0 (h : k = lo + 1) : nodeR E2 lo nb n v lo = { nodeR E1 lo nb n v lo with fst := some (nb k), lst := some (nb k) } := by
  unfold nodeR
  rw [up_lo (Nat.le_refl _), up_lo (Nat.le_refl _), J.fst_lo, J.lst_lo, prvK_lo, prvK_lo, nxtK_lo, nxtK_lo]
  rw [← h]
  rfl

theorem Join.node_lo (h : lo + 1 < k) : nodeR E2 lo nb n v lo = { nodeR E1 lo nb n v lo with lst := some (nb k) } := by
  unfold nodeR
  rw [up_lo (Nat.le_refl _), up_lo (Nat.le_refl _), J.fst_lo, J.fst_lo1 h, J.lst_lo, prvK_lo, prvK_lo, nxtK_lo, nxtK_lo]
  rfl

theorem Join.node_l {l : Nat} (h : lstK E1 lo lo = some l) : nodeR E2 lo nb n v l = { nodeR E1 lo nb n v l with nxt := some (nb k) } := by
  obtain ⟨a, b, c, d⟩ := J.p1.lst_end (Nat.le_refl _) J.p1.lt h
  rw [J.p1.root] at b d
  unfold nodeR
  rw [J.up_a a b, J.fst_a a b, J.lst_a a b, J.prv_a a b, J.nxt_a a b, if_pos ⟨c, d⟩]
  rfl

theorem Join.node_a {i : Nat} (h1 : lo < i) (h2 : i < k) (h3 : lstK E1 lo lo ≠ some i) : nodeR E2 lo nb n v i = nodeR E1 lo nb n v i := by
  unfold nodeR
  rw [J.up_a h1 h2, J.fst_a h1 h2, J.lst_a h1 h2, J.prv_a h1 h2, J.nxt_a h1 h2, if_neg]
  rintro ⟨a, b⟩
  refine h3 ?_
  refine top_mk (by rw [J.p1.root]; exact h2) (by simp [h1, a]) (fun j c d => ?_)
  rw [J.p1.root] at d
  by_cases h4 : up E1 lo j = some lo
  · have := up_some h4
    have := this.2.2.2 i h1 c
    have h5 := J.p1.pos j (by omega) d
    omega
  · simp [h4]

end

section
variable {E1 F E2 : Nat → Nat} {lo k k' : Nat} {w : World} {nb : Nat → Nat} {v : Nat → Value} {ts : List NodeD} {B B' : Nat}

/-- The blocks of the first part lie below those of the second one. -/
structure Ahead (w : World) (lo k : Nat) (nb : Nat → Nat) (v : Nat → Value) (B' : Nat) : Prop where
  node : ∀ i, lo ≤ i → i < k → nb i < B'
  own : ∀ i, lo ≤ i → i < k → ∀ b, (v i).ownBlock = some b → b < B'

theorem seg_join_props (J : Join E1 F E2 lo k k') (h1 : Seg w E1 lo k nb v ts B) (hF : Seg w F k k' nb v ts B') (hB : B ≤ B') (ha : Ahead w lo k nb v B') :
    (∀ i, lo ≤ i → i < k' → B ≤ nb i) ∧ (∀ i j, lo ≤ i → i < k' → lo ≤ j → j < k' → nb i = nb j → i = j) ∧
    (∀ i j, lo ≤ i → i < k' → lo ≤ j → j < k' → i ≠ j → ∀ b, (v i).ownBlock = some b → (v j).ownBlock ≠ some b) ∧
    (∀ i, lo ≤ i → i < k' → w.ownsRow B 109 3 (v i) (ts.getD i default).attrs.length (attrCells (ts.getD i default).attrs)) := by
  refine ⟨fun i a b => ?_, fun i j a b c d e => ?_, fun i j a b c d e x hx => ?_, fun i a b => ?_⟩
  · by_cases h : i < k
    · exact h1.base i a h
    · have := hF.base i (by omega) b; omega
  · by_cases h : i < k <;> by_cases h' : j < k
    · exact h1.inj i j a h c h' e
    · have := ha.node i a h; have := hF.base j (by omega) d; omega
    · have := ha.node j c h'; have := hF.base i (by omega) b; omega
    · exact hF.inj i j (by omega) b (by omega) d e
  · by_cases h : i < k <;> by_cases h' : j < k
    · exact h1.sep i j a h c h' e x hx
    · have h3 := ha.own i a h x hx
      intro hj
      have := (World.ownsRow.lt (hF.own j (by omega) d) x hj).1
      omega
    · intro hj
      have h3 := ha.own j c h' x hj
      have := (World.ownsRow.lt (hF.own i (by omega) b) x hx).1
      omega
    · exact hF.sep i j (by omega) b (by omega) d e x hx
  · by_cases h : i < k
    · exact h1.own i a h
    · exact ownsRow_base (hF.own i (by omega) b) hB

/-- The first kid. -/
theorem seg_join0 (J : Join E1 F E2 lo k k') (hk : k = lo + 1) (h1 : Seg w E1 lo k nb v ts B) (hF : Seg w F k k' nb v ts B') (hB : B ≤ B') (ha : Ahead w lo k nb v B') :
    Seg (World.putN (World.putN w (nb lo) { nodeR E1 lo nb (ts.getD lo default) (v lo) lo with fst := some (nb k), lst := some (nb k) }) (nb k) { nodeR F k nb (ts.getD k default) (v k) k with par := some (nb lo) }) E2 lo k' nb v ts B := by
  obtain ⟨p1, p2, p3, p4⟩ := seg_join_props J h1 hF hB ha
  have hl := J.p1.lt
  have hk' := J.pF.lt
  have nlo := h1.node lo (Nat.le_refl _) hl
  have nk := hF.node k (Nat.le_refl _) hk'
  have hne : nb k ≠ nb lo := fun e => by have := p2 k lo (by omega) hk' (Nat.le_refl _) (by omega) e; omega
  refine ⟨fun i a b => ?_, fun i a b => ?_, p1, p2, p3⟩
  · by_cases e : i = k
    · subst e
      rw [J.node_k0 nb _ _ hk]
      exact (nk.other _ hne).put _
    · have hik : nb i ≠ nb k := fun e' => e (p2 i k a b (by omega) hk' e')
      by_cases e2 : i = lo
      · subst e2
        rw [J.node_lo0 nb _ _ hk]
        exact (nlo.put _).other _ hik
      · have hil : nb i ≠ nb lo := fun e' => e2 (p2 i lo a b (Nat.le_refl _) (by omega) e')
        rw [J.node_b nb _ _ (by omega) b]
        exact ((hF.node i (by omega) b).other _ hil).other _ hik
  · exact ownsRow_putN (nk.other _ hne) (ownsRow_putN nlo (p4 i a b))

/-- A later kid. -/
theorem seg_join (J : Join E1 F E2 lo k k') {l : Nat} (hl : lstK E1 lo lo = some l) (h1 : Seg w E1 lo k nb v ts B) (hF : Seg w F k k' nb v ts B') (hB : B ≤ B') (ha : Ahead w lo k nb v B') :
    Seg (World.putN (World.putN (World.putN w (nb l) { nodeR E1 lo nb (ts.getD l default) (v l) l with nxt := some (nb k) }) (nb lo) { nodeR E1 lo nb (ts.getD lo default) (v lo) lo with lst := some (nb k) })
      (nb k) { nodeR F k nb (ts.getD k default) (v k) k with par := some (nb lo), prv := some (nb l) }) E2 lo k' nb v ts B := by
  obtain ⟨p1, p2, p3, p4⟩ := seg_join_props J h1 hF hB ha
  obtain ⟨la, lb, lc, ld⟩ := J.p1.lst_end (Nat.le_refl _) J.p1.lt hl
  rw [J.p1.root] at lb ld
  have hk' := J.pF.lt
  have hlo : lo + 1 < k := by omega
  have nlo := h1.node lo (Nat.le_refl _) (by omega)
  have nl := h1.node l (by omega) lb
  have nk := hF.node k (Nat.le_refl _) hk'
  have h1ne : nb k ≠ nb lo := fun e => by have := p2 k lo (by omega) hk' (Nat.le_refl _) (by omega) e; omega
  have h2ne : nb lo ≠ nb l := fun e => by have := p2 lo l (Nat.le_refl _) (by omega) (by omega) (by omega) e; omega
  have h3ne : nb k ≠ nb l := fun e => by have := p2 k l (by omega) hk' (by omega) (by omega) e; omega
  refine ⟨fun i a b => ?_, fun i a b => ?_, p1, p2, p3⟩
  · by_cases e : i = k
    · subst e
      rw [J.node_k nb _ _ hl]
      exact ((nk.other _ h3ne).other _ h1ne).put _
    · have hik : nb i ≠ nb k := fun e' => e (p2 i k a b (by omega) hk' e')
      by_cases e2 : i = lo
      · subst e2
        rw [J.node_lo nb _ _ hlo]
        exact ((nlo.other _ h2ne).put _).other _ hik
      · have hil : nb i ≠ nb lo := fun e' => e2 (p2 i lo a b (Nat.le_refl _) (by omega) e')
        by_cases e3 : i = l
        · subst e3
          rw [J.node_l nb _ _ hl]
          exact ((nl.put _).other _ hil).other _ hik
        · have hill : nb i ≠ nb l := fun e' => e3 (p2 i l a b (by omega) (by omega) e')
          by_cases e4 : i < k
          · rw [J.node_a nb _ _ (by omega) e4 (fun e' => by rw [hl] at e'; simp at e'; exact e3 e'.symm)]
            exact (((h1.node i a e4).other _ hill).other _ hil).other _ hik
          · rw [J.node_b nb _ _ (by omega) b]
            exact (((hF.node i (by omega) b).other _ hill).other _ hil).other _ hik
  · exact ownsRow_putN ((nk.other _ h3ne).other _ h1ne) (ownsRow_putN (nlo.other _ h2ne) (ownsRow_putN nl (p4 i a b)))

end
end Go.Proofs.YtphppdbhofeagaaDoor

