/- Two parts of a tree, put together. -/
import Derived.Test.YtikimffifkiinaaSeg
namespace Go.Proofs.Ytikimffifkiinaa
open Go.RowKit
set_option linter.unusedVariables false
set_option linter.unusedSimpArgs false

theorem prvK_lo {E : Nat → Nat} {lo : Nat} : prvK E lo lo = none := by
  refine top_none (fun j hj => ?_)
  have : ¬ lo ≤ j := by omega
  simp [this]

theorem nxtK_lo {E : Nat → Nat} {lo : Nat} : nxtK E lo lo = none := by unfold nxtK; rw [up_lo (Nat.le_refl _)]

section
variable {E1 F E2 : Nat → Nat} {lo k k' : Nat} (J : Join E1 F E2 lo k k') (nb : Nat → Nat) (n : NodeD) (v : Value)
include J

theorem Join.node_k0 (h : k = lo + 1) : nodeR E2 lo nb n v k = { nodeR F k nb n v k with par := some (nb lo) } := by
  unfold nodeR
  rw [J.up_k, J.fst_b (Nat.le_refl _) J.pF.lt, J.lst_b (Nat.le_refl _) J.pF.lt, J.prv_k, J.nxt_k, nxtK_lo, prvK_lo, J.p1.lst_none (by rw [J.p1.root]; omega)]
  rfl

theorem Join.node_k {l : Nat} (h : lstK E1 lo lo = some l) : nodeR E2 lo nb n v k = { nodeR F k nb n v k with par := some (nb lo), prv := some (nb l) } := by
  unfold nodeR
  rw [J.up_k, J.fst_b (Nat.le_refl _) J.pF.lt, J.lst_b (Nat.le_refl _) J.pF.lt, J.prv_k, J.nxt_k, nxtK_lo, h]
  rfl

theorem Join.node_b {i : Nat} (h1 : k < i) (h2 : i < k') : nodeR E2 lo nb n v i = nodeR F k nb n v i := by
  unfold nodeR
  rw [J.up_b h1 h2, J.fst_b (by omega) h2, J.lst_b (by omega) h2, J.prv_b h1 h2, J.nxt_b h1 h2]

theorem Join.node_lo0 (h : k = lo + 1) : nodeR E2 lo nb n v lo = { nodeR E1 lo nb n v lo with fst := some (nb k), lst := some (nb k) } := by
  unfold nodeR
  rw [up_lo (Nat.le_refl _), up_lo (Nat.le_refl _), J.fst_lo, J.lst_lo, prvK_lo, prvK_lo, nxtK_lo, nxtK_lo]
  rw [← h]
  rfl

theorem Join.node_lo (h : lo + 1 < k) : nodeR E2 lo nb n v lo = { nodeR E1 lo nb n v lo with lst := some (nb k) } := by
  unfold nodeR
  rw [up_lo (Nat.le_refl _), up_lo (Nat.le_refl _), J.fst_lo, J.fst_lo1 h, J.lst_lo, prvK_lo, prvK_lo, nxtK_lo, nxtK_lo]
  rfl

theorem Join.node_l {l : Nat} (h : lstK E1 lo lo = some l) : nodeR E2 lo nb n v l = { nodeR E1 lo nb n v l with nxt := some (nb k) } := by
  obtain ⟨a, b, c, d⟩ := J.p1.lst_end (Nat.le_refl _) J.p1.lt h
  rw [J.p1.root] at b d
  unfold nodeR
  rw [J.up_a a b, J.fst_a a b, J.lst_a a b, J.prv_a a b, J.nxt_a a b, if_pos ⟨c, d⟩]
  rfl

theorem Join.node_a {i : Nat} (h1 : lo < i) (h2 : i < k) (h3 : lstK E1 lo lo ≠ some i) : nodeR E2 lo nb n v i = nodeR E1 lo nb n v i := by
  unfold nodeR
  rw [J.up_a h1 h2, J.fst_a h1 h2, J.lst_a h1 h2, J.prv_a h1 h2, J.nxt_a h1 h2, if_neg]
  rintro ⟨a, b⟩
  refine h3 ?_
  refine top_mk (by rw [J.p1.root]; exact h2) (by simp [h1, a]) (fun j c d => ?_)
  rw [J.p1.root] at d
  by_cases h4 : up E1 lo j = some lo
  · have := up_some h4
    have := this.2.2.2 i h1 c
    have h5 := J.p1.pos j (by omega) d
    omega
  · simp [h4]

end

section
variable {E1 F E2 : Nat → Nat} {lo k k' : Nat} {w : World} {nb : Nat → Nat} {v : Nat → Value} {ts : List NodeD} {B B' : Nat}

/-- The blocks of the first part lie below those of the second one. -/
structure Ahead (w : World) (lo k : Nat) (nb : Nat → Nat) (v : Nat → Value) (B' : Nat) : Prop where
  node : ∀ i, lo ≤ i → i < k → nb i < B'
  own : ∀ i, lo ≤ i → i < k → ∀ b, (v i).ownBlock = some b → b < B'

theorem seg_join_props (J : Join E1 F E2 lo k k') (h1 : Seg w E1 lo k nb v ts B) (hF : Seg w F k k' nb v ts B') (hB : B ≤ B') (ha : Ahead w lo k nb v B') :
    (∀ i, lo ≤ i → i < k' → B ≤ nb i) ∧ (∀ i j, lo ≤ i → i < k' → lo ≤ j → j < k' → nb i = nb j → i = j) ∧
    (∀ i j, lo ≤ i → i < k' → lo ≤ j → j < k' → i ≠ j → ∀ b, (v i).ownBlock = some b → (v j).ownBlock ≠ some b) ∧
    (∀ i, lo ≤ i → i < k' → w.ownsRow B 81 3 (v i) (ts.getD i default).attrs.length (attrCells (ts.getD i default).attrs)) := by
  refine ⟨fun i a b => ?_, fun i j a b c d e => ?_, fun i j a b c d e x hx => ?_, fun i a b => ?_⟩
  · by_cases h : i < k
    · exact h1.base i a h
    · have := hF.base i (by omega) b; omega
  · by_cases h : i < k <;> by_cases h' : j < k
    · exact h1.inj i j a h c h' e
    · have := ha.node i a h; have := hF.base j (by omega) d; omega
    · have := ha.node j c h'; have := hF.base i (by omega) b; omega
    · exact hF.inj i j (by omega) b (by omega) d e
  · by_cases h : i < k <;> by_cases h' : j < k
    · exact h1.sep i j a h c h' e x hx
    · have h3 := ha.own i a h x hx
      intro hj
      have := (World.ownsRow.lt (hF.own j (by omega) d) x hj).1
      omega
    · intro hj
      have h3 := ha.own j c h' x hj
      have := (World.ownsRow.lt (hF.own i (by omega) b) x hx).1
      omega
    · exact hF.sep i j (by omega) b (by omega) d e x hx
  · by_cases h : i < k
    · exact h1.own i a h
    · exact ownsRow_base (hF.own i (by omega) b) hB

/-- The first kid. -/
theorem seg_join0 (J : Join E1 F E2 lo k k') (hk : k = lo + 1) (h1 : Seg w E1 lo k nb v ts B) (hF : Seg w F k k' nb v ts B') (hB : B ≤ B') (ha : Ahead w lo k nb v B') :
    Seg (World.putN (World.putN w (nb lo) { nodeR E1 lo nb (ts.getD lo default) (v lo) lo with fst := some (nb k), lst := some (nb k) }) (nb k) { nodeR F k nb (ts.getD k default) (v k) k with par := some (nb lo) }) E2 lo k' nb v ts B := by
  obtain ⟨p1, p2, p3, p4⟩ := seg_join_props J h1 hF hB ha
  have hl := J.p1.lt
  have hk' := J.pF.lt
  have nlo := h1.node lo (Nat.le_refl _) hl
  have nk := hF.node k (Nat.le_refl _) hk'
  have hne : nb k ≠ nb lo := fun e => by have := p2 k lo (by omega) hk' (Nat.le_refl _) (by omega) e; omega
  refine ⟨fun i a b => ?_, fun i a b => ?_, p1, p2, p3⟩
  · by_cases e : i = k
    · subst e
      rw [J.node_k0 nb _ _ hk]
      exact (nk.other _ hne).put _
    · have hik : nb i ≠ nb k := fun e' => e (p2 i k a b (by omega) hk' e')
      by_cases e2 : i = lo
      · subst e2
        rw [J.node_lo0 nb _ _ hk]
        exact (nlo.put _).other _ hik
      · have hil : nb i ≠ nb lo := fun e' => e2 (p2 i lo a b (Nat.le_refl _) (by omega) e')
        rw [J.node_b nb _ _ (by omega) b]
        exact ((hF.node i (by omega) b).other _ hil).other _ hik
  · exact ownsRow_putN (nk.other _ hne) (ownsRow_putN nlo (p4 i a b))

/-- A later kid. -/
theorem seg_join (J : Join E1 F E2 lo k k') {l : Nat} (hl : lstK E1 lo lo = some l) (h1 : Seg w E1 lo k nb v ts B) (hF : Seg w F k k' nb v ts B') (hB : B ≤ B') (ha : Ahead w lo k nb v B') :
    Seg (World.putN (World.putN (World.putN w (nb l) { nodeR E1 lo nb (ts.getD l default) (v l) l with nxt := some (nb k) }) (nb lo) { nodeR E1 lo nb (ts.getD lo default) (v lo) lo with lst := some (nb k) })
      (nb k) { nodeR F k nb (ts.getD k default) (v k) k with par := some (nb lo), prv := some (nb l) }) E2 lo k' nb v ts B := by
  obtain ⟨p1, p2, p3, p4⟩ := seg_join_props J h1 hF hB ha
  obtain ⟨la, lb, lc, ld⟩ := J.p1.lst_end (Nat.le_refl _) J.p1.lt hl
  rw [J.p1.root] at lb ld
  have hk' := J.pF.lt
  have hlo : lo + 1 < k := by omega
  have nlo := h1.node lo (Nat.le_refl _) (by omega)
  have nl := h1.node l (by omega) lb
  have nk := hF.node k (Nat.le_refl _) hk'
  have h1ne : nb k ≠ nb lo := fun e => by have := p2 k lo (by omega) hk' (Nat.le_refl _) (by omega) e; omega
  have h2ne : nb lo ≠ nb l := fun e => by have := p2 lo l (Nat.le_refl _) (by omega) (by omega) (by omega) e; omega
  have h3ne : nb k ≠ nb l := fun e => by have := p2 k l (by omega) hk' (by omega) (by omega) e; omega
  refine ⟨fun i a b => ?_, fun i a b => ?_, p1, p2, p3⟩
  · by_cases e : i = k
    · subst e
      rw [J.node_k nb _ _ hl]
      exact ((nk.other _ h3ne).other _ h1ne).put _
    · have hik : nb i ≠ nb k := fun e' => e (p2 i k a b (by omega) hk' e')
      by_cases e2 : i = lo
      · subst e2
        rw [J.node_lo nb _ _ hlo]
        exact ((nlo.other _ h2ne).put _).other _ hik
      · have hil : nb i ≠ nb lo := fun e' => e2 (p2 i lo a b (Nat.le_refl _) (by omega) e')
        by_cases e3 : i = l
        · subst e3
          rw [J.node_l nb _ _ hl]
          exact ((nl.put _).other _ hil).other _ hik
        · have hill : nb i ≠ nb l := fun e' => e3 (p2 i l a b (by omega) (by omega) e')
          by_cases e4 : i < k
          · rw [J.node_a nb _ _ (by omega) e4 (fun e' => by rw [hl] at e'; simp at e'; exact e3 e'.symm)]
            exact (((h1.node i a e4).other _ hill).other _ hil).other _ hik
          · rw [J.node_b nb _ _ (by omega) b]
            exact (((hF.node i (by omega) b).other _ hill).other _ hil).other _ hik
  · exact ownsRow_putN ((nk.other _ h3ne).other _ h1ne) (ownsRow_putN (nlo.other _ h2ne) (ownsRow_putN nl (p4 i a b)))

end
end Go.Proofs.Ytikimffifkiinaa
