/- Rows that grow, whose elements are slices that can be read; slices in the midst of an own row. Selections whose nodes are a part of an own row. -/
import Derived.Test.YtphppdbhofeagaaGreatStepAll
import Derived.Test.YtphppdbhofeagaaGreatAppendNone
import Derived.ArgAppend
import Derived.Deep.RegionLaw
import Derived.Deep.Upon
import Derived.Lib.LazyBuf
namespace Go.Proofs.YtphppdbhofeagaaGreat
open Go.RowKit
set_option linter.unusedVariables false
set_option linter.unusedSimpArgs false

theorem row_kept {w w' : World} {a : Option Addr} {n : Nat} {vs : List Value} (h : Row w a n vs) (hk : ∀ x, a = some x → w'.heap[x.block]? = w.heap[x.block]?) : Row w' a n vs := by
  obtain ⟨h1, h2, h3⟩ := h
  refine ⟨h1, h2, fun hn => ?_⟩
  obtain ⟨b, off, rfl, hc⟩ := h3 hn
  have hb : w'.heap[b]? = w.heap[b]? := hk ⟨b, off, none⟩ rfl
  exact ⟨b, off, rfl, fun i hi => (World.cell?_of_block hb).trans (hc i hi)⟩

theorem ReadsAs.kept {w w' : World} {v : Value} {l : List Value} (h : ReadsAs w v l) (hk : ∀ b, v.ownBlock = some b → w'.heap[b]? = w.heap[b]?) : ReadsAs w' v l := by
  obtain ⟨a, c, rfl, h2, h3, h4⟩ := h
  refine ⟨a, c, rfl, h2, h3, row_kept h4 fun x hx => hk x.block ?_⟩
  subst hx
  rfl

/-- A slice's block, if it has one, is another one. -/
def OffBlk (v : Value) (o : Option Nat) : Prop := ∀ b, v.ownBlock = some b → o ≠ some b

/-- Slices that read as some lists, apart from two blocks. -/
structure RowsAt (w : World) (vs : List Value) (Ls : List (List Nat)) (o p : Option Nat) : Prop where
  len : vs.length = Ls.length
  reads : ∀ j, j < Ls.length → ReadsAs w (vs.getD j undef) ((Ls.getD j []).map intV)
  apart : ∀ j, j < Ls.length → OffBlk (vs.getD j undef) o ∧ OffBlk (vs.getD j undef) p
  old : ∀ j, j < Ls.length → ∀ b, (vs.getD j undef).ownBlock = some b → b < w.heap.size

theorem RowsAt.nil (w : World) (o p : Option Nat) : RowsAt w [] [] o p := ⟨rfl, fun j hj => by simp at hj, fun j hj => by simp at hj, fun j hj => by simp at hj⟩

/-- The first block turns. -/
theorem RowsAt.one {w w' : World} {vs : List Value} {Ls : List (List Nat)} {o p o' : Option Nat} (h : RowsAt w vs Ls o p) (hk : KeepBut o w w') (ho : ∀ b, o' = some b → o = some b ∨ w.heap.size ≤ b) : RowsAt w' vs Ls o' p :=
  ⟨h.len, fun j hj => (h.reads j hj).kept fun b hb => hk.block b (h.old j hj b hb) ((h.apart j hj).1 b hb), fun j hj => ⟨fun b hb e => by
    rcases ho b e with h1 | h1
    · exact (h.apart j hj).1 b hb h1
    · have := h.old j hj b hb; omega, (h.apart j hj).2⟩, fun j hj b hb => Nat.lt_of_lt_of_le (h.old j hj b hb) hk.size⟩

/-- The second one turns. -/
theorem RowsAt.two {w w' : World} {vs : List Value} {Ls : List (List Nat)} {o p p' : Option Nat} (h : RowsAt w vs Ls o p) (hk : KeepBut p w w') (ho : ∀ b, p' = some b → p = some b ∨ w.heap.size ≤ b) : RowsAt w' vs Ls o p' :=
  ⟨h.len, fun j hj => (h.reads j hj).kept fun b hb => hk.block b (h.old j hj b hb) ((h.apart j hj).2 b hb), fun j hj => ⟨(h.apart j hj).1, fun b hb e => by
    rcases ho b e with h1 | h1
    · exact (h.apart j hj).2 b hb h1
    · have := h.old j hj b hb; omega⟩, fun j hj b hb => Nat.lt_of_lt_of_le (h.old j hj b hb) hk.size⟩

theorem RowsAt.below {w w' : World} {vs : List Value} {Ls : List (List Nat)} {o p : Option Nat} (h : RowsAt w vs Ls o p) (hb : Below w.heap.size w w') : RowsAt w' vs Ls o p :=
  ⟨h.len, fun j hj => (h.reads j hj).below hb, h.apart, fun j hj b hx => Nat.lt_of_lt_of_le (h.old j hj b hx) hb.size⟩

theorem RowsAt.snoc {w : World} {vs : List Value} {Ls : List (List Nat)} {o p : Option Nat} (h : RowsAt w vs Ls o p) {v : Value} {L : List Nat} (hr : ReadsAs w v (L.map intV)) (ha : OffBlk v o) (hp : OffBlk v p) (hl : ∀ b, v.ownBlock = some b → b < w.heap.size) : RowsAt w (vs ++ [v]) (Ls ++ [L]) o p := by
  have e1 : ∀ j, j < Ls.length → (vs ++ [v]).getD j undef = vs.getD j undef := fun j hj => by
    have : j < vs.length := by rw [h.len]; exact hj
    simp [List.getD, List.getElem?_append_left this]
  have e2 : ∀ j, j < Ls.length → (Ls ++ [L]).getD j [] = Ls.getD j [] := fun j hj => by simp [List.getD, List.getElem?_append_left hj]
  have e3 : (vs ++ [v]).getD Ls.length undef = v := by rw [← h.len]; simp [List.getD]
  have e4 : (Ls ++ [L]).getD Ls.length [] = L := by simp [List.getD]
  refine ⟨by simp [h.len], fun j hj => ?_, fun j hj => ?_, fun j hj => ?_⟩
  all_goals
    simp only [List.length_append, List.length_singleton] at hj
    by_cases hjl : j < Ls.length
  · rw [e1 j hjl, e2 j hjl]; exact h.reads j hjl
  · obtain rfl : j = Ls.length := by omega
    rw [e3, e4]; exact hr
  · rw [e1 j hjl]; exact h.apart j hjl
  · obtain rfl : j = Ls.length := by omega
    rw [e3]; exact ⟨ha, hp⟩
  · rw [e1 j hjl]; exact h.old j hjl
  · obtain rfl : j = Ls.length := by omega
    rw [e3]; exact hl

/-- A row that grew: what else is as it was. -/
theorem grown_keep {w w' : World} {x : Obj} {o : Option Nat} (h : (w.alloc x).grownBy w' o) : KeepBut o w w' :=
  ⟨by have := h.size; simp at this; omega, fun k hk ho => by
    rw [h.block k (by simp; omega) (fun e => ho e.symm)]
    exact ((Below.refl w.heap.size w).alloc (Nat.le_refl _) x).block k hk⟩

theorem KeepBut.trans {o o' : Option Nat} {w w1 w2 : World} (h : KeepBut o w w1) (h' : KeepBut o' w1 w2) (ho : ∀ b, o' = some b → o = some b ∨ w.heap.size ≤ b) : KeepBut o w w2 :=
  ⟨Nat.le_trans h.size h'.size, fun k hk hok => by
    rw [h'.block k (Nat.lt_of_lt_of_le hk h.size) (fun e => by
      rcases ho k e with h1 | h1
      · exact hok h1
      · omega)]
    exact h.block k hk hok⟩

theorem Below.keepBut {w w' : World} (h : Below w.heap.size w w') (o : Option Nat) : KeepBut o w w' := ⟨h.size, fun k hk _ => h.block k hk⟩

/-- The cells of an own row, by its value. -/
theorem owns_cell {w : World} {B g n c : Nat} {t : TypeId} {xs : List Value} (h : w.ownsRow B t 1 (.slice (some ⟨g, 0, none⟩) n c) n xs) {i : Nat} (hi : i < n) : w.cell? ⟨g, i, none⟩ = some (xs.getD i undef) := by
  have hx : xs.length = n := by have := h.1; omega
  have h2 := World.ownsRow.cells (h := h) (g := g) rfl i (xs.getD i undef) (by rw [List.getD_eq_getElem?_getD]; simp [List.getElem?_eq_getElem (by omega : i < xs.length)])
  have hadd : (⟨g, 0, none⟩ : Addr).add i = ⟨g, i, none⟩ := by unfold Addr.add; split <;> simp_all
  rwa [hadd] at h2

end Go.Proofs.YtphppdbhofeagaaGreat

namespace Go.Proofs.YtphppdbhofeagaaGreat
open Go.RowKit
set_option linter.unusedVariables false
set_option linter.unusedSimpArgs false

/-- Pointers in a part of a row of the call's own: what lies behind them is there, too. -/
def OffPtrs (w : World) (B : Nat) (v : Value) (l : List Nat) : Prop :=
  PtrsOf w v l ∧ (v = .slice none 0 0 ∨ ∃ g off n c, v = .slice (some ⟨g, off, none⟩) n c ∧ B ≤ g ∧ g < w.heap.size ∧ ∀ i, i < c → (w.cell? ⟨g, off + i, none⟩).isSome = true ∧ w.frozen? ⟨g, off + i, none⟩ = false)

theorem OwnPtrs.off {w : World} {B : Nat} {v : Value} {l : List Nat} (h : OwnPtrs w B v l) : OffPtrs w B v l := by
  refine ⟨h.ptrs, ?_⟩
  rcases h.2 with ⟨rfl, _⟩ | ⟨g, cap, cur, rfl, hb, hg, hn, hm, hcs, ht⟩
  · exact .inl rfl
  · refine .inr ⟨g, 0, _, cap, rfl, hb, (Array.getElem?_eq_some_iff.1 hg).1, fun i hi => ?_⟩
    have hi' : i < cur.size := by rw [hcs]; omega
    constructor
    · simp [World.cell?, hg, hi']
    · simp [World.frozen?, hg]

theorem OffPtrs.kept {w w' : World} {B : Nat} {v : Value} {l : List Nat} (h : OffPtrs w B v l) (hs : w.heap.size ≤ w'.heap.size) (hk : ∀ b, v.ownBlock = some b → w'.heap[b]? = w.heap[b]?) : OffPtrs w' B v l := by
  refine ⟨h.1.kept hk, ?_⟩
  rcases h.2 with h2 | ⟨g, off, n, c, rfl, hb, hg, hc⟩
  · exact .inl h2
  · have he : w'.heap[g]? = w.heap[g]? := hk g rfl
    refine .inr ⟨g, off, n, c, rfl, hb, by omega, fun i hi => ?_⟩
    have h1 := hc i hi
    constructor
    · rw [World.cell?_of_block he]; exact h1.1
    · have e2 : w'.frozen? ⟨g, off + i, none⟩ = w.frozen? ⟨g, off + i, none⟩ := by simp only [World.frozen?, he]
      rw [e2]; exact h1.2

theorem OffPtrs.lt {w : World} {B : Nat} {v : Value} {l : List Nat} (h : OffPtrs w B v l) : ∀ b, v.ownBlock = some b → B ≤ b ∧ b < w.heap.size := fun b hb => by
  rcases h.2 with rfl | ⟨g, off, n, c, rfl, h1, h2, _⟩
  · simp [Value.ownBlock] at hb
  · simp [Value.ownBlock] at hb
    subst hb
    exact ⟨h1, h2⟩

theorem OffPtrs.below {w w' : World} {B : Nat} {v : Value} {l : List Nat} (h : OffPtrs w B v l) (hb : Below w.heap.size w w') : OffPtrs w' B v l := h.kept hb.size fun b hx => hb.block b (h.lt b hx).2

section
variable {P : Program} {w : World}

theorem wp_append_off {o : Oper} {a : Act} {K : Act → World → Prop} {Q : Exit → Act → World → Prop} (s x : Operand) (t : TypeId)
    (ho : o.op = .call { callee := .builtin .append, args := #[s, x], argTypes := #[t, t] })
    (B : Nat) (i : TypeInfo) (ht : P.underlying t = some (.slice 75)) (hi : P.info? 75 = some i) (hz : i.zero = some (.pointer none)) (hsize : i.size = 1) (hby : i.bytes = 8)
    (v : Value) (l : List Nat) (y : Nat) (hs : a.eval s = v) (hv : OffPtrs w B v l)
    (ad : Addr) (c : Nat) (hx : a.eval x = .slice (some ad) 1 c) (hnews : ∀ j u, [ptrV y][j]? = some u → w.cell? (ad.add j) = some u)
    (hl : l.length ≤ 1000) (hB : B ≤ w.heap.size)
    (h : ∀ v' w', OffPtrs w' B v' (l ++ [y]) → KeepBut v.ownBlock w w' → Below B w w' → (∀ j, v'.ownBlock = some j → v.ownBlock = some j ∨ w.heap.size ≤ j) → K (a.put o.dst v') w') : o.wp P a w K Q := by
  have h1 : ∀ u ∈ [ptrV y], u.oneCell' = true := by intro u hu; simp at hu; subst hu; rfl
  have go : ∀ v' w', (Builtin.append_ #[t, t] o.type #[v, .slice (some ad) 1 c]).run P w = .ok v' w' → K (a.put o.dst v') w' → o.wp P a w K Q := by
    intro v' w' hr hk
    unfold Oper.wp execOp
    simp only [ho, resolve, invoke, builtin, Sem.run_bind, Sem.run_pure, Result.andThen_ok, List.map_toArray, List.map_cons, List.map_nil, hs, hx, hr]
    exact hk
  obtain ⟨hp, hor⟩ := hv
  rcases hor with rfl | ⟨g, off, n, cc, rfl, hb, hg, hc⟩
  · obtain ⟨a0, c0, he, _⟩ := hp
    simp at he
    have hl0 : l = [] := by
      have := he.2.1
      cases l with
      | nil => rfl
      | cons x r => simp at this
    subst hl0
    obtain ⟨v', w', hr, hown, hgr, _⟩ := run_append_own (P := P) w w.heap.size t o.type 75 i (.pointer none) 1 8 ht hi hz hsize hby rfl (by decide) (.slice none 0 0) 0 [] (World.ownsRow_nil _ _ _ _) ad 1 c [ptrV y] rfl hnews h1 (by unfold maxLen; omega) (by omega) (Nat.le_refl _)
    have hown' : OwnPtrs w' w.heap.size v' ([] ++ [y]) := hown
    have hgb : ∀ k, k < w.heap.size → w'.heap[k]? = w.heap[k]? := fun k hk => hgr.block k hk (by simp [Value.ownBlock])
    refine go v' w' hr (h v' w' ?_ ⟨hgr.size, fun k hk _ => hgb k hk⟩ ⟨hgr.os, hgr.tape, hgr.output, hgr.size, fun k hk => hgb k (by omega)⟩ (fun j hj => .inr (World.ownsRow.lt hown' j hj).1))
    have := hown'.off
    refine ⟨this.1, ?_⟩
    rcases this.2 with h2 | ⟨g, off, n, c, e, h3, h4⟩
    · exact .inl h2
    · exact .inr ⟨g, off, n, c, e, by omega, h4⟩
  · obtain ⟨a0, c0, he, hlc, hcm, hrow⟩ := hp
    simp at he
    obtain ⟨rfl, rfl, rfl⟩ := he
    rw [List.length_map] at hlc hrow
    obtain ⟨_, _, hcell⟩ := hrow
    have hold : ∀ i, i < l.length → w.cell? ⟨g, off + i, none⟩ = some (ptrV (l.getD i 0)) := fun i hi => by
      obtain ⟨b1, o1, e1, hk⟩ := hcell (by omega)
      simp at e1
      obtain ⟨rfl, rfl⟩ := e1
      have h2 := hk i hi
      have e3 : (l.map ptrV).getD i undef = ptrV (l.getD i 0) := by simp [List.getD, hi]
      rwa [e3] at h2
    by_cases hroom : l.length + 1 ≤ cc
    · have hcl := hc l.length (by omega)
      have hr := run_append_room_cells (P := P) w t o.type 75 i ht hi g off l.length cc ad 1 c [ptrV y] (by rw [hsize]; rfl) hnews h1 hroom (fun j hj => by
        obtain rfl : j = 0 := by simpa using hj
        rw [hsize]; simpa using hcl.1) (fun j hj => by
        obtain rfl : j = 0 := by simpa using hj
        rw [hsize]; simpa using hcl.2)
      rw [hsize, Nat.mul_one] at hr
      obtain ⟨w', hw'⟩ : ∃ w', w.setCells g (off + l.length) [ptrV y] = w' := ⟨_, rfl⟩
      rw [hw'] at hr
      have hbs : Below B w w' := by rw [← hw']; exact below_setCells hb _ _ _ (Below.refl _ _)
      have hsz : w.heap.size ≤ w'.heap.size := hbs.size
      have hoth : ∀ k, k < w.heap.size → k ≠ g → w'.heap[k]? = w.heap[k]? := fun k hk hne => by rw [← hw']; exact World.heap_setCells_other w g _ _ hk hne
      have hin : w'.cell? ⟨g, off + l.length, none⟩ = some (ptrV y) := by
        rw [← hw']
        have := World.cell?_setCells_in g [ptrV y] (off + l.length) w (fun j hj => by
          obtain rfl : j = 0 := by simpa using hj
          simpa using hcl.1) 0 (by simp)
        simpa using this
      have hout : ∀ i, i < l.length → w'.cell? ⟨g, off + i, none⟩ = w.cell? ⟨g, off + i, none⟩ := fun i hi => by
        rw [← hw']
        exact World.cell?_setCells_out g [ptrV y] (off + l.length) w _ (fun _ _ => by left; simp; omega)
      refine go _ w' hr (h _ w' ⟨⟨some ⟨g, off, none⟩, cc, by simp, by simp; omega, hcm, by simp, by simp [maxLen]; omega, fun _ => ⟨g, off, rfl, fun i hi => ?_⟩⟩, .inr ⟨g, off, _, cc, rfl, hb, by omega, fun i hi => ?_⟩⟩ ⟨by omega, fun k hk hne => hoth k hk (fun e => hne (by rw [e]; rfl))⟩ ?_ (fun j hj => .inl hj))
      · simp only [List.length_map, List.length_append, List.length_singleton] at hi
        by_cases hil : i < l.length
        · have e5 : ((l ++ [y]).map ptrV)[i]? = some (ptrV (l.getD i 0)) := by
            rw [List.map_append, List.getElem?_append_left (by simpa using hil)]
            simp [List.getD, hil]
          have e7 : ((l ++ [y]).map ptrV).getD i undef = ptrV (l.getD i 0) := by
            rw [List.getD_eq_getElem?_getD, e5]
            rfl
          rw [hout i hil, hold i hil, e7]
        · obtain rfl : i = l.length := by omega
          rw [hin]
          simp [List.getD]
      · have h5 := hc i hi
        constructor
        · by_cases e : i = l.length
          · subst e; rw [hin]; rfl
          · have e6 : w'.cell? ⟨g, off + i, none⟩ = w.cell? ⟨g, off + i, none⟩ := by
              rw [← hw']
              exact World.cell?_setCells_out g [ptrV y] (off + l.length) w _ (fun _ _ => by simp; omega)
            rw [e6]; exact h5.1
        · rw [← hw', World.frozen?_setCells]; exact h5.2
      · exact hbs
    · have hfull : cc < l.length + 1 := by omega
      obtain ⟨v', w', hr, hown, hgr⟩ := run_append_arg_grows (P := P) w t o.type 75 i (.pointer none) 1 8 ht hi hz hsize hby rfl (by decide) ⟨g, off, none⟩ l.length cc (l.map ptrV) (by simp) (fun j u hj => by
        have hj2 : j < l.length := by have := (List.getElem?_eq_some_iff.1 hj).1; simpa using this
        have hadd : (⟨g, off, none⟩ : Addr).add j = ⟨g, off + j, none⟩ := by unfold Addr.add; split <;> simp_all
        rw [hadd, hold j hj2]
        simp [hj2] at hj
        simp [List.getD, hj2, hj]) ad 1 c [ptrV y] rfl hnews hfull (by unfold maxLen; omega) (by omega)
      have hown' : OwnPtrs w' w.heap.size v' (l ++ [y]) := by
        unfold OwnPtrs
        simpa using hown
      have hgb : ∀ k, k < w.heap.size → w'.heap[k]? = w.heap[k]? := fun k hk => hgr.block k hk (by simp)
      refine go v' w' hr (h v' w' ?_ ⟨hgr.size, fun k hk _ => hgb k hk⟩ ⟨hgr.os, hgr.tape, hgr.output, hgr.size, fun k hk => hgb k (by omega)⟩ (fun j hj => .inr (World.ownsRow.lt hown' j hj).1))
      have := hown'.off
      refine ⟨this.1, ?_⟩
      rcases this.2 with h2 | ⟨g, off, n, c, e, h3, h4⟩
      · exact .inl h2
      · exact .inr ⟨g, off, n, c, e, by omega, h4⟩

theorem wpList_append_off {ops : Array Oper} {rest : List Oper} {o : Oper} {a : Act} {Q : Exit → Act → World → Prop} (hgd : o.guard = none) (s x : Operand) (t : TypeId)
    (ho : o.op = .call { callee := .builtin .append, args := #[s, x], argTypes := #[t, t] })
    (B : Nat) (i : TypeInfo) (ht : P.underlying t = some (.slice 75)) (hi : P.info? 75 = some i) (hz : i.zero = some (.pointer none)) (hsize : i.size = 1) (hby : i.bytes = 8)
    (v : Value) (l : List Nat) (y : Nat) (hs : a.eval s = v) (hv : OffPtrs w B v l)
    (ad : Addr) (c : Nat) (hx : a.eval x = .slice (some ad) 1 c) (hnews : ∀ j u, [ptrV y][j]? = some u → w.cell? (ad.add j) = some u)
    (hl : l.length ≤ 1000) (hB : B ≤ w.heap.size)
    (h : ∀ v' w', OffPtrs w' B v' (l ++ [y]) → KeepBut v.ownBlock w w' → Below B w w' → (∀ j, v'.ownBlock = some j → v.ownBlock = some j ∨ w.heap.size ≤ j) → wpList P ops Q rest (a.put o.dst v') w') : wpList P ops Q (o :: rest) a w :=
  wpList_plain hgd fun _ hK => wp_append_off s x t ho B i ht hi hz hsize hby v l y hs hv ad c hx hnews hl hB fun v' w' h2 h3 h4 h5 => hK _ _ (h v' w' h2 h3 h4 h5)
end

/-- A selection. -/
structure SelO (w : World) (s : Nat) (v : Value) (l : List Nat) (B : Nat) : Prop where
  nodes : w.cell? ⟨s, 0, none⟩ = some v
  doc : ∃ d, w.cell? ⟨s, 1, none⟩ = some (.pointer (some ⟨d, 0, none⟩))
  off : OffPtrs w B v l
  base : B ≤ s
  ne : v.ownBlock ≠ some s

end Go.Proofs.YtphppdbhofeagaaGreat

