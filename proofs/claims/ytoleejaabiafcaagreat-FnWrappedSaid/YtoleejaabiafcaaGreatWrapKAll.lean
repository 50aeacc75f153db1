/- Nodes wrapped, each in a copy of an element; plain. The reference's inmost: the innermost element of one that has at most one in each. The reference's wrap: each node in a copy of an element. The reference's step: nodes are wrapped, each in a copy of an element. -/
import Derived.Test.YtoleejaabiafcaaGreatCopyAll
import Derived.Test.YtoleejaabiafcaaGreatKnotAll
import Derived.Test.YtoleejaabiafcaaGreatPutMore
import Derived.Test.YtoleejaabiafcaaGreatInsAll
import Derived.Deep.RegionWith
import Derived.BigRegion
import Derived.RegionTactic
import Derived.StillTailTactics
import Derived.Test.YtoleejaabiafcaaGreatChosenK
namespace Go.Proofs.YtoleejaabiafcaaGreat
set_option linter.unusedVariables false
set_option linter.unusedSimpArgs false

/-- A node's kids that are elements. -/
def elK (lab : Nat → NodeD) (G : Wd) (k : Nat) : List Nat := (G.kids k).filter fun y => decide ((lab y).kind = 3)

/-- The innermost element of one that has at most one in each. -/
inductive Inm (lab : Nat → NodeD) (G : Wd) : Nat → Option Nat → Prop
  | stop {k : Nat} (h : elK lab G k = []) : Inm lab G k (some k)
  | many {k : Nat} (h : 2 ≤ (elK lab G k).length) : Inm lab G k none
  | down {k y : Nat} {o : Option Nat} (h : elK lab G k = [y]) (h2 : Inm lab G y o) : Inm lab G k o

theorem Inm.det {lab : Nat → NodeD} {G : Wd} {k : Nat} {o : Option Nat} (h : Inm lab G k o) : ∀ {o'}, Inm lab G k o' → o = o' := by
  induction h with
  | stop h =>
    intro o' h'
    cases h' with
    | stop _ => rfl
    | many h2 => rw [h] at h2; simp at h2
    | down h2 _ => rw [h] at h2; cases h2
  | many h =>
    intro o' h'
    cases h' with
    | stop h2 => rw [h2] at h; simp at h
    | many _ => rfl
    | down h2 _ => rw [h2] at h; simp at h
  | down h _ ih =>
    intro o' h'
    cases h' with
    | stop h2 => rw [h] at h2; cases h2
    | many h2 => rw [h] at h2; simp at h2
    | down h2 h3 =>
      rw [h] at h2
      cases h2
      exact ih h3

theorem elK_mem {lab : Nat → NodeD} {G : Wd} {k y : Nat} (h : y ∈ elK lab G k) : y ∈ G.kids k := (List.mem_filter.1 h).1

/-- It stands in the tree. -/
theorem Inm.mem {lab : Nat → NodeD} {G : Wd} {L : List Nat} (hs : ∀ x ∈ L, ∀ y ∈ G.kids x, y ∈ L) {k : Nat} {o : Option Nat} (h : Inm lab G k o) : k ∈ L → ∀ z, o = some z → z ∈ L := by
  induction h with
  | stop h => intro hk z hz; cases hz; exact hk
  | many h => intro hk z hz; cases hz
  | down h _ ih => intro hk; exact ih (hs _ hk _ (elK_mem (by rw [h]; simp)))

theorem elK_congr {lab lab' : Nat → NodeD} {G G' : Wd} {k : Nat} (hk : G'.kids k = G.kids k) (hl : ∀ y ∈ G.kids k, lab' y = lab y) : elK lab' G' k = elK lab G k := by
  unfold elK
  rw [hk]
  exact List.filter_congr (fun y hy => by rw [hl y hy])

theorem Inm.congr {lab lab' : Nat → NodeD} {G G' : Wd} {L : List Nat} (hs : ∀ x ∈ L, ∀ y ∈ G.kids x, y ∈ L) (hk : ∀ x ∈ L, G'.kids x = G.kids x) (hl : ∀ x ∈ L, lab' x = lab x) {k : Nat} {o : Option Nat} (h : Inm lab G k o) : k ∈ L → Inm lab' G' k o := by
  have he : ∀ x ∈ L, elK lab' G' x = elK lab G x := fun x hx => elK_congr (hk x hx) (fun y hy => hl y (hs x hx y hy))
  induction h with
  | stop h => intro hk2; exact .stop (by rw [he _ hk2]; exact h)
  | many h => intro hk2; exact .many (by rw [he _ hk2]; exact h)
  | down h _ ih => intro hk2; exact .down (by rw [he _ hk2]; exact h) (ih (hs _ hk2 _ (elK_mem (by rw [h]; simp))))

/-- The same in a copy. -/
theorem Inm.copy {lab lab' : Nat → NodeD} {G : Wd} {m : Nat} {L ws : List Nat} (hc : CpOk m G L ws) (hl : ∀ i, i < L.length → lab' (m + i) = lab (L.getD i 0)) {k : Nat} {o : Option Nat} (h : Inm lab G k o) : k ∈ L → Inm lab' (cpW G m L ws) (m + ix L k) (o.map fun z => m + ix L z) := by
  have he : ∀ x ∈ L, elK lab' (cpW G m L ws) (m + ix L x) = (elK lab G x).map fun y => m + ix L y := fun x hx => by
    unfold elK
    rw [(cp_new hx).1, List.filter_map]
    congr 1
    refine List.filter_congr (fun y hy => ?_)
    have hyL := (hc.sub x hx y hy).1
    simp only [Function.comp]
    rw [hl _ (ix_lt hyL), ix_get hyL]
  induction h with
  | stop h => intro hk2; exact .stop (by rw [he _ hk2, h]; rfl)
  | many h => intro hk2; exact .many (by rw [he _ hk2, List.length_map]; exact h)
  | down h _ ih => intro hk2; exact .down (by rw [he _ hk2, h]; rfl) (ih (hc.sub _ hk2 _ (elK_mem (by rw [h]; simp))).1)

/-- A node wrapped: w's tree is L, z its innermost element; x stood in p behind A. -/
def wrap1 (G : Wd) (m : Nat) (L : List Nat) (w p : Nat) (A : List Nat) (x z : Nat) : Wd := (((cpW G m L [w]).put p A.length m).cut x).put (m + ix L z) (G.kids z).length x

structure WrapOk (G : Wd) (m : Nat) (L : List Nat) (w p : Nat) (A : List Nat) (x : Nat) (B : List Nat) (z : Nat) : Prop where
  ok1 : WOk (m + L.length) (cpW G m L [w])
  root : (cpW G m L [w]).up m = none
  kp : (cpW G m L [w]).kids p = A ++ x :: B
  ok2 : WOk (m + L.length) ((cpW G m L [w]).put p A.length m)
  up2 : ((cpW G m L [w]).put p A.length m).up x = some p
  kp2 : ((cpW G m L [w]).put p A.length m).kids p = A ++ m :: x :: B
  kz2 : ((cpW G m L [w]).put p A.length m).kids (m + ix L z) = (G.kids z).map fun y => m + ix L y
  ok3 : WOk (m + L.length) (((cpW G m L [w]).put p A.length m).cut x)
  up3 : (((cpW G m L [w]).put p A.length m).cut x).up x = none
  kz3 : (((cpW G m L [w]).put p A.length m).cut x).kids (m + ix L z) = (G.kids z).map fun y => m + ix L y
  ne : x ≠ m + ix L z
  pos : 0 < L.length
  to : m + ix L z < m + L.length
  anc : ¬ Anc (((cpW G m L [w]).put p A.length m).cut x) x (m + ix L z)
  ok4 : WOk (m + L.length) (wrap1 G m L w p A x z)

theorem wrapOk {G : Wd} {m : Nat} {L : List Nat} {w p x z : Nat} {A B : List Nat} (hG : WOk m G) (hc : CpOk m G L [w]) (hw : L.head? = some w) (hu : G.up x = some p) (hk : G.kids p = A ++ x :: B) (hz : z ∈ L) (hxL : x ∉ L) (hpL : p ∉ L) : WrapOk G m L w p A x B z := by
  obtain ⟨hpm, hxm⟩ := hG.lt p x ((hG.iff p x).2 hu)
  have hwL := hc.ws w (by simp)
  have hw0 : ix L w = 0 := by
    cases L with
    | nil => cases hw
    | cons a r => simp at hw; simp [ix, hw]
  have hpos : 0 < L.length := by
    have := ix_lt hwL
    omega
  have hzl := ix_lt hz
  have ok1 := cp_ok hG hc
  have root := cp_root (F := G) (n := m) (L := L) (ws := [w]) (x := w) (by simp) hwL
  rw [hw0, Nat.add_zero] at root
  have o1 : ∀ q, q < m → (cpW G m L [w]).kids q = G.kids q ∧ (cpW G m L [w]).up q = G.up q := fun q hq => cp_old L [w] hq
  have kp : (cpW G m L [w]).kids p = A ++ x :: B := (o1 p hpm).1.trans hk
  have hlow : ∀ q, q < m → ∀ c, Anc (cpW G m L [w]) c q → c < m := fun q hq c hcq => by
    induction hcq with
    | refl => exact hq
    | @step a b hab _ ih =>
      refine ih ?_
      rw [(o1 a hq).2] at hab
      exact (hG.lt b a ((hG.iff b a).2 hab)).1
  have ok2 := ok1.put A.length (p := p) (x := m) (by omega) (by omega) root (fun ha => by have := hlow p hpm m ha; omega)
  have up2 : ((cpW G m L [w]).put p A.length m).up x = some p := by
    simp only [Wd.put]
    rw [if_neg (by omega), (o1 x hxm).2]
    exact hu
  have kp2 : ((cpW G m L [w]).put p A.length m).kids p = A ++ m :: x :: B := by
    simp only [Wd.put, if_true]
    rw [kp, List.take_left', List.drop_left'] <;> rfl
  have hzp : m + ix L z ≠ p := by omega
  have kz2 : ((cpW G m L [w]).put p A.length m).kids (m + ix L z) = (G.kids z).map fun y => m + ix L y := by
    simp only [Wd.put]
    rw [if_neg hzp]
    exact (cp_new hz).1
  have ok3 := ok2.cut x
  have up3 : (((cpW G m L [w]).put p A.length m).cut x).up x = none := by simp [Wd.cut]
  have kz3 : (((cpW G m L [w]).put p A.length m).cut x).kids (m + ix L z) = (G.kids z).map fun y => m + ix L y := by
    show (((cpW G m L [w]).put p A.length m).kids (m + ix L z)).filter _ = _
    rw [kz2]
    exact filter_none (fun hm => by
      obtain ⟨y, _, e⟩ := List.mem_map.1 hm
      omega)
  have hanc : ¬ Anc (((cpW G m L [w]).put p A.length m).cut x) x (m + ix L z) := fun ha => by
    have key : ∀ t, (m ≤ t ∨ Anc G t p) → ∀ c, Anc (((cpW G m L [w]).put p A.length m).cut x) c t → (m ≤ c ∨ Anc G c p) := fun t ht c hct => by
      induction hct with
      | refl => exact ht
      | @step a b hab _ ih =>
        refine ih ?_
        simp only [Wd.cut] at hab
        split at hab
        · cases hab
        · simp only [Wd.put] at hab
          split at hab
          · cases hab; exact .inr .refl
          · by_cases e : a < m
            · rw [(o1 a e).2] at hab
              rcases ht with h | h
              · omega
              · exact .inr (Anc.trans (.step hab .refl) h)
            · by_cases e2 : a < m + L.length
              · obtain ⟨y, hy, rfl⟩ := cp_num hc.nd (by omega) e2
                rw [(cp_new hy).2] at hab
                split at hab
                · cases hab
                · obtain ⟨q, _, hq⟩ := Option.map_eq_some_iff.1 hab
                  exact .inl (by omega)
              · rw [(cp_far hG (by omega)).2] at hab
                cases hab
    rcases key _ (.inl (Nat.le_add_right m (ix L z))) x ha with h | h
    · omega
    · exact hG.not_up hu h
  exact ⟨ok1, root, kp, ok2, up2, kp2, kz2, ok3, up3, kz3, by omega, hpos, by omega, hanc, ok3.put _ (by omega) (by omega) up3 hanc⟩

/-- Nodes wrapped, one behind the other. -/
inductive Wraps (w : Nat) (L : List Nat) (n2 : Nat) (lab2 : Nat → NodeD) (G2 : Wd) : List Nat → Nat → (Nat → NodeD) → Wd → Prop
  | nil {m : Nat} {lab : Nat → NodeD} {G : Wd} (hm : n2 = m) (hl : ∀ i, i < m → lab2 i = lab i) (hG : G2 = G) : Wraps w L n2 lab2 G2 [] m lab G
  | cons {x p z m : Nat} {xs : List Nat} {lab lab' : Nat → NodeD} {G : Wd} {A B : List Nat} (hu : G.up x = some p) (hk : G.kids p = A ++ x :: B) (hz : Inm lab G w (some z)) (h1 : ∀ i, i < m → lab' i = lab i) (h2 : ∀ i, i < L.length → lab' (m + i) = lab (L.getD i 0))
      (h3 : Wraps w L n2 lab2 G2 xs (m + L.length) lab' (wrap1 G m L w p A x z)) : Wraps w L n2 lab2 G2 (x :: xs) m lab G

/-- While nodes are wrapped: those at rest are still to come. -/
structure WrMid (n : Nat) (F : Wd) (lab0 : Nat → NodeD) (L rest : List Nat) (m : Nat) (lab : Nat → NodeD) (G : Wd) : Prop where
  ok : WOk m G
  le : n ≤ m
  up : ∀ y, y < n → (y ∈ rest ∨ y ∈ L) → G.up y = F.up y
  tree : ∀ y ∈ L, G.kids y = F.kids y
  lab : ∀ y, y < n → lab y = lab0 y

/-- What is known ahead. -/
structure WrSide (n : Nat) (F : Wd) (w : Nat) (L : List Nat) (xs : List Nat) : Prop where
  ok : WOk n F
  cp : CpOk n F L [w]
  head : L.head? = some w
  nd : xs.Nodup
  xin : ∀ x ∈ xs, x < n ∧ x ∉ L ∧ ∃ p, F.up x = some p ∧ p ∉ L

theorem WrMid.cp {n : Nat} {F : Wd} {lab0 : Nat → NodeD} {w : Nat} {L rest : List Nat} {m : Nat} {lab : Nat → NodeD} {G : Wd} (h : WrMid n F lab0 L rest m lab G) (hc : CpOk n F L [w]) : CpOk m G L [w] :=
  ⟨hc.nd, fun y hy => Nat.lt_of_lt_of_le (hc.lt y hy) h.le, fun x hx y hy => hc.sub x hx y (by rwa [h.tree x hx] at hy), fun y hy hn => by rw [h.up y (hc.lt y hy) (.inr hy)]; exact hc.up y hy hn, hc.ws⟩

theorem WrMid.step {n : Nat} {F : Wd} {lab0 : Nat → NodeD} {w : Nat} {L xs : List Nat} {x : Nat} {m : Nat} {lab lab' : Nat → NodeD} {G : Wd} (h : WrMid n F lab0 L (x :: xs) m lab G) (hs : WrSide n F w L (x :: xs)) {p z : Nat} {A B : List Nat} (hu : G.up x = some p) (hk : G.kids p = A ++ x :: B) (hz : z ∈ L) (h1 : ∀ i, i < m → lab' i = lab i) :
    WrapOk G m L w p A x B z ∧ WrMid n F lab0 L xs (m + L.length) lab' (wrap1 G m L w p A x z) ∧ WrSide n F w L xs := by
  obtain ⟨hxn, hxL, q, hq, hqL⟩ := hs.xin x (by simp)
  have hle := h.le
  have hpq : p = q := by
    have := h.up x hxn (.inl (by simp))
    rw [hu, hq] at this
    exact Option.some.inj this
  have hpL : p ∉ L := by rw [hpq]; exact hqL
  have hw := wrapOk h.ok (h.cp hs.cp) hs.head hu hk hz hxL hpL
  obtain ⟨hpm, hxm⟩ := h.ok.lt p x ((h.ok.iff p x).2 hu)
  have hnd := hs.nd
  rw [List.nodup_cons] at hnd
  refine ⟨hw, ⟨hw.ok4, by omega, fun y hy hyr => ?_, fun y hy => ?_, fun y hy => by rw [h1 y (by omega)]; exact h.lab y hy⟩, ⟨hs.ok, hs.cp, hs.head, hnd.2, fun y hy => hs.xin y (List.mem_cons_of_mem _ hy)⟩⟩
  · have hyx : y ≠ x := fun e => by
      subst e
      rcases hyr with h5 | h5
      · exact hnd.1 h5
      · exact hxL h5
    simp only [wrap1, Wd.put, Wd.cut]
    rw [if_neg hyx, if_neg hyx, if_neg (by omega), (cp_old L [w] (by omega)).2]
    exact h.up y hy (by
      rcases hyr with h5 | h5
      · exact .inl (List.mem_cons_of_mem _ h5)
      · exact .inr h5)
  · have hym := Nat.lt_of_lt_of_le (hs.cp.lt y hy) hle
    have hyp : y ≠ p := fun e => hpL (e ▸ hy)
    simp only [wrap1, Wd.put, Wd.cut]
    rw [if_neg (by omega), if_neg hyp, (cp_old L [w] hym).1]
    rw [filter_none (fun hm => by
      have := (h.ok.iff y x).1 hm
      rw [hu] at this
      exact hyp (Option.some.inj this).symm)]
    exact h.tree y hy

theorem Wraps.ok {n : Nat} {F : Wd} {lab0 : Nat → NodeD} {w : Nat} {L : List Nat} {n2 : Nat} {lab2 : Nat → NodeD} {G2 : Wd} {xs : List Nat} {m : Nat} {lab : Nat → NodeD} {G : Wd} (h : Wraps w L n2 lab2 G2 xs m lab G) : WrSide n F w L xs → WrMid n F lab0 L xs m lab G →
    WOk n2 G2 ∧ m ≤ n2 ∧ (∀ i, i < m → lab2 i = lab i) ∧ ∀ P : NodeD → Prop, (∀ i, i < m → P (lab i)) → ∀ i, i < n2 → P (lab2 i) := by
  induction h with
  | nil hm hl hG =>
    intro hs hmid
    subst hm hG
    exact ⟨hmid.ok, Nat.le_refl _, hl, fun P hP i hi => by rw [hl i hi]; exact hP i hi⟩
  | @cons x p z m xs lab lab' G A B hu hk hz g1 g2 g3 ih =>
    intro hs hmid
    have hc := hmid.cp hs.cp
    have hzL := hz.mem (fun a ha b hb => (hc.sub a ha b hb).1) (hc.ws w (by simp)) z rfl
    obtain ⟨h1, h2, h3⟩ := hmid.step hs hu hk hzL g1
    obtain ⟨i1, i2, i3, i4⟩ := ih h3 h2
    refine ⟨i1, by omega, fun i hi => by rw [i3 i (by omega)]; exact g1 i hi, fun P hP => i4 P (fun i hi => ?_)⟩
    by_cases e : i < m
    · rw [g1 i e]; exact hP i e
    · have := g2 (i - m) (by omega)
      rw [show m + (i - m) = i by omega] at this
      rw [this]
      exact hP _ (hc.lt _ (getD_mem' (by omega)))

theorem app_uniq {x : Nat} : ∀ {a b a' b' : List Nat}, a ++ x :: b = a' ++ x :: b' → x ∉ a → x ∉ a' → a = a' ∧ b = b'
  | [], b, [], b', h, _, _ => by simp at h; exact ⟨rfl, h⟩
  | [], b, c :: r, b', h, _, h2 => by simp at h; exact absurd (by simp [h.1]) h2
  | c :: r, b, [], b', h, h1, _ => by simp at h; exact absurd (by simp [h.1]) h1
  | c :: r, b, c' :: r', b', h, h1, h2 => by
    simp only [List.cons_append, List.cons.injEq] at h
    have := app_uniq h.2 (fun hm => h1 (List.mem_cons_of_mem _ hm)) (fun hm => h2 (List.mem_cons_of_mem _ hm))
    exact ⟨by rw [h.1, this.1], this.2⟩

theorem Wraps.det {n : Nat} {F : Wd} {lab0 : Nat → NodeD} {w : Nat} {L : List Nat} {n2 : Nat} {lab2 : Nat → NodeD} {G2 : Wd} {xs : List Nat} {m : Nat} {lab : Nat → NodeD} {G : Wd} (h : Wraps w L n2 lab2 G2 xs m lab G) : WrSide n F w L xs → WrMid n F lab0 L xs m lab G →
    ∀ {n3 : Nat} {lab3 : Nat → NodeD} {G3 : Wd} {lab' : Nat → NodeD}, (∀ i, i < m → lab' i = lab i) → Wraps w L n3 lab3 G3 xs m lab' G → n2 = n3 ∧ G2 = G3 ∧ ∀ i, i < n2 → lab2 i = lab3 i := by
  induction h with
  | nil hm hl hG =>
    intro hs hmid n3 lab3 G3 lab' hlab h'
    cases h' with
    | nil hm' hl' hG' =>
      refine ⟨hm.trans hm'.symm, hG.trans hG'.symm, fun i hi => ?_⟩
      rw [hm] at hi
      rw [hl i hi, hl' i hi, hlab i hi]
  | @cons x p z m xs lab lab1 G A B hu hk hz g1 g2 g3 ih =>
    intro hs hmid n3 lab3 G3 lab' hlab h'
    cases h' with
    | @cons _ p' z' _ _ _ lab4 _ A' B' hu' hk' hz' f1 f2 f3 =>
      have hc := hmid.cp hs.cp
      have hsub : ∀ a ∈ L, ∀ b ∈ G.kids a, b ∈ L := fun a ha b hb => (hc.sub a ha b hb).1
      have hwL := hc.ws w (by simp)
      have hz2 := hz'.congr (lab' := lab) (G' := G) hsub (fun _ _ => rfl) (fun a ha => (hlab a (hc.lt a ha)).symm) hwL
      have ez : z = z' := Option.some.inj (hz.det hz2)
      have ep : p = p' := by rw [hu] at hu'; exact Option.some.inj hu'
      subst ez ep
      have hnd := hmid.ok.nd p
      rw [hk] at hnd
      have hnd' := hmid.ok.nd p
      rw [hk'] at hnd'
      rw [hk] at hk'
      obtain ⟨rfl, rfl⟩ := app_uniq hk' (nd_parts hnd).1 (nd_parts hnd').1
      have hzL := hz.mem hsub hwL z rfl
      obtain ⟨h1, h2, h3⟩ := hmid.step hs hu hk hzL g1
      refine ih h3 h2 (fun i hi => ?_) f3
      by_cases e : i < m
      · rw [g1 i e, f1 i e]; exact hlab i e
      · have a1 := g2 (i - m) (by omega)
        have a2 := f2 (i - m) (by omega)
        rw [show m + (i - m) = i by omega] at a1 a2
        rw [a1, a2]
        exact hlab _ (hc.lt _ (getD_mem' (by omega)))

end Go.Proofs.YtoleejaabiafcaaGreat

namespace Go.Proofs.YtoleejaabiafcaaGreat
open Go.RowKit
set_option linter.unusedVariables false
set_option linter.unusedSimpArgs false

def InmPost (lab : Nat → NodeD) (F : Wd) (kn : Nat → Nat) (k : Nat) (w : World) (e : Ending) (w' : World) : Prop := ∃ o, Inm lab F k o ∧ e = .returned (lk (o.map kn)) ∧ w = w'

/-- The elements among the first kids. -/
def elT (lab : Nat → NodeD) (l : List Nat) (i : Nat) : List Nat := (l.take i).filter fun y => decide ((lab y).kind = 3)

theorem elT_succ {lab : Nat → NodeD} {l : List Nat} {i : Nat} (h : i < l.length) : elT lab l (i + 1) = elT lab l i ++ (if (lab (l.getD i 0)).kind = 3 then [l.getD i 0] else []) := by
  unfold elT
  rw [take_snoc h, List.filter_append]
  congr 1
  generalize l.getD i 0 = q
  by_cases e : (lab q).kind = 3
  · rw [if_pos e]; simp [e]
  · rw [if_neg e]; simp [e]

theorem elT_le {lab : Nat → NodeD} {l : List Nat} (i : Nat) : (elT lab l i).length ≤ (l.filter fun y => decide ((lab y).kind = 3)).length := by
  have h : (l.filter fun y => decide ((lab y).kind = 3)) = elT lab l i ++ ((l.drop i).filter fun y => decide ((lab y).kind = 3)) := by
    unfold elT
    rw [← List.filter_append, List.take_append_drop]
  rw [h, List.length_append]
  omega

set_option maxRecDepth 100000 in
set_option maxHeartbeats 4000000 in
theorem inmost_any {B : Nat} {w : World} {n : Nat} {kn : Nat → Nat} {kv av : Nat → Value} {pl : Nat → Int} {lab : Nat → NodeD} {F : Wd} (h : Knots B w n kn kv av pl lab F) (hF : WOk n F) (hn : n ≤ 900000) {k : Nat} (hk : k < n) :
    Calls Tryz.prog 72 #[.pointer (some ⟨kn k, 0, none⟩)] w (InmPost lab F kn k w) := by
  obtain ⟨d, M, hM, hd⟩ := hF.deep
  have HK := Lib.hid h
  have HF := Lib.hid hF
  have HD := Lib.hid (And.intro hM hd)
  have HKN := Lib.hid hk
  clear h hF hM hd hk
  go_enter Tryz.func72, Tryz.ntmps72
  go_wp2
  go_loopg [0] (M - d k) (fun gk kv0 wr => Hid (w = wr) ∧ ∃ y, Hid (y < n) ∧ gk = M - d y ∧ kv0 = .pointer (some ⟨kn y, 0, none⟩) ∧ Hid (∀ o, Inm lab F y o → Inm lab F k o))
  case atStart => exact ⟨Lib.hid rfl, k, HKN, rfl, rfl, Lib.hid (fun _ h => h)⟩
  case round =>
    obtain ⟨HW, y, HY, rfl, rfl, HI⟩ := hrel
    obtain rfl := HW.out
    have hyn := HY.out
    have c7 := (HK.out.cells hyn).2.2
    have hrow := HK.out.row y hyn
    obtain ⟨sa, cap, g, hv, _, _, hs, hc, _, _⟩ := own_open hrow
    rw [hv] at c7
    obtain ⟨l, hl⟩ : ∃ l, F.kids y = l := ⟨_, rfl⟩
    have hfew := HF.out.few y
    rw [hl] at c7 hs hc hfew
    have HL := Lib.hid (And.intro hl (And.intro hs hc))
    obtain ⟨LL, hLL⟩ : ∃ LL, l.length = LL := ⟨_, rfl⟩
    rw [hLL] at c7 hfew
    have HLL := Lib.hid hLL
    have hLI : LL ≤ 900000 := by omega
    clear hl hs hc hrow hv hLL hfew hyn
    go_wp2
    go_loopw [3, 4] (fun nv iv wr => ∃ i : Nat, i ≤ LL ∧ iv = .int .i64 (i : Int) ∧ Hid (w = wr) ∧ nv = lk ((elT lab l i).head?.map kn) ∧ Hid ((elT lab l i).length ≤ 1)) (fun _ iv _ => LL - (intOf iv).toNat)
    case atStart => exact ⟨0, by omega, by go_num, Lib.hid rfl, rfl, Lib.hid (Nat.zero_le _)⟩
    case round =>
      obtain ⟨i, hi, rfl, HW2, rfl, HE⟩ := hrel
      obtain rfl := HW2.out
      by_cases hlt : i < LL
      · have hiI : (i : Int) < (LL : Int) := by omega
        have hil : i < l.length := by rw [HLL.out]; exact hlt
        obtain rfl := HL.out.2.1 (by omega)
        have hci := HL.out.2.2 i hil
        have hel := elT_succ (lab := lab) hil
        obtain ⟨q, hq⟩ : ∃ q, l.getD i 0 = q := ⟨_, rfl⟩
        rw [hq] at hci hel
        have hqn : q < n := (HF.out.lt y q (by rw [HL.out.1, ← hq]; exact getD_mem' hil)).2
        have ck := (HK.out.node q hqn).cell (i := 1) (v := .int .i64 (lab q).kind) rfl
        obtain ⟨kd, hkd⟩ : ∃ kd, (lab q).kind = kd := ⟨_, rfl⟩
        rw [hkd] at ck hel
        by_cases hk3 : kd = 3
        · rw [if_pos hk3] at hel
          subst hk3
          cases hh : elT lab l i with
          | nil =>
            rw [hh] at hel
            have HEL := Lib.hid hel
            simp only [List.head?_nil, Option.map_none, lk_none]
            clear hel hq hkd hh
            go_wp2
            go_roundw
            case rel => exact ⟨i + 1, by omega, by go_num, Lib.hid (by trivial), by rw [HEL.out]; rfl, Lib.hid (by rw [HEL.out]; simp)⟩
            case measure => simp [intOf]; omega
          | cons a r =>
            have hmany : 2 ≤ (elK lab F y).length := by
              have h1 := elT_le (lab := lab) (l := l) (i + 1)
              rw [hel, hh] at h1
              unfold elK
              rw [HL.out.1]
              simp only [List.length_append, List.length_cons, List.length_nil] at h1
              omega
            have HR := Lib.hid (HI.out none (.many hmany))
            simp only [List.head?_cons, Option.map_some, lk_some]
            clear hel hq hkd hh hmany
            go_wp2
            go_ret
            exact ⟨none, HR.out, rfl, rfl⟩
        · rw [if_neg hk3, List.append_nil] at hel
          have HEL := Lib.hid hel
          have hk4 : (kd == 3) = false := by simp [hk3]
          clear hel hq hkd
          go_wp2
          go_roundw
          case rel => exact ⟨i + 1, by omega, by go_num, Lib.hid (by trivial), by rw [HEL.out], Lib.hid (by rw [HEL.out]; exact HE.out)⟩
          case measure => simp [intOf]; omega
      · obtain rfl : i = LL := by omega
        have hall : elT lab l i = elK lab F y := by
          unfold elT elK
          rw [List.take_of_length_le (by rw [HLL.out]; exact Nat.le_refl _), HL.out.1]
        cases hh : elT lab l i with
        | nil =>
          have HR := Lib.hid (HI.out (some y) (.stop (by rw [← hall]; exact hh)))
          simp only [List.head?_nil, Option.map_none, lk_none]
          clear hall hh
          go_wp2
          go_ret
          exact ⟨some y, HR.out, rfl, rfl⟩
        | cons a r =>
          have hr : r = [] := by
            have := HE.out
            rw [hh, List.length_cons] at this
            exact List.eq_nil_of_length_eq_zero (by omega)
          subst hr
          have hel : elK lab F y = [a] := by rw [← hall]; exact hh
          have hay : a ∈ F.kids y := elK_mem (lab := lab) (by rw [hel]; simp)
          have han := (HF.out.lt y a hay).2
          have hda := HD.out.2 y a ((HF.out.iff y a).1 hay)
          have hma := HD.out.1 a
          have HI2 : Hid (∀ o, Inm lab F a o → Inm lab F k o) := Lib.hid (fun o ho => HI.out o (.down hel ho))
          simp only [List.head?_cons, Option.map_some, lk_some]
          clear hall hh hel hay
          go_wp2
          go_roundg (M - d a)
          case measure => omega
          case rel => exact ⟨Lib.hid rfl, a, Lib.hid han, rfl, rfl, HI2⟩

end Go.Proofs.YtoleejaabiafcaaGreat

namespace Go.Proofs.YtoleejaabiafcaaGreat
open Go.RowKit
set_option linter.unusedVariables false
set_option linter.unusedSimpArgs false

theorem ownG_onlyK {B B1 : Nat} {w w' : World} {n : Nat} {kn : Nat → Nat} {kv av : Nat → Value} {pl : Nat → Int} {lab : Nat → NodeD} {F : Wd} (hK : Knots B w n kn kv av pl lab F) {e : TypeId} (hne : 93 ≠ e) {v : Value} {N : Nat} {xs : List Value} (h : w.ownsRow B1 e 1 v N xs) (ho : OnlyK n kn w w') : w'.ownsRow B1 e 1 v N xs :=
  ownsRow_kept h (fun q hq => ho.block q (World.ownsRow.lt h q hq).2 (fun i hi e => objAt_ne_own (hK.node i hi) h hne (by rw [hq, e])))
theorem ownG_keptF {B1 : Nat} {w w' : World} {f : Nat} {cs : Array Value} (hf : World.objAt w f cs 65) {e : TypeId} (hne : 65 ≠ e) {v : Value} {N : Nat} {xs : List Value} (h : w.ownsRow B1 e 1 v N xs) (hk : KeptF f w w') : w'.ownsRow B1 e 1 v N xs :=
  ownsRow_kept h (fun q hq => hk.block q (World.ownsRow.lt h q hq).2 (fun e => objAt_ne_own hf h hne (by rw [hq, e])))

/-- Groups of one node each. -/
structure GroupsK (w : World) (B0 : Nat) (gv : Value) (xs : List Nat) (kn : Nat → Nat) (k : Nat) (gb : Nat → Nat) : Prop where
  row : w.ownsRow B0 63 1 gv k ((List.range k).map fun q => .slice (some ⟨gb q, 0, none⟩) 1 1)
  each : ∀ q, q < k → w.ownsRow B0 66 1 (.slice (some ⟨gb q, 0, none⟩) 1 1) 1 [ptrV (kn (xs.getD q 0))]

theorem GroupsK.onlyK {B B0 : Nat} {w w' : World} {n : Nat} {kn kn0 : Nat → Nat} {kv av : Nat → Value} {pl : Nat → Int} {lab : Nat → NodeD} {F : Wd} {gv : Value} {xs : List Nat} {k : Nat} {gb : Nat → Nat} (h : GroupsK w B0 gv xs kn0 k gb) (hK : Knots B w n kn kv av pl lab F) (ho : OnlyK n kn w w') : GroupsK w' B0 gv xs kn0 k gb :=
  ⟨ownG_onlyK hK (by decide) h.row ho, fun q hq => ownG_onlyK hK (by decide) (h.each q hq) ho⟩
theorem GroupsK.keptF {B0 : Nat} {w w' : World} {f : Nat} {cs : Array Value} (hf : World.objAt w f cs 65) {kn0 : Nat → Nat} {gv : Value} {xs : List Nat} {k : Nat} {gb : Nat → Nat} (h : GroupsK w B0 gv xs kn0 k gb) (hk : KeptF f w w') : GroupsK w' B0 gv xs kn0 k gb :=
  ⟨ownG_keptF hf (by decide) h.row hk, fun q hq => ownG_keptF hf (by decide) (h.each q hq) hk⟩
theorem GroupsK.below {B0 : Nat} {w w' : World} {kn0 : Nat → Nat} {gv : Value} {xs : List Nat} {k : Nat} {gb : Nat → Nat} (h : GroupsK w B0 gv xs kn0 k gb) (hb : Below w.heap.size w w') : GroupsK w' B0 gv xs kn0 k gb :=
  ⟨ownsRow_kept h.row (fun b hb2 => hb.block b (World.ownsRow.lt h.row b hb2).2), fun q hq => ownsRow_kept (h.each q hq) (fun b hb2 => hb.block b (World.ownsRow.lt (h.each q hq) b hb2).2)⟩

theorem Tryz.infoKnotS : (Tryz.prog.info? 63).map (fun i => (i.zero, i.size, i.bytes)) = some (some (.slice none 0 0), 1, 24) := by kernel_rfl

/-- A new top put beneath an old node. -/
theorem put_new {m m2 : Nat} {G : Wd} (hG : WOk m2 G) (hm : m < m2) (hold : ∀ i, i < m → ∀ q, G.up i = some q → q < m) (hr : G.up m = none) {p : Nat} (hp : p < m) (i : Nat) : WOk m2 (G.put p i m) :=
  hG.put i (by omega) hm hr (fun ha => by
    have key : ∀ q, q < m → ∀ c, Anc G c q → c < m := fun q hq c hc => by
      induction hc with
      | refl => exact hq
      | @step a b hab _ ih => exact ih (hold a hq b hab)
    have := key p hp m ha
    omega)

/-- Ahead of the i-th node. -/
structure WrOut (n : Nat) (kn : Nat → Nat) (pl : Nat → Int) (lab : Nat → NodeD) (F : Wd) (wd : Nat) (xs L : List Nat) (i m : Nat) (kn' : Nat → Nat) (pl' : Nat → Int) (lab' : Nat → NodeD) (G : Wd) : Prop where
  old : ∀ q, q < n → kn' q = kn q ∧ pl' q = pl q
  new : ∀ q, n ≤ q → q < m → pl' q = -1
  mid : WrMid n F lab L (xs.drop i) m lab' G
  side : WrSide n F wd L (xs.drop i)
  exact : ∀ n2 lab2 G2, Wraps wd L n2 lab2 G2 (xs.drop i) m lab' G → Wraps wd L n2 lab2 G2 xs n lab F

def WrapKPost (B n : Nat) (kn : Nat → Nat) (pl : Nat → Int) (lab : Nat → NodeD) (F : Wd) (f len : Nat) (vf : Value) (wd : Nat) (xs : List Nat) (w : World) (e : Ending) (w' : World) : Prop :=
  (e = .returned (.bool false) ∧ Hid (Below B w w')) ∨
  (∃ m kn' kv' av' pl' lab' G L, e = .returned (.bool true) ∧ m ≤ 600 ∧ (∀ q, q < n → kn' q = kn q ∧ pl' q = pl q ∧ lab' q = lab q) ∧ (∀ q, n ≤ q → q < m → pl' q = -1) ∧ Fl F.kids [wd] L ∧ WrSide n F wd L xs ∧ (lab wd).kind = 3 ∧ Wraps wd L m lab' G xs n lab F ∧
    Hid (Knots B w' m kn' kv' av' pl' lab' G) ∧ Hid (ForestK B w' f vf len kn (m : Int) false) ∧ Hid (Below B w w')) ∨
  (e = .returned (.bool true) ∧ ∃ many, Hid (ForestK B w' f vf len kn many true) ∧ Hid (Below B w w'))

theorem drop_cons {xs : List Nat} {i : Nat} (h : i < xs.length) : xs.drop i = xs.getD i 0 :: xs.drop (i + 1) := by
  rw [List.drop_eq_getElem_cons h, List.getD_eq_getElem?_getD, List.getElem?_eq_getElem h]
  rfl

theorem row_at {w : World} {B : Nat} {e : TypeId} {a : Option Addr} {N cap : Nat} {xs : List Value} (h : w.ownsRow B e 1 (.slice a N cap) N xs) (hN : 0 < N) : ∃ g, a = some ⟨g, 0, none⟩ ∧ ∀ i u, xs[i]? = some u → w.cell? ⟨g, i, none⟩ = some u := by
  rcases h.2 with ⟨_, h2⟩ | ⟨g0, c0_, cur, hv_, _⟩
  · omega
  · simp only [Value.slice.injEq] at hv_
    obtain ⟨rfl, _⟩ := hv_
    refine ⟨g0, rfl, fun i u hu => ?_⟩
    have := h.cells (g := g0) rfl i u hu
    rwa [show (⟨g0, 0, none⟩ : Addr).add i = ⟨g0, i, none⟩ by unfold Addr.add; split <;> simp_all] at this

theorem get_slices {k i : Nat} (gb : Nat → Nat) (h : i < k) : ((List.range k).map fun q => Value.slice (some ⟨gb q, 0, none⟩) 1 1)[i]? = some (.slice (some ⟨gb i, 0, none⟩) 1 1) := by simp [h]

set_option maxRecDepth 100000 in
set_option maxHeartbeats 8000000 in
theorem wrapK_any {B Bx : Nat} {w : World} {n : Nat} {kn : Nat → Nat} {kv av : Nat → Value} {pl : Nat → Int} {lab : Nat → NodeD} {F : Wd} {f len : Nat} {vf : Value} (h : Knots B w n kn kv av pl lab F) (hF : WOk n F) (hFo : ForestK B w f vf len kn (n : Int) (decide (600 < n))) (hn : n ≤ 600) (xs : List Nat) (hxs : ∀ x ∈ xs, x < n) (hnd : xs.Nodup) (hxl : xs.length ≤ 600) (ax : Option Addr) (cx : Nat) (hrx : w.ownsRow Bx 66 1 (.slice ax xs.length cx) xs.length (xs.map fun y => ptrV (kn y))) {wd : Nat} (hwd : wd < n)
    (hfit : ∀ y, y < n → (lab y).attrs.length ≤ 100 ∧ ∀ z ∈ (lab y).attrs, z.1.size ≤ maxLen ∧ z.2.size ≤ maxLen) :
    Calls Tryz.prog 47 #[.pointer (some ⟨f, 0, none⟩), .int .i64 9, .slice ax xs.length cx, .pointer (some ⟨kn wd, 0, none⟩)] w (WrapKPost B n kn pl lab F f len vf wd xs w) := by
  obtain ⟨i0, hi, hz0, hz1, hz2⟩ := info_parts Tryz.infoKnotP
  obtain ⟨j0, hj, hy0, hy1, hy2⟩ := info_parts Tryz.infoKnotS
  have hBw : B ≤ w.heap.size := Nat.le_trans hFo.base (Nat.le_of_lt hFo.obj.lt)
  have c1 := (h.node wd hwd).cell (i := 1) (v := .int .i64 (lab wd).kind) rfl
  obtain ⟨kd, hkd⟩ : ∃ kd, (lab wd).kind = kd := ⟨_, rfl⟩
  rw [hkd] at c1
  have hin := inmost_any h hF (by omega) hwd
  obtain ⟨ax', cx', gx, hvx, hkx⟩ := krow_of hrx
  simp only [Value.slice.injEq] at hvx
  obtain ⟨rfl, _, rfl⟩ := hvx
  have HIN := Lib.hid hin
  have hb0 : Below w.heap.size w (w.alloc (.cells #[.pointer (some ⟨kn wd, 0, none⟩)] 66)) := (Below.refl _ _).alloc (Nat.le_refl _) _
  have hK0 := h.below hb0
  have hkw : KRow (w.alloc (.cells #[.pointer (some ⟨kn wd, 0, none⟩)] 66)) (some ⟨w.heap.size, 0, none⟩) w.heap.size kn [wd] := ⟨fun _ => rfl, fun i hi => by
    obtain rfl : i = 0 := by simpa using hi
    exact cell_alloc_new' _ _ _ rfl rfl⟩
  have hap := apartK_any hK0 hF (some ⟨w.heap.size, 0, none⟩) w.heap.size 1 [wd] ax gx cx xs hkw (hkx.below hb0) (fun i hi => by simp at hi; omega) hxs (by simp) hxl
  have HAP := Lib.hid hap
  have H := Lib.hid hK0
  have HF := Lib.hid hF
  have HFO := Lib.hid (hFo.below hb0)
  have HRX := Lib.hid (World.ownsRow.alloc hrx (.cells #[.pointer (some ⟨kn wd, 0, none⟩)] 66))
  have HKX := Lib.hid (hkx.below hb0)
  have HB0 := Lib.hid (hb0.mono hBw)
  have HWS := Lib.hid (And.intro hxs (And.intro hnd (And.intro hwd (And.intro hfit hkd))))
  clear h hF hFo hrx hxs hnd hwd hfit hin hkd hap hkx hkw hb0 hK0
  obtain ⟨XL, hXL⟩ : ∃ XL, xs.length = XL := ⟨_, rfl⟩
  have HXL := Lib.hid hXL
  rw [hXL] at hxl HAP ⊢
  clear hXL
  go_enter Tryz.func47, Tryz.ntmps47
  by_cases hk3 : kd = 3
  rotate_left
  · have hk4 : (kd != 3) = true := by simp [hk3]
    go_wp2
    go_ret
    exact .inl ⟨rfl, Lib.hid (Below.refl _ _)⟩
  subst hk3
  go_wp2_with fail
  refine HIN.out.mono ?_
  rintro e w1 ⟨o, ho, rfl, rfl⟩
  cases o with
  | none =>
    simp only [Option.map_none, lk_none]
    go_wp2
    go_ret
    exact .inl ⟨rfl, Lib.hid (Below.refl _ _)⟩
  | some z0 =>
  simp only [Option.map_some, lk_some]
  have HZ0 := Lib.hid ho
  clear ho HIN
  obtain ⟨wA, hwA⟩ : ∃ wA, w.alloc (.cells #[.pointer (some ⟨kn wd, 0, none⟩)] 66) = wA := ⟨_, rfl⟩
  rw [hwA] at HAP H HFO HRX HKX HB0
  go_wp2_with fail
  refine HAP.out.mono ?_
  rintro e w1 ⟨b1, rfl, hb1, hbel1⟩
  have hwAs := HB0.out.size
  have HB1 := Lib.hid (HB0.out.trans (hbel1.out.mono (by omega)))
  cases b1
  · clear hb1 hbel1
    go_wp2
    go_ret
    exact .inl ⟨rfl, HB1⟩
  have HAW := Lib.hid (hb1 rfl)
  have hK1 := H.out.below hbel1.out
  have hg := standK_any hK1 ax gx cx xs (HKX.out.below hbel1.out) HWS.out.1 (by rw [HXL.out]; exact hxl)
  rw [HXL.out] at hg
  have HGC := Lib.hid hg
  have HK1 := Lib.hid hK1
  have HFO1 := Lib.hid (HFO.out.below hbel1.out)
  have HRX1 := Lib.hid (ownsRow_kept HRX.out (fun k hk => hbel1.out.block k (World.ownsRow.lt HRX.out k hk).2))
  have HKX1 := Lib.hid (HKX.out.below hbel1.out)
  clear hb1 hbel1 hg hK1 HAP H HFO HRX HKX HB0 c1 hwA hwAs
  go_wp2_with fail
  refine HGC.out.mono ?_
  rintro e w2 ⟨b2, rfl, hb2, rfl⟩
  cases b2
  · clear hb2
    go_wp2
    go_ret
    exact .inl ⟨rfl, HB1⟩
  have HG := Lib.hid (hb2 rfl)
  have hbs1 := HB1.out.size
  clear hb2 HGC
  have HSTART := Lib.hid (show Below w1.heap.size w1 (w1.alloc (.cells #[.slice ax XL cx] 63)) from (Below.refl _ _).alloc (Nat.le_refl _) _)
  go_wp2
  go_loopw [9, 10] (fun gv iv wr => ∃ (k : Nat) (gb : Nat → Nat), k ≤ XL ∧ iv = .int .i64 (k : Int) ∧ Hid (Below w1.heap.size w1 wr) ∧ Hid (GroupsK wr w1.heap.size gv xs kn k gb)) (fun _ iv _ => XL - (intOf iv).toNat)
  case atStart => exact ⟨0, fun _ => 0, by omega, by go_num, HSTART, Lib.hid ⟨World.ownsRow_nil _ _ _ _, fun q hq => by omega⟩⟩
  case round =>
    obtain ⟨k, gb, hk, rfl, HBr, HGr⟩ := hrel
    obtain ⟨ga, gc, rfl⟩ := ownsRow_slice HGr.out.row
    by_cases hlt : k < XL
    · have hkI : (k : Int) < (XL : Int) := by omega
      have hkx := HKX1.out.below HBr.out
      obtain rfl := hkx.1 (by rw [HXL.out]; omega)
      have ck := hkx.2 k (by rw [HXL.out]; exact hlt)
      obtain ⟨x, hx⟩ : ∃ x, xs.getD k 0 = x := ⟨_, rfl⟩
      rw [hx] at ck
      have HX := Lib.hid hx
      obtain ⟨X1, hX1⟩ : ∃ X1, wr.alloc (.cells #[.pointer (some ⟨kn x, 0, none⟩)] 66) = X1 := ⟨_, rfl⟩
      have hs1 : X1.heap.size = wr.heap.size + 1 := by rw [← hX1]; simp
      have hbX : Below wr.heap.size wr X1 := by rw [← hX1]; exact (Below.refl _ _).alloc (Nat.le_refl _) _
      have hbrs := HBr.out.size
      have hone : X1.ownsRow w1.heap.size 66 1 (.slice (some ⟨wr.heap.size, 0, none⟩) 1 1) 1 [ptrV (kn x)] := by
        refine ⟨rfl, .inr ⟨wr.heap.size, 1, #[.pointer (some ⟨kn x, 0, none⟩)], rfl, hbrs, ?_, Nat.le_refl _, by unfold maxLen; omega, rfl, rfl⟩⟩
        rw [← hX1]
        exact heap_alloc_new wr _
      have hown2 := World.ownsRow.alloc (HGr.out.below hbX).row (.cells #[.slice (some ⟨wr.heap.size, 0, none⟩) 1 1] 63)
      have hnews : ∀ j u, [Value.slice (some ⟨wr.heap.size, 0, none⟩) 1 1][j]? = some u → (X1.alloc (.cells #[.slice (some ⟨wr.heap.size, 0, none⟩) 1 1] 63)).cell? ((⟨wr.heap.size + 1, 0, none⟩ : Addr).add j) = some u := by
        rw [← hs1]
        exact World.news_of_block (cs := #[.slice (some ⟨wr.heap.size, 0, none⟩) 1 1]) (t := 63) (fr := (0, 0)) (heap_alloc_new X1 _)
      have HONE := Lib.hid hone
      have HOA := Lib.hid hown2
      have HNEWS := Lib.hid hnews
      have HBX := Lib.hid (And.intro hbX hX1)
      clear hkx hx hone hown2 hnews hbX
      go_wp2_with (at_builtin; refine wpList_append_lies _ rfl _ _ 119 rfl w1.heap.size 63 j0 (.slice none 0 0) 1 24 Tryz.underlying119 hj hy0 hy1 hy2 rfl (by decide) (.slice ga k gc) k ((List.range k).map fun q => .slice (some ⟨gb q, 0, none⟩) 1 1) rfl HOA.out ⟨wr.heap.size + 1, 0, none⟩ 1 1 [.slice (some ⟨wr.heap.size, 0, none⟩) 1 1] rfl rfl HNEWS.out (by simp [Value.oneCell']) (by omega) (by unfold maxLen; omega) (by omega) (by simp; omega) _ rfl ?_)
      intro g6 cap6 w6 hown6 hgrow6 hat6 hlt6
      have hsz6 : X1.heap.size + 1 ≤ w6.heap.size := by have := hgrow6.size; simpa using this
      have hfar : ∀ b, b < X1.heap.size → some b ≠ (Value.slice ga k gc).ownBlock → w6.heap[b]? = X1.heap[b]? := fun b hb hne => by
        rw [hgrow6.block b (by simp; omega) hne]
        exact Below.heap_alloc X1 _ b hb
      have hb16 : Below w1.heap.size w1 w6 := ((HBr.out.trans (HBX.out.1.mono hbrs)).trans ((Below.refl _ _).alloc (by omega) _)).grown hgrow6 (by simp; omega) (fun q hq => (World.ownsRow.lt HGr.out.row q hq).1)
      have hgx : ∀ (v : Value) (N : Nat) (ys : List Value), X1.ownsRow w1.heap.size 66 1 v N ys → w6.ownsRow w1.heap.size 66 1 v N ys := fun v N ys ho =>
        ownsRow_kept ho (fun b hb => hfar b (World.ownsRow.lt ho b hb).2 (fun e => own_ne_own ho (HGr.out.below HBX.out.1).row (by decide) hb e.symm))
      have hgk : GroupsK w6 w1.heap.size (.slice (some ⟨g6, 0, none⟩) (k + 1) cap6) xs kn (k + 1) (upd gb k wr.heap.size) := by
        refine ⟨?_, fun q hq => ?_⟩
        · rw [List.range_succ, List.map_append, List.map_cons, List.map_nil, upd_same]
          have e : ((List.range k).map fun q => Value.slice (some ⟨upd gb k wr.heap.size q, 0, none⟩) 1 1) = (List.range k).map fun q => .slice (some ⟨gb q, 0, none⟩) 1 1 := List.map_congr_left (fun q hq => by rw [upd_other _ _ (by have := List.mem_range.1 hq; omega)])
          rw [e]
          exact hown6
        · by_cases e : q = k
          · subst e
            rw [upd_same, HX.out]
            exact hgx _ _ _ HONE.out
          · rw [upd_other _ _ e]
            exact hgx _ _ _ ((HGr.out.below HBX.out.1).each q (by omega))
      have HGK := Lib.hid hgk
      have HB16 := Lib.hid hb16
      clear hgk hb16 hgx hfar hown6 hgrow6 hat6 hlt6 HONE HOA HNEWS
      go_wp2
      refine ⟨?rel, ?measure⟩
      case rel => exact ⟨k + 1, _, by omega, by go_num, HB16, HGK⟩
      case measure => simp [intOf]; omega
    · obtain rfl : k = XL := by omega
      have hF := HF.out
      obtain ⟨L, hL⟩ := hF.flat wd
      have hcp := cpOk_of hF hL (lone_one F wd) (fun z hz => by simp at hz; subst hz; exact HWS.out.2.2.1)
      have hLn : L.length ≤ n := nodup_len n L hcp.nd hcp.lt
      have hanx : ∀ x ∈ xs, ¬ Anc F wd x := fun x hx => by
        obtain ⟨i, hi, rfl⟩ := List.getElem_of_mem hx
        have := HAW.out.on 0 i (by simp) hi
        simpa [List.getD, hi] using this
      have hside : WrSide n F wd L xs := by
        refine ⟨hF, hcp, hL.head, HWS.out.2.1, fun x hx => ⟨HWS.out.1 x hx, fun hm => ?_, ?_⟩⟩
        · obtain ⟨q, hq, ha⟩ := (hL.anc hF x).1 hm
          simp at hq
          subst hq
          exact hanx x hx ha
        · obtain ⟨i, hi, rfl⟩ := List.getElem_of_mem hx
          obtain ⟨p, hp⟩ := HG.out i (by rw [← HXL.out]; exact hi)
          simp only [List.getD, List.getElem?_eq_getElem hi, Option.getD_some] at hp
          refine ⟨p, hp, fun hm => ?_⟩
          obtain ⟨q, hq, ha⟩ := (hL.anc hF p).1 hm
          simp at hq
          subst hq
          exact hanx _ hx (.step hp ha)
      have hsub : ∀ x ∈ L, ∀ y ∈ F.kids x, y ∈ L := fun x hx y hy => (hcp.sub x hx y hy).1
      have hzL := HZ0.out.mem hsub (hcp.ws wd (by simp)) z0 rfl
      have hst : WrOut n kn pl lab F wd xs L 0 n kn pl lab F := ⟨fun _ _ => ⟨rfl, rfl⟩, fun q h1 h2 => by omega, ⟨hF, Nat.le_refl _, fun _ _ _ => rfl, fun _ _ => rfl, fun _ _ => rfl⟩, by rw [List.drop_zero]; exact hside, fun n2 lab2 G2 hh => by rwa [List.drop_zero] at hh⟩
      have hKr := HK1.out.below HBr.out
      have hFr := HFO1.out.below HBr.out
      have HST := Lib.hid hst
      have HKs := Lib.hid hKr
      have HFs := Lib.hid hFr
      have HLL := Lib.hid (And.intro hL (And.intro hcp (And.intro hside (And.intro hsub hzL))))
      have HBs := Lib.hid (HB1.out.trans (HBr.out.mono (Nat.le_trans hBw hbs1)))
      clear hF hL hcp hanx hside hsub hzL hst hKr hFr HAW HG HKX1 HRX1 HFO1 HK1 hlt
      go_wp2
      go_loopw [11] (fun iv wq => ∃ (i m : Nat) (kn' : Nat → Nat) (kv' av' : Nat → Value) (pl' : Nat → Int) (lab' : Nat → NodeD) (G : Wd), i ≤ k ∧ iv = .int .i64 (i : Int) ∧ Hid (m ≤ 600) ∧ Hid (ForestK B wq f vf len kn (m : Int) (decide (600 < m))) ∧ Hid (Below B w wq) ∧ Hid (Knots B wq m kn' kv' av' pl' lab' G) ∧ Hid (WrOut n kn pl lab F wd xs L i m kn' pl' lab' G) ∧ Hid (GroupsK wq w1.heap.size (.slice ga k gc) xs kn k gb) ∧ Hid (w1.heap.size ≤ wq.heap.size)) (fun iv _ => k - (intOf iv).toNat)
      case atStart => exact ⟨0, n, kn, _, av, pl, lab, F, by omega, by go_num, Lib.hid hn, HFs, HBs, HKs, HST, HGr, Lib.hid HBr.out.size⟩
      case round =>
        clear HST HFs HBs HKs
        obtain ⟨i, m, kn', kv', av', pl', lab', G, hik, rfl, HM6, HFm, HBm, HKm, HOm, HGm, HSm⟩ := hrel
        by_cases hlt : i < k
        · have hltx : i < xs.length := by rw [HXL.out]; exact hlt
          have hiI : (i : Int) < (k : Int) := by omega
          have hdc := drop_cons hltx
          obtain ⟨x, hx⟩ : ∃ x, xs.getD i 0 = x := ⟨_, rfl⟩
          rw [hx] at hdc
          have hmid := HOm.out.mid
          have hside := HOm.out.side
          rw [hdc] at hmid hside
          obtain ⟨hxn, hxL, p, hup, hpL⟩ := hside.xin x (by simp)
          have hupG : G.up x = some p := by rw [hmid.up x hxn (.inl (by simp))]; exact hup
          obtain ⟨A, Bk, hkp⟩ := List.append_of_mem ((hmid.ok.iff p x).2 hupG)
          have hpn := (HF.out.lt p x ((HF.out.iff p x).2 hup)).1
          have hnm := hmid.le
          have hwn := HWS.out.2.2.1
          have hin2 : Inm lab' G wd (some z0) := HZ0.out.congr HLL.out.2.2.2.1 hmid.tree (fun y hy => hmid.lab y (HLL.out.2.1.lt y hy)) (HLL.out.2.1.ws wd (by simp))
          have hLn : L.length ≤ n := nodup_len n L HLL.out.2.1.nd HLL.out.2.1.lt
          have hcall := fun (w' : World) (hb : Below wr.heap.size wr w') => copied_any L.length B w' f len vf kn m kn' kv' av' pl' lab' G wd L (HKm.out.below hb) hmid.ok (HFm.out.below hb) (by omega) (HLL.out.1.congr hmid.tree) (Nat.le_refl _) (fun y hy => by
            have h1 := HLL.out.2.1.lt y hy
            rw [hmid.lab y h1]
            exact HWS.out.2.2.2.1 y h1) (by have := HM6.out; omega)
          rw [(HOm.out.old wd hwn).1] at hcall
          have hgrow := HGm.out.row
          obtain ⟨gg, hcg2, hcg0⟩ := row_at hgrow (by omega)
          have hcg1 := hcg0 i _ (get_slices gb hlt)
          have hcx : wr.cell? ⟨gb i, 0, none⟩ = some (.pointer (some ⟨kn x, 0, none⟩)) := by
            have h1 := HGm.out.each i hlt
            rw [hx] at h1
            obtain ⟨g9, e9, h9⟩ := row_at h1 (by omega)
            simp only [Option.some.injEq, Addr.mk.injEq] at e9
            rw [e9.1]
            exact h9 0 _ rfl
          have hrowx : Row (wr.alloc (.cells #[] 66)) (some ⟨gb i, 0, none⟩) 1 [ptrV (kn x)] := ⟨rfl, by unfold maxLen; omega, fun _ => ⟨gb i, 0, rfl, fun j hj => by
            obtain rfl : j = 0 := by omega
            exact cell_alloc_old hcx _⟩⟩
          have HROWX := Lib.hid hrowx
          have HCALL := Lib.hid hcall
          have HMID := Lib.hid (And.intro hmid (And.intro hside (And.intro hdc hx)))
          have HPX := Lib.hid (And.intro hupG (And.intro hkp (And.intro hxL (And.intro hpL hin2))))
          have HNN := Lib.hid (And.intro hxn (And.intro hpn (And.intro hnm (And.intro hwn hLn))))
          have hcg1' := cell_alloc_old hcg1 (.cells #[] 66)
          clear hmid hside hdc hx hup hupG hkp hxL hpL hin2 hcall hgrow hcg0 hcx hrowx hxn hpn hnm hwn hLn hltx
          subst hcg2
          have hBwr : B ≤ wr.heap.size := Nat.le_trans HFm.out.base (Nat.le_of_lt HFm.out.obj.lt)
          go_wp2_with (at_builtin; refine wpList_append_reads rfl _ _ 63 rfl wr.heap.size 66 i0 (.pointer none) 8 Tryz.underlying63 hi hz0 hz1 hz2 rfl (some ⟨wr.heap.size, 0, none⟩) 0 0 [] rfl (owns_empty wr wr.heap.size (Nat.le_refl _) _) (some ⟨gb i, 0, none⟩) 1 1 [ptrV (kn x)] rfl HROWX.out (by intro u hu; simp at hu; subst hu; rfl) (by unfold maxLen; omega) (by omega) (by simp) ?_)
          intro b2 c2 w3 hown3 hgrow3
          (try rw [Nat.zero_add, List.nil_append] at hown3)
          have hb3 : Below wr.heap.size wr w3 := ((Below.refl _ _).alloc (Nat.le_refl _) _).grown hgrow3 (by simp) (fun q hq => by simp [Value.ownBlock] at hq; omega)
          obtain ⟨gl, rfl⟩ : ∃ gl, b2 = some ⟨gl, 0, none⟩ := by
            rcases hown3.2 with ⟨_, h2⟩ | ⟨g0, c0_, cur, hv_, _⟩
            · simp at h2
            · simp at hv_; exact ⟨g0, hv_.1⟩
          have HL3 := Lib.hid (show w3.ownsRow wr.heap.size 66 1 (.slice (some ⟨gl, 0, none⟩) 1 c2) 1 [ptrV (kn x)] by simpa using hown3)
          have HB3 := Lib.hid hb3
          clear hown3 hgrow3 hb3 hcg1 hcg1' HROWX
          obtain ⟨wo, hwo⟩ : ∃ wo, wo = wr := ⟨_, rfl⟩
          subst hwo
          go_wp2
          go_loopw [13] (fun av wq => ∃ q : Nat, q ≤ 1 ∧ av = .int .i64 (q : Int) ∧ Hid (Below w3.heap.size w3 wq)) (fun av _ => 1 - (intOf av).toNat)
          case atStart => exact ⟨0, by omega, by go_num, Lib.hid (Below.refl _ _)⟩
          case round =>
            obtain ⟨q, hq, rfl, HBq⟩ := hrel
            rcases (show q = 0 ∨ q = 1 by omega) with rfl | rfl
            · go_wp2
              go_loopw [14] (fun av wq => ∃ q : Nat, q ≤ 1 ∧ av = .int .i64 (q : Int) ∧ Hid (Below w3.heap.size w3 wq)) (fun av _ => 1 - (intOf av).toNat)
              case atStart => exact ⟨0, by omega, by go_num, HBq⟩
              case round =>
                obtain ⟨q, hq, rfl, HBq⟩ := hrel
                rcases (show q = 0 ∨ q = 1 by omega) with rfl | rfl
                · go_wp2
                  go_quiet (fail)
                  go_wp2
                  refine ⟨⟨1, by omega, by go_num, Lib.hid (below_drewN HBq.out _)⟩, by simp [intOf]⟩
                · go_wp2
                  refine ⟨?rel, ?measure⟩
                  case rel => exact ⟨1, by omega, by go_num, HBq⟩
                  case measure => simp [intOf]
            · have hb3 := HB3.out
              obtain ⟨w4, hw4⟩ : ∃ w4, w4 = wr := ⟨_, rfl⟩
              subst hw4
              have hb34 : Below wo.heap.size wo w4 := hb3.trans (HBq.out.mono hb3.size)
              have hcal4 := HCALL.out w4 hb34
              have HK4 := Lib.hid (HKm.out.below hb34)
              have HF4 := Lib.hid (HFm.out.below hb34)
              have HG4 := Lib.hid (HGm.out.below hb34)
              have HB4 := Lib.hid (HBm.out.trans (hb34.mono hBwr))
              have HL4 := Lib.hid (ownsRow_kept HL3.out (fun b hb => HBq.out.block b (World.ownsRow.lt HL3.out b hb).2))
              have HS4 := Lib.hid (Nat.le_trans HSm.out hb34.size)
              have HCL := Lib.hid hcal4
              clear hb3 hb34 hcal4 HCALL HKm HFm HGm HBm HL3 HB3 HBq hBwr
              go_wp2_with fail
              refine HCL.out.mono ?_
              rintro e w5 ⟨m2, kn2, kv2, av2, pl2, lab2, G2, rfl, HC2, HK2, HF2, HKF2⟩
              have hfo := HF4.out.obj
              have hgx5 := GroupsK.keptF hfo HG4.out HKF2.out
              have hl5 := ownG_keptF hfo (by decide) HL4.out HKF2.out
              have hbw4 : B ≤ w4.heap.size := Nat.le_trans HF4.out.base (Nat.le_of_lt hfo.lt)
              have hb5 := HB4.out.trans (HKF2.out.below B hbw4 HF4.out.base)
              obtain ⟨g9, e9, h9⟩ := row_at hl5 (by omega)
              simp only [Option.some.injEq, Addr.mk.injEq] at e9
              have hcl : w5.cell? ⟨gl, 0, none⟩ = some (.pointer (some ⟨kn x, 0, none⟩)) := by rw [e9.1]; exact h9 0 _ rfl
              obtain ⟨hxn, hpn, hnm, hwn, hLn⟩ := HNN.out
              obtain ⟨hupG, hkp, hxL, hpL, hin2⟩ := HPX.out
              have hm2 := HC2.out.lo
              have hmid := HMID.out.1
              have hkx2 : kn2 x = kn x := by rw [(HC2.out.old x (by omega)).1]; exact (HOm.out.old x hxn).1
              have hkp2 : G2.kids p = A ++ x :: Bk := by rw [(HC2.out.oldF p (by omega)).1]; exact hkp
              have hup2 : G2.up x = some p := by rw [(HC2.out.oldF x (by omega)).2]; exact hupG
              have c6x := (HK2.out.cells (show x < m2 by omega)).2.1
              rw [hkx2, hup2, Option.map_some, lk_some] at c6x
              have hpl : ∀ w', Below w5.heap.size w5 w' → Calls Tryz.prog 70 #[.pointer (some ⟨kn x, 0, none⟩)] w' (KIntPost (A.length : Int) w') := fun w' hb => by
                have := place_some (HK2.out.below hb) HC2.out.ok hkp2
                rwa [hkx2] at this
              have hlen2 : (G2.kids p).length ≤ 1000000 := Nat.le_trans (HC2.out.ok.few p) (by have := HC2.out.hi; have := HM6.out; omega)
              have hpt : ∀ w', Below w5.heap.size w5 w' → Calls Tryz.prog 71 #[.pointer (some ⟨kn2 p, 0, none⟩), .int .i64 (A.length : Int), .pointer (some ⟨kn2 m, 0, none⟩)] w' (TurnKPost B m2 kn2 av2 pl2 lab2 (G2.put p A.length m) w') := fun w' hb =>
                putK_any (HK2.out.below hb) (show p < m2 by omega) hm2 (by omega) HC2.out.root A (x :: Bk) hkp2 hlen2
              have HPL := Lib.hid hpl
              have HPT := Lib.hid hpt
              have H5 := Lib.hid (And.intro hgx5 (And.intro hl5 hb5))
              clear hpl hpt hgx5 hl5 hb5 hfo e9 h9 hlen2 hup2 hkp2 hkx2 HCL hxn hpn hnm hwn hLn hupG hkp hxL hpL hin2 hmid HL4 HG4 HB4 HK4 HF4
              go_wp2
              go_region_with (first
                | (go_at_call 70; refine (HPL.out _ (by first | exact Below.refl _ _ | exact (Below.refl _ _).drew)).mono ?_; rintro e w' ⟨rfl, rfl⟩)
                | (go_at_call 71; refine (HPT.out _ (by first | exact Below.refl _ _ | exact (Below.refl _ _).drew)).mono ?_; rintro e w' ⟨kv6, rfl, hk6, ho6⟩))
              all_goals
                have ho5 : OnlyK m2 kn2 w5 w' := (OnlyK.of_below (by first | exact Below.refl _ _ | exact (Below.refl _ _).drew)).trans ho6.out
                have hBw5 : B ≤ w5.heap.size := Nat.le_trans hbw4 HKF2.out.size
                have hf6 := HF2.out.turn HK2.out ho5
                have hg6 := H5.out.1.onlyK HK2.out ho5
                have hl6 := ownG_onlyK HK2.out (by decide) H5.out.2.1 ho5
                have hb6 := H5.out.2.2.trans (ho5.below B hBw5 HK2.out.base)
                have hs6 : w1.heap.size ≤ w'.heap.size := Nat.le_trans (Nat.le_trans HS4.out HKF2.out.size) ho5.size
                have hold : ∀ i, i < m → ∀ q, G2.up i = some q → q < m := fun i hi q hq => by
                  rw [(HC2.out.oldF i hi).2] at hq
                  exact (HMID.out.1.ok.lt q i ((HMID.out.1.ok.iff q i).2 hq)).1
                have hwok := put_new HC2.out.ok hm2 hold HC2.out.root (p := p) (by have := HNN.out.2.1; have := HNN.out.2.2.1; omega) A.length
                have hm2b : m2 ≤ 900000 := by have := HC2.out.hi; have := HM6.out; have := HNN.out.2.2.2.2; omega
                have him := inmost_any hk6.out hwok hm2b hm2
                have o2 := hf6.obj.cell (i := 2) (v := .bool (decide (600 < m2))) rfl
                obtain ⟨g9, e9, h9⟩ := row_at hl6 (by omega)
                simp only [Option.some.injEq, Addr.mk.injEq] at e9
                have hcl6 : w'.cell? ⟨gl, 0, none⟩ = some (.pointer (some ⟨kn x, 0, none⟩)) := by rw [e9.1]; exact h9 0 _ rfl
                have HIM := Lib.hid him
                have H6 := Lib.hid (And.intro hf6 (And.intro hg6 (And.intro hb6 (And.intro hs6 (And.intro hwok hm2b)))))
                clear hcl c6x ho5 hf6 hg6 hl6 hb6 hs6 hold hwok him e9 h9 HPL HPT H5 ho6 hm2b
                go_wp2_with fail
                refine HIM.out.mono ?_
                rintro e w7 ⟨o, ho, rfl, rfl⟩
                cases hop : decide (600 < m2)
                rotate_left
                · rw [hop] at o2
                  have hf9 := H6.out.1
                  rw [hop] at hf9
                  have HF9 := Lib.hid hf9
                  have HB9 := Lib.hid H6.out.2.2.1
                  clear hop hf9
                  cases o
                  · simp only [Option.map_none, lk_none]
                    go_wp2
                    go_ret
                    exact .inr (.inr ⟨rfl, _, HF9, HB9⟩)
                  · simp only [Option.map_some, lk_some]
                    go_wp2
                    go_ret
                    exact .inr (.inr ⟨rfl, _, HF9, HB9⟩)
                rw [hop] at o2
                have h26 : m2 ≤ 600 := by simpa using hop
                obtain ⟨e1, e2, e3⟩ := HC2.out.exact h26
                have hlabs : ∀ i, i < m → lab2 i = lab' i := fun i hi => (HC2.out.old i hi).2.2.2.2
                obtain ⟨hwo_, hmid2, hside2⟩ := HMID.out.1.step HMID.out.2.1 HPX.out.1 HPX.out.2.1 HLL.out.2.2.2.2 hlabs
                have hcpG := HMID.out.1.cp HLL.out.2.1
                have hwL := HLL.out.2.1.ws wd (by simp)
                have hz0L := HLL.out.2.2.2.2
                have hix0 : ix L wd = 0 := by
                  have := HLL.out.1.head
                  cases hLc : L with
                  | nil => rw [hLc] at this; cases this
                  | cons a r => rw [hLc] at this; simp at this; simp [ix, this]
                have hpm : p < m := by have := HNN.out.2.1; have := HNN.out.2.2.1; omega
                have hinm : Inm lab2 (G2.put p A.length m) m (some (m + ix L z0)) := by
                  have h1 := HPX.out.2.2.2.2.copy hcpG e3 hwL
                  rw [hix0, Nat.add_zero, ← e2] at h1
                  refine h1.congr (L := L.map fun y => m + ix L y) (fun a ha b hb => ?_) (fun a ha => ?_) (fun _ _ => rfl) (List.mem_map.2 ⟨wd, hwL, by rw [hix0]; rfl⟩)
                  · obtain ⟨y, hy, rfl⟩ := List.mem_map.1 ha
                    rw [e2, (cp_new hy).1] at hb
                    obtain ⟨c, hc, rfl⟩ := List.mem_map.1 hb
                    exact List.mem_map.2 ⟨c, (hcpG.sub y hy c hc).1, rfl⟩
                  · obtain ⟨y, hy, rfl⟩ := List.mem_map.1 ha
                    simp only [Wd.put]
                    rw [if_neg (by omega)]
                obtain rfl := hinm.det ho
                simp only [Option.map_some, lk_some]
                obtain ⟨to, hto⟩ : ∃ to, m + ix L z0 = to := ⟨_, rfl⟩
                rw [hto]
                have htom : to < m2 := by rw [← hto, e1]; exact hwo_.to
                have hkz : (G2.put p A.length m).kids to = (G.kids z0).map fun y => m + ix L y := by rw [e2, ← hto]; exact hwo_.kz2
                have hkz3 : ((G2.put p A.length m).cut x).kids to = ((G.kids z0).map fun y => m + ix L y) ++ [] := by rw [List.append_nil, e2, ← hto]; exact hwo_.kz3
                have hup2 : (G2.put p A.length m).up x = some p := by rw [e2]; exact hwo_.up2
                have hxto : x ≠ to := by rw [← hto]; exact hwo_.ne
                have hxm2 : x < m2 := by have := HNN.out.1; have := HNN.out.2.2.1; omega
                have ct7 := (hk6.out.cells htom).2.2
                obtain ⟨ta, tc, htv⟩ := ownsRow_slice (hk6.out.row to htom)
                rw [hkz, List.length_map] at htv
                rw [htv] at ct7
                obtain ⟨LL, hLL⟩ : ∃ LL, (G.kids z0).length = LL := ⟨_, rfl⟩
                rw [hLL] at ct7
                have hLLb : LL ≤ 1000000 := by rw [← hLL]; have := HMID.out.1.ok.few z0; have := HM6.out; omega
                have hkx2 : kn2 x = kn x := by rw [(HC2.out.old x (by have := HNN.out.1; have := HNN.out.2.2.1; omega)).1]; exact (HOm.out.old x HNN.out.1).1
                have hfinal : ((G2.put p A.length m).cut x).put to LL x = wrap1 G m L wd p A x z0 := by rw [e2, ← hto, ← hLL]; rfl
                have hpt2 : ∀ w9, Below w'.heap.size w' w9 → Calls Tryz.prog 71 #[.pointer (some ⟨kn2 to, 0, none⟩), .int .i64 (LL : Int), .pointer (some ⟨kn x, 0, none⟩)] w9 (TurnKPost B m2 kn2 av2 pl2 lab2 (wrap1 G m L wd p A x z0) w9) := fun w9 hb => by
                  have h1 := putK_more (hk6.out.below hb) H6.out.2.2.2.2.1 H6.out.2.2.2.2.2 (x := x) (p := to) (q := p) htom hxm2 hxto hup2 _ [] hkz3 (m := LL) (by rw [List.length_map]; exact hLL)
                  rwa [hkx2, hfinal] at h1
                have hout : WrOut n kn pl lab F wd xs L (i + 1) m2 kn2 pl2 lab2 (wrap1 G m L wd p A x z0) := by
                  refine ⟨fun q hq => ?_, fun q h1 h2 => ?_, by rw [e1]; exact hmid2, hside2, fun n2 lab9 G9 hM => ?_⟩
                  · have hqm : q < m := by have := HNN.out.2.2.1; omega
                    obtain ⟨a1, a2, a3, a4, a5⟩ := HC2.out.old q hqm
                    obtain ⟨b1, b2⟩ := HOm.out.old q hq
                    exact ⟨a1.trans b1, a4.trans b2⟩
                  · by_cases e : q < m
                    · rw [(HC2.out.old q e).2.2.2.1]; exact HOm.out.new q h1 e
                    · exact (HC2.out.new q (by omega) h2).2.1
                  · refine HOm.out.exact n2 lab9 G9 ?_
                    rw [HMID.out.2.2.1]
                    rw [e1] at hM
                    exact .cons HPX.out.1 HPX.out.2.1 HPX.out.2.2.2.2 hlabs e3 hM
                have HPT2 := Lib.hid hpt2
                have HOUT := Lib.hid (And.intro hout h26)
                have hk7 := hk6.out
                have HK7 := Lib.hid hk7
                clear hop h26 e1 e2 e3 hlabs hwo_ hmid2 hside2 hcpG hwL hz0L hix0 hpm hinm ho hto htom hkz hkz3 hup2 hxto hxm2 htv hLL hkx2 hfinal hpt2 hout hk6 hk7 HIM
                go_wp2
                go_loopw [18] (fun qv wq => ∃ q : Nat, qv = .int .i64 (q : Int) ∧ ((q = 0 ∧ Hid (w' = wq)) ∨ (q = 1 ∧ ∃ kv9, Hid (Knots B wq m2 kn2 kv9 av2 pl2 lab2 (wrap1 G m L wd p A x z0)) ∧ Hid (ForestK B wq f vf len kn (m2 : Int) (decide (600 < m2))) ∧ Hid (Below B w wq) ∧ Hid (GroupsK wq w1.heap.size (.slice (some ⟨gg, 0, none⟩) k gc) xs kn k gb) ∧ Hid (w1.heap.size ≤ wq.heap.size)))) (fun qv _ => 1 - (intOf qv).toNat)
                case atStart => exact ⟨0, by go_num, .inl ⟨rfl, Lib.hid rfl⟩⟩
                case round =>
                  obtain ⟨q, rfl, hcase⟩ := hrel
                  rcases hcase with ⟨rfl, HWQ⟩ | ⟨rfl, kv9, HK9, HF9, HB9, HG9, HS9⟩
                  · obtain rfl := HWQ.out
                    go_wp2
                    go_region_with (go_at_call 71; refine (HPT2.out _ (by first | exact Below.refl _ _ | exact (Below.refl _ _).drew)).mono ?_; rintro e w8 ⟨kv9, rfl, hk9, ho9⟩)
                    all_goals
                      have hob : OnlyK m2 kn2 w' w8 := (OnlyK.of_below (by first | exact Below.refl _ _ | exact (Below.refl _ _).drew)).trans ho9.out
                      have HF9 := Lib.hid (H6.out.1.turn HK7.out hob)
                      have HG9 := Lib.hid (H6.out.2.1.onlyK HK7.out hob)
                      have HB9 := Lib.hid (H6.out.2.2.1.trans (hob.below B (Nat.le_trans (Nat.le_trans hBw hbs1) H6.out.2.2.2.1) HK7.out.base))
                      have HS9 := Lib.hid (Nat.le_trans H6.out.2.2.2.1 hob.size)
                      clear hob ho9
                      go_wp2
                      refine ⟨?rel, ?measure⟩
                      case rel => exact ⟨1, by go_num, .inr ⟨rfl, kv9, hk9, HF9, HB9, HG9, HS9⟩⟩
                      case measure => simp [intOf]
                  · clear o2 ct7 hcl6
                    go_wp2
                    refine ⟨?rel, ?measure⟩
                    case rel => exact ⟨i + 1, m2, kn2, kv9, av2, pl2, lab2, _, by omega, by go_num, Lib.hid HOUT.out.2, HF9, HB9, HK9, Lib.hid HOUT.out.1, HG9, HS9⟩
                    case measure => simp [intOf]; omega
        · obtain rfl : i = k := by omega
          have hfin : Wraps wd L m lab' G xs n lab F := HOm.out.exact m lab' G (by
            rw [List.drop_of_length_le (by rw [HXL.out]; exact Nat.le_refl _)]
            exact .nil rfl (fun _ _ => rfl) rfl)
          have hold : ∀ q, q < n → kn' q = kn q ∧ pl' q = pl q ∧ lab' q = lab q := fun q hq => ⟨(HOm.out.old q hq).1, (HOm.out.old q hq).2, HOm.out.mid.lab q hq⟩
          have hf9 := HFm.out
          rw [show decide (600 < m) = false by have := HM6.out; simp; omega] at hf9
          have HFIN := Lib.hid (And.intro hfin (And.intro hold HOm.out.new))
          have HF9 := Lib.hid hf9
          clear hfin hold hf9
          go_wp2
          go_ret
          exact .inr (.inl ⟨m, kn', kv', av', pl', lab', G, L, rfl, HM6.out, HFIN.out.2.1, HFIN.out.2.2, HLL.out.1, HLL.out.2.2.1, HWS.out.2.2.2.2, HFIN.out.1, HKm, HF9, HBm⟩)

end Go.Proofs.YtoleejaabiafcaaGreat

namespace Go.Proofs.YtoleejaabiafcaaGreat
open Go.RowKit
set_option linter.unusedVariables false
set_option linter.unusedSimpArgs false

/-- Nodes wrapped. -/
def WrapStepK (len : Nat) (pl0 : Nat → Int) (lab0 : Nat → NodeD) (F0 : Wd) (zs1 zs2 : List Int) (n : Nat) (pl : Nat → Int) (lab : Nat → NodeD) (F : Wd) : Prop :=
  n ≤ 600 ∧ (∀ i, i < len → pl i = pl0 i ∧ lab i = lab0 i) ∧ (∀ i, len ≤ i → i < n → pl i = -1) ∧ ∃ xs wd L, Picks len zs1 xs ∧ Picks len zs2 [wd] ∧ xs ≠ [] ∧ Fl F0.kids [wd] L ∧ WrSide len F0 wd L xs ∧ (lab0 wd).kind = 3 ∧ Wraps wd L n lab F xs len lab0 F0

set_option maxRecDepth 100000 in
set_option maxHeartbeats 4000000 in
theorem stepWrap_any {B : Nat} (W : World) (f len : Nat) (vf : Value) (kn : Nat → Nat) (kv av : Nat → Value) (pl : Nat → Int) (lab : Nat → NodeD) (F : Wd) (many : Int) (hK : Knots B W len kn kv av pl lab F) (hF : WOk len F) (hFo : ForestK B W f vf len kn many false) (h0 : 0 < len) (hlen : len ≤ 600) (hmany : many = (len : Int)) (hfit : ∀ y, y < len → (lab y).attrs.length ≤ 100 ∧ ∀ z ∈ (lab y).attrs, z.1.size ≤ maxLen ∧ z.2.size ≤ maxLen) (a : Option Addr) (n1 ncap : Nat) (zs : List Int) (h : Ints W a n1 zs) (a2 : Option Addr) (n2 c2 : Nat) (zs2 : List Int) (h2 : Ints W a2 n2 zs2) :
    Calls Tryz.prog 26 #[.pointer (some ⟨f, 0, none⟩), .agg #[.int .i64 9, .slice a n1 ncap, .slice a2 n2 c2, .string ⟨#[]⟩, .string ⟨#[]⟩, .slice none 0 0]] W (fun e w' => StepKPost B f len vf kn (WrapStepK len pl lab F zs zs2) e w' W) := by
  obtain ⟨W0, hW0⟩ : ∃ W0, W.alloc (.cells #[.int .i64 9, .slice a n1 ncap, .slice a2 n2 c2, .string ⟨#[]⟩, .string ⟨#[]⟩, .slice none 0 0] 28) = W0 := ⟨_, rfl⟩
  have hb0 : Below W.heap.size W W0 := by rw [← hW0]; exact (Below.refl _ _).alloc (Nat.le_refl _) _
  have hs0 : W0.heap.size = W.heap.size + 1 := by rw [← hW0]; simp
  have b0 : W0.cell? ⟨W.heap.size, 0, none⟩ = some (.int .i64 9) := by rw [← hW0]; exact cell_alloc_new' _ _ _ rfl rfl
  have b1 : W0.cell? ⟨W.heap.size, 1, none⟩ = some (.slice a n1 ncap) := by rw [← hW0]; exact cell_alloc_new' _ _ _ rfl rfl
  have b2 : W0.cell? ⟨W.heap.size, 2, none⟩ = some (.slice a2 n2 c2) := by rw [← hW0]; exact cell_alloc_new' _ _ _ rfl rfl
  have hK0 := hK.below hb0
  have hFo0 := hFo.below hb0
  have hch := chosenK_any W0 f len vf kn many false hFo0 h0 hlen a n1 ncap zs (h.below hb0)
  have hch2 := fun (w1 : World) (hb : Below W0.heap.size W0 w1) => chosenK_any w1 f len vf kn many false (hFo0.below hb) h0 hlen a2 n2 c2 zs2 ((h2.below hb0).below hb)
  have hBW : B ≤ W.heap.size := Nat.le_trans hFo.base (Nat.le_of_lt hFo.obj.lt)
  have hMN := Lib.hid hmany
  have HFIT := Lib.hid hfit
  clear hmany hfit
  have HCH := Lib.hid hch
  have HCH2 := Lib.hid hch2
  have HK0 := Lib.hid (And.intro hK0 hFo0)
  have HB0 := Lib.hid hb0
  have HF := Lib.hid hF
  clear hch hch2 hK0 hFo0 hb0 hK hFo h hF h2
  go_enter Tryz.func26, Tryz.ntmps26
  go_wp2_with fail
  refine HCH.out.mono ?_
  intro e w1 hp
  have hend0 : ∀ w1, Below W0.heap.size W0 w1 → ∀ w2, Below w1.heap.size w1 w2 → Below B W w2 := fun w1 hb1 w2 hb2 => (HB0.out.mono hBW).trans ((hb1.mono (by omega)).trans (hb2.mono (by have := hb1.size; omega)))
  have HEND := Lib.hid hend0
  clear hend0
  rcases hp with ⟨rfl, hb1⟩ | ⟨v1, l, hpk, rfl, ho1, hb1⟩
  · have HC2 := Lib.hid (HCH2.out w1 hb1.out)
    have b2' := cell_below hb1.out b2
    clear b0 b1 b2 HCH
    go_wp2_with fail
    refine HC2.out.mono ?_
    intro e w2 hp
    rcases hp with ⟨rfl, hb2⟩ | ⟨v2, l2, _, rfl, _, hb2⟩
    · go_wp2
      go_ret
      exact .inl ⟨rfl, Lib.hid (HEND.out _ hb1.out _ hb2.out)⟩
    · go_wp2
      go_ret
      exact .inl ⟨rfl, Lib.hid (HEND.out _ hb1.out _ hb2.out)⟩
  · skip
    have HC2 := Lib.hid (HCH2.out w1 hb1.out)
    have b2' := cell_below hb1.out b2
    have b0' := cell_below hb1.out b0
    have HP := Lib.hid hpk
    obtain ⟨va, vc, rfl⟩ := ownsRow_slice ho1.out
    clear b0 b1 b2 HCH hpk
    go_wp2_with fail
    refine HC2.out.mono ?_
    intro e w2 hp
    rcases hp with ⟨rfl, hb2⟩ | ⟨v2, ws, hpk2, rfl, ho2, hb2⟩
    · go_wp2
      go_ret
      exact .inl ⟨rfl, Lib.hid (HEND.out _ hb1.out _ hb2.out)⟩
    · have b0'' := cell_below hb2.out b0'
      have hb02 : Below W0.heap.size W0 w2 := hb1.out.trans (hb2.out.mono hb1.out.size)
      have hK2 := HK0.out.1.below hb02
      have hFo2 := HK0.out.2.below hb02
      have hO2 := ownsRow_kept ho1.out (fun k hk => hb2.out.block k (World.ownsRow.lt ho1.out k hk).2)
      have HB2 := Lib.hid (HEND.out _ hb1.out _ hb2.out)
      by_cases hl0 : l.length = 0
      · have g0 : ((l.length : Int) == 0) = true := by simp [hl0]
        clear hl0 hO2 hK2 hFo2 hb02
        go_wp2
        go_ret
        exact .inl ⟨rfl, HB2⟩
      have g0 : ((l.length : Int) == 0) = false := by simp [hl0]
      by_cases hl2 : ws.length = 1
      rotate_left
      · have g1 : ((ws.length : Int) == 1) = false := by simp; omega
        obtain ⟨wa, wc, rfl⟩ := ownsRow_slice ho2.out
        have HBD := Lib.hid (fun q => (HB2.out.trans (below_drewN (Below.refl B w2) q)))
        clear hl0 hl2 hO2 hK2 hFo2 hb02
        go_wp2
        go_quiet (fail)
        go_wp2
        go_ret
        exact .inl ⟨rfl, Lib.hid (HBD.out _)⟩
      obtain ⟨wd, rfl⟩ : ∃ wd, ws = [wd] := by
        cases ws with
        | nil => simp at hl2
        | cons x r =>
          cases r with
          | nil => exact ⟨x, rfl⟩
          | cons y q => simp at hl2
      have ho9 : w2.ownsRow w1.heap.size 66 1 v2 1 [.pointer (some ⟨kn wd, 0, none⟩)] := ho2.out
      obtain ⟨wa, wc, rfl⟩ := ownsRow_slice ho9
      obtain ⟨wg, rfl, hwc⟩ := row_at ho9 (by omega)
      have cw : w2.cell? ⟨wg, 0, none⟩ = some (.pointer (some ⟨kn wd, 0, none⟩)) := hwc 0 _ rfl
      clear ho9
      have hopn : false = decide (600 < len) := by simp; omega
      rw [hMN.out, hopn] at hFo2
      have hwd := hpk2.lt wd (by simp)
      have hins : ∀ w', Below w2.heap.size w2 w' → Calls Tryz.prog 47 #[.pointer (some ⟨f, 0, none⟩), .int .i64 9, .slice va l.length vc, .pointer (some ⟨kn wd, 0, none⟩)] w' (fun e w3 => ∃ b, e = .returned (.bool b) ∧ Hid (WrapKPost B len kn pl lab F f len vf wd l w' (.returned (.bool b)) w3)) := fun w' hb =>
        (wrapK_any (hK2.below hb) HF.out (hFo2.below hb) (by omega) l HP.out.lt HP.out.nd (Nat.le_trans HP.out.le hlen) va vc (ownsRow_kept hO2 (fun k hk => hb.block k (World.ownsRow.lt hO2 k hk).2)) hwd HFIT.out).mono (fun e w3 hh => by
          rcases hh with ⟨rfl, h⟩ | ⟨m, kn', kv', av', pl', lab', G, L, rfl, h⟩ | ⟨rfl, h⟩
          · exact ⟨false, rfl, Lib.hid (.inl ⟨rfl, h⟩)⟩
          · exact ⟨true, rfl, Lib.hid (.inr (.inl ⟨m, kn', kv', av', pl', lab', G, L, rfl, h⟩))⟩
          · exact ⟨true, rfl, Lib.hid (.inr (.inr ⟨rfl, h⟩))⟩)
      have HINS := Lib.hid hins
      have HP2 := Lib.hid hpk2
      have HL0 : Hid (l ≠ []) := Lib.hid (fun e => hl0 (by rw [e]; rfl))
      have hBw2 : B ≤ w2.heap.size := Nat.le_trans hBW HB2.out.size
      clear hins hpk2 ho2 hb02 hK2 hFo2 hO2 hb1 hb2 ho1 HC2 HCH2 b0' b2' hl0 hl2 hopn hwc hwd
      go_wp2
      go_still_tail 11, (by kernel_rfl)
      go_wp2_with fail
      refine (HINS.out _ (by first | exact Below.refl _ _ | exact (Below.refl _ _).drew)).mono ?_
      rintro e w3 ⟨b, rfl, HW3⟩
      all_goals
        have HBX : Hid (∀ wz : World, Below B w2.drew wz → Below B W wz) := Lib.hid (fun wz h => HB2.out.trans ((Below.refl B w2).drew.trans h))
        go_wp2
        go_ret
        rcases HW3.out with ⟨he, hb3⟩ | ⟨m, kn', kv', av', pl', lab', G, L, he, h6, hold, hnew, hL, hside, hkd, hw, hk3, hf3, hb3⟩ | ⟨he, mny, hf3, hb3⟩
        · obtain rfl : b = false := by simpa using he
          exact .inl ⟨rfl, Lib.hid (HBX.out _ hb3.out)⟩
        · obtain rfl : b = true := by simpa using he
          exact .inr (.inl ⟨m, kn', kv', av', pl', lab', G, _, _, rfl, ⟨h6, fun i hi => ⟨(hold i hi).2.1, (hold i hi).2.2⟩, hnew, l, wd, L, HP.out, HP2.out, HL0.out, hL, hside, hkd, hw⟩, (hold 0 h0).1, hk3, hf3, Lib.hid (HBX.out _ hb3.out)⟩)
        · obtain rfl : b = true := by simpa using he
          exact .inr (.inr ⟨rfl, _, hf3, Lib.hid (HBX.out _ hb3.out)⟩)

end Go.Proofs.YtoleejaabiafcaaGreat

