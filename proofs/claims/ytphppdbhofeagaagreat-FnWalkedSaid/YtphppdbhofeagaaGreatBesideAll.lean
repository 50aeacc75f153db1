/- The elements among a node's kids; spec.Elements. The places from one on; brothers behind and ahead. Plain: no program. Lists that an iterator goes along: what stands behind each of their places. Plain: no program. -/
import Derived.Test.YtphppdbhofeagaaGreatTyOf
import Derived.Test.YtphppdbhofeagaaGreatChosen
import Derived.Test.YtphppdbhofeagaaGreatPlacesOf
import Derived.Test.YtphppdbhofeagaaGreatLinkAll
import Derived.Deep.LoopGhost
import Derived.Test.YtphppdbhofeagaaGreatOnceF
namespace Go.Proofs.YtphppdbhofeagaaGreat
open Go.RowKit
set_option linter.unusedVariables false
set_option linter.unusedSimpArgs false

/-- The elements among the kids of p. -/
def elKid (ts : List NodeD) (p k : Nat) : Bool := (par (sz ts) k == some p) && (kd ts k == 3)

set_option maxRecDepth 100000 in
set_option maxHeartbeats 1000000 in
theorem elements_any (a : Option Addr) (len cap : Nat) (ts : List NodeD) (p : Nat) (w : World) (h : Nodes w a len ts) (hR : RightT ts len) (hp : p < len) :
    Calls Tryz.prog 35 #[.slice a len cap, .int .i64 (p : Int)] w (OwnPlPost (lb (elKid ts p) len) w) := by
  have hlen := hR.le
  have hk := kids_any a len cap ts p w h hR.sizes (fun j hj => hR.nest.fit j hj) hp hlen
  have hkl := kids_lb hR.nest hp
  have hfil := lb_filter (P := fun k => par (sz ts) k == some p) (Q := fun k => kd ts k == 3) len
  rw [← hkl] at hfil
  obtain ⟨K, hK⟩ : ∃ K, kids (sz ts) p = K := ⟨_, rfl⟩
  rw [hK] at hk hfil hkl
  have hKm : ∀ i ∈ K, i < len := fun i hi => by rw [hkl] at hi; exact (lb_mem hi).1
  have hKn : K.length ≤ 200 := by rw [hkl]; exact Nat.le_trans (lb_length_le _) hlen
  have HK := Lib.hid hk
  have HFIL := Lib.hid (show K.filter (fun k => kd ts k == 3) = lb (elKid ts p) len from hfil)
  have HKM := Lib.hid hKm
  have HN := Lib.hid h
  have hpos := hR.pos
  clear hk hkl hfil hK hKm h hR
  obtain ⟨i0, hi, hz0, hz1, hz2⟩ := info_parts Tryz.infoInt
  go_enter Tryz.func35, Tryz.ntmps35
  go_wp2_with fail
  refine HK.out.mono ?_
  rintro e w1 ⟨vk, rfl, hown, hb1⟩
  have hN1 := HN.out.below hb1
  obtain ⟨b, off, rfl, hc⟩ := hN1.at hpos
  have hrd : ReadsAs w1 vk (K.map intV) := OwnPl.reads (B := w.heap.size) hown
  obtain ⟨ka, kcap, kb, koff, rfl, hkm, hka, hkc⟩ := ints_open hrd
  have HC := Lib.hid hc
  have HKA := Lib.hid hka
  have HKC := Lib.hid hkc
  have HB1 := Lib.hid hb1
  clear hN1 hc hrd hka hkc hown hb1 HK
  go_wp2
  go_loopw [5, 7] (fun x i wr => ∃ (k : Nat) (done : List Nat), i = .int .i64 k ∧ k ≤ K.length ∧ done.length ≤ k ∧ (K.take k).filter (fun k => kd ts k == 3) = done ∧ OwnPl wr w1.heap.size x done ∧ Below w1.heap.size w1 wr)
    (fun _ i _ => K.length - (intOf i).toNat)
  case atStart => exact ⟨0, [], by go_num, by omega, by simp, rfl, World.ownsRow_nil _ _ _ _, Below.refl _ _⟩
  case round =>
    obtain ⟨k, done, rfl, hk, hdl, hdone, hown, hbel⟩ := hrel
    have HDONE := Lib.hid hdone
    have HOWN := Lib.hid hown
    have HBEL := Lib.hid hbel
    clear hdone hown hbel
    by_cases hlt : k < K.length
    · obtain rfl := HKA.out (by omega)
      have ck := cell_below HBEL.out (HKC.out k hlt)
      have hxl := HKM.out _ (getD_mem' (d := 0) hlt)
      have htk := take_snoc hlt
      obtain ⟨x, hxx⟩ : ∃ x, K.getD k 0 = x := ⟨_, rfl⟩
      rw [hxx] at ck hxl htk
      have cx := cell_below HBEL.out (HC.out x hxl).kind
      have hkI : (k : Int) < (K.length : Int) := by omega
      have hxI : (x : Int) < (len : Int) := by omega
      have hkd : kd ts x = (ts.getD x default).kind := rfl
      obtain ⟨q, hq⟩ : ∃ q, (ts.getD x default).kind = q := ⟨_, rfl⟩
      rw [hq] at cx hkd
      have hstep : (K.take (k + 1)).filter (fun k => kd ts k == 3) = if q == 3 then done ++ [x] else done := by
        rw [htk, List.filter_append, HDONE.out]
        by_cases e : q = 3
        · simp [hkd, e]
        · simp [hkd, e]
      have HST := Lib.hid hstep
      clear hxx htk hkd hq hstep
      by_cases h3 : q = 3
      · subst h3
        have hown2 : wr.ownsRow w1.heap.size 3 1 u5 done.length (done.map intV) := HOWN.out
        go_wp2_with (at_builtin; refine wpList_append_own _ rfl _ _ 23 rfl w1.heap.size 3 i0 (.int .i64 0) 1 8 Tryz.underlying23 hi hz0 hz1 hz2 rfl (by decide) _ _ _ rfl (hown2.alloc _) ⟨wr.heap.size, 0, none⟩ 1 1 [.int .i64 (x : Int)] rfl rfl ?c1 ?c2 ?c3 ?c4 ?c5 ?_)
        case c2 => rfl
        case c3 => unfold maxLen; omega
        case c4 => omega
        case c5 => have := HBEL.out.size; simp; omega
        intro v' w3 hown3 hgrow _
        have hbel3 : Below w1.heap.size w1 w3 := (HBEL.out.alloc HBEL.out.size _).grown hgrow (by have := HBEL.out.size; simp; omega) (fun q hq => (World.ownsRow.lt hown2 q hq).1)
        have hsn := ownInts_any_snoc (k := x) hown3
        have H3 := Lib.hid (And.intro hsn hbel3)
        clear hown3 hgrow hbel3 hsn hown2 cx ck
        go_wp2
        go_roundw
        case rel => exact ⟨k + 1, done ++ [x], by go_num, by omega, by simp; omega, HST.out, H3.out.1, H3.out.2⟩
        case measure => simp [intOf]; omega
      · have g : (q == 3) = false := by simp [h3]
        have HST2 : Hid ((K.take (k + 1)).filter (fun k => kd ts k == 3) = done) := Lib.hid (by rw [HST.out, g]; rfl)
        clear h3
        go_wp2
        go_roundw
        case rel => exact ⟨k + 1, done, by go_num, by omega, by omega, HST2.out, HOWN.out, HBEL.out⟩
        case measure => simp [intOf]; omega
    · obtain rfl : k = K.length := by omega
      have HO : Hid (OwnPl wr w.heap.size u5 (lb (elKid ts p) len)) := by
        have h1 := HDONE.out
        rw [List.take_length, HFIL.out] at h1
        rw [h1]
        exact Lib.hid (ownsRow_base HOWN.out HB1.out.size)
      have hfin := Lib.hid (HB1.out.trans (HBEL.out.mono HB1.out.size))
      clear hlt HDONE
      go_wp2
      go_ret
      exact ⟨_, rfl, HO, hfin⟩

end Go.Proofs.YtphppdbhofeagaaGreat

namespace Go.Proofs.YtphppdbhofeagaaGreat
set_option linter.unusedVariables false
set_option linter.unusedSimpArgs false

/-- The places from a on (so many) that are as asked, ascending. -/
def rb (P : Nat → Bool) (a : Nat) : Nat → List Nat
  | 0 => []
  | f + 1 => if P a then a :: rb P (a + 1) f else rb P (a + 1) f

theorem rb_mem {P : Nat → Bool} {x : Nat} : ∀ {f a}, x ∈ rb P a f ↔ a ≤ x ∧ x < a + f ∧ P x = true := by
  intro f
  induction f with
  | zero => intro a; simp [rb]; omega
  | succ f ih =>
    intro a
    simp only [rb]
    split
    · rename_i hp
      rw [List.mem_cons, ih]
      constructor
      · rintro (rfl | ⟨h1, h2, h3⟩)
        · exact ⟨Nat.le_refl _, by omega, hp⟩
        · exact ⟨by omega, by omega, h3⟩
      · rintro ⟨h1, h2, h3⟩
        by_cases e : x = a
        · exact .inl e
        · exact .inr ⟨by omega, by omega, h3⟩
    · rename_i hp
      rw [ih]
      constructor
      · rintro ⟨h1, h2, h3⟩; exact ⟨by omega, by omega, h3⟩
      · rintro ⟨h1, h2, h3⟩
        have : x ≠ a := fun e => hp (e ▸ h3)
        exact ⟨by omega, by omega, h3⟩

theorem rb_skip {P : Nat → Bool} : ∀ d f a, (∀ k, a ≤ k → k < a + d → P k = false) → rb P a (d + f) = rb P (a + d) f := by
  intro d
  induction d with
  | zero => intro f a _; simp
  | succ d ih =>
    intro f a h
    rw [show d + 1 + f = (d + f) + 1 by omega]
    simp only [rb]
    rw [h a (Nat.le_refl _) (by omega)]
    have := ih f (a + 1) (fun k h1 h2 => h k (by omega) (by omega))
    rw [show a + (d + 1) = a + 1 + d by omega]
    simpa using this

theorem rb_none {P : Nat → Bool} {a f : Nat} (h : ∀ k, a ≤ k → k < a + f → P k = false) : rb P a f = [] := by
  have := rb_skip f 0 a h
  simpa [rb] using this

theorem rb_once {P : Nat → Bool} : ∀ f a, (rb P a f).Pairwise (· < ·) := by
  intro f
  induction f with
  | zero => intro a; simp [rb]
  | succ f ih =>
    intro a
    simp only [rb]
    split
    · rw [List.pairwise_cons]
      exact ⟨fun b hb => by have := (rb_mem.1 hb).1; omega, ih (a + 1)⟩
    · exact ih (a + 1)

theorem rb_len {P : Nat → Bool} : ∀ f a, (rb P a f).length ≤ f := by
  intro f
  induction f with
  | zero => intro a; simp [rb]
  | succ f ih =>
    intro a
    simp only [rb]
    have := ih (a + 1)
    split <;> simp <;> omega

theorem rb_lb {P : Nat → Bool} : ∀ n a, a ≤ n → (lb P n).filter (fun k => decide (a ≤ k)) = rb P a (n - a) := by
  intro n
  induction n with
  | zero =>
    intro a h
    obtain rfl : a = 0 := by omega
    rfl
  | succ n ih =>
    intro a h
    by_cases e : a = n + 1
    · subst e
      rw [Nat.sub_self]
      simp only [rb]
      rw [List.filter_eq_nil_iff]
      intro x hx
      have := (lb_mem hx).1
      simp; omega
    · have h1 := ih a (by omega)
      have key : ∀ f b, rb P b (f + 1) = rb P b f ++ (if P (b + f) then [b + f] else []) := by
        intro f
        induction f with
        | zero => intro b; simp [rb]
        | succ f ihf =>
          intro b
          have h2 := ihf (b + 1)
          rw [show b + 1 + f = b + (f + 1) by omega] at h2
          rw [show rb P b (f + 1 + 1) = (if P b then b :: rb P (b + 1) (f + 1) else rb P (b + 1) (f + 1)) from rfl, h2]
          rw [show rb P b (f + 1) = (if P b then b :: rb P (b + 1) f else rb P (b + 1) f) from rfl]
          split <;> simp
      rw [show n + 1 - a = (n - a) + 1 by omega, key (n - a) a, show a + (n - a) = n by omega, ← h1]
      simp only [lb]
      split
      · rw [List.filter_append]
        congr 1
        simp; omega
      · simp

theorem lb_pairwise {P : Nat → Bool} : ∀ n, (lb P n).Pairwise (· < ·) := by
  intro n
  induction n with
  | zero => simp [lb]
  | succ n ih =>
    simp only [lb]
    split
    · rw [List.pairwise_append]
      exact ⟨ih, by simp, fun a ha b hb => by simp at hb; subst hb; exact (lb_mem ha).1⟩
    · exact ih

theorem lb_mem_iff {P : Nat → Bool} {x : Nat} : ∀ {n}, x ∈ lb P n ↔ x < n ∧ P x = true := by
  intro n
  constructor
  · exact lb_mem
  · rintro ⟨h1, h2⟩
    induction n with
    | zero => omega
    | succ n ih =>
      simp only [lb]
      by_cases e : x = n
      · subst e; simp [h2]
      · have := ih (by omega)
        split
        · exact List.mem_append_left _ this
        · exact this

theorem once_of_nodup {l : List Nat} (h : l.Nodup) : Once l := by
  intro i j hi hj he
  have e1 : l[i] = l[j] := by simpa [List.getD, hi, hj] using he
  exact (List.getElem_inj h).1 e1

theorem once_of_lt {l : List Nat} (h : l.Pairwise (· < ·)) : Once l := once_of_nodup (h.imp (fun h => Nat.ne_of_lt h))
theorem once_of_gt {l : List Nat} (h : l.Pairwise (· < ·)) : Once l.reverse := once_of_nodup (List.pairwise_reverse.2 (h.imp (fun h => fun e => by omega)))

/-- The brother behind. -/
theorem nxt_some {z : Nat → Nat} {n y q p : Nat} (hz : Nest z n) (hyn : y < n) (hy : par z y = some p) (h : nxtK (fun i => i + z i) 0 y = some q) : q = y + z y ∧ par z q = some p ∧ q < n ∧ y < q := by
  unfold nxtK at h
  rw [up_par, hy] at h
  simp only at h
  split at h
  · rename_i hlt
    simp at h
    subst h
    have h1 := hz.pos y hyn
    have hp := (par_some hy).1
    have h2 := hz.fit p (by omega)
    exact ⟨rfl, par_next hz hy hyn hlt, by omega, by omega⟩
  · simp at h

theorem nxt_none {z : Nat → Nat} {n y p : Nat} (hy : par z y = some p) (h : nxtK (fun i => i + z i) 0 y = none) : p + z p ≤ y + z y := by
  unfold nxtK at h
  rw [up_par, hy] at h
  simp only at h
  split at h
  · simp at h
  · omega

/-- Between a node and its end no kid of its parent stands. -/
theorem kid_gap {z : Nat → Nat} {n y p k : Nat} (hz : Nest z n) (hyn : y < n) (hy : par z y = some p) (h1 : y < k) (h2 : k < y + z y) : (par z k == some p) = false := by
  simp only [beq_eq_false_iff_ne, ne_eq]
  intro hk
  have h3 := (par_some hk).2.2 y (par_some hy).1 h1
  omega

theorem kid_beyond {z : Nat → Nat} {p k : Nat} (h : p + z p ≤ k) : (par z k == some p) = false := by
  simp only [beq_eq_false_iff_ne, ne_eq]
  intro hk
  have := (par_some hk).2.1
  omega

section
variable {z : Nat → Nat} {Q : Nat → Bool} {n y q p : Nat}

theorem rb_nxt_some (hz : Nest z n) (hyn : y < n) (hy : par z y = some p) (h : nxtK (fun i => i + z i) 0 y = some q) :
    rb (fun k => (par z k == some p) && Q k) (y + 1) (n - (y + 1)) = if Q q then q :: rb (fun k => (par z k == some p) && Q k) (q + 1) (n - (q + 1)) else rb (fun k => (par z k == some p) && Q k) (q + 1) (n - (q + 1)) := by
  obtain ⟨rfl, h2, h3, h4⟩ := nxt_some hz hyn hy h
  have hs := rb_skip (P := fun k => (par z k == some p) && Q k) (z y - 1) (n - (y + z y)) (y + 1) (fun k h5 h6 => by rw [kid_gap hz hyn hy (by omega) (by omega)]; rfl)
  rw [show z y - 1 + (n - (y + z y)) = n - (y + 1) by omega, show y + 1 + (z y - 1) = y + z y by omega] at hs
  rw [hs, show n - (y + z y) = (n - (y + z y + 1)) + 1 by omega]
  simp only [rb, h2, beq_self_eq_true, Bool.true_and]

theorem rb_nxt_none (hz : Nest z n) (hyn : y < n) (hy : par z y = some p) (h : nxtK (fun i => i + z i) 0 y = none) :
    rb (fun k => (par z k == some p) && Q k) (y + 1) (n - (y + 1)) = [] := by
  have h1 := nxt_none (n := n) hy h
  refine rb_none (fun k h5 h6 => ?_)
  by_cases h7 : k < y + z y
  · rw [kid_gap hz hyn hy (by omega) h7]; rfl
  · rw [kid_beyond (by omega)]; rfl

/-- From the parent on: the first kid. -/
theorem rb_fst_some (hz : Nest z n) (hpn : p < n) (h : fstK (fun i => i + z i) p = some q) :
    rb (fun k => (par z k == some p) && Q k) (p + 1) (n - (p + 1)) = (if Q q then q :: rb (fun k => (par z k == some p) && Q k) (q + 1) (n - (q + 1)) else rb (fun k => (par z k == some p) && Q k) (q + 1) (n - (q + 1))) ∧ q < n ∧ par z q = some p ∧ p < q := by
  unfold fstK at h
  split at h
  · rename_i hlt
    simp at h
    subst h
    have hlt : p + 1 < p + z p := hlt
    have hf := hz.fit p hpn
    have hp := par_first hpn (show 1 < z p by omega)
    refine ⟨?_, by omega, hp, by omega⟩
    rw [show n - (p + 1) = (n - (p + 1 + 1)) + 1 by omega]
    simp only [rb, hp, beq_self_eq_true, Bool.true_and]
  · simp at h

theorem rb_fst_none (hz : Nest z n) (hpn : p < n) (h : fstK (fun i => i + z i) p = none) :
    rb (fun k => (par z k == some p) && Q k) (p + 1) (n - (p + 1)) = [] := by
  unfold fstK at h
  split at h
  · simp at h
  · rename_i hge
    have hge : ¬ p + 1 < p + z p := hge
    refine rb_none (fun k h5 h6 => ?_)
    rw [kid_beyond (by have := hz.pos p hpn; omega)]; rfl
end

end Go.Proofs.YtphppdbhofeagaaGreat

namespace Go.Proofs.YtphppdbhofeagaaGreat
set_option linter.unusedVariables false
set_option linter.unusedSimpArgs false

theorem chain_drop {S : Nat → List Nat} (hS : ∀ y q r, S y = q :: r → S q = r) : ∀ (k x : Nat) (L : List Nat), S x = L → k < L.length → S (L.getD k 0) = L.drop (k + 1) := by
  intro k
  induction k with
  | zero =>
    intro x L hx hk
    cases L with
    | nil => simp at hk
    | cons q r => simpa using hS x q r hx
  | succ k ih =>
    intro x L hx hk
    cases L with
    | nil => simp at hk
    | cons q r =>
      have := ih q r (hS x q r hx) (by simpa using hk)
      simpa using this

theorem rb_cons {P : Nat → Bool} {q : Nat} {r : List Nat} : ∀ {f a : Nat}, rb P a f = q :: r → rb P (q + 1) (a + f - (q + 1)) = r := by
  intro f
  induction f with
  | zero => intro a h; simp [rb] at h
  | succ f ih =>
    intro a h
    simp only [rb] at h
    split at h
    · simp at h
      obtain ⟨rfl, rfl⟩ := h
      rw [show a + (f + 1) - (a + 1) = f by omega]
    · have := ih h
      rwa [show a + 1 + f = a + (f + 1) by omega] at this

theorem lb_cons {P : Nat → Bool} {q : Nat} {r : List Nat} : ∀ {n : Nat}, (lb P n).reverse = q :: r → (lb P q).reverse = r := by
  intro n
  induction n with
  | zero => intro h; simp [lb] at h
  | succ n ih =>
    intro h
    simp only [lb] at h
    split at h
    · rw [List.reverse_append] at h
      simp at h
      obtain ⟨rfl, rfl⟩ := h
      rfl
    · exact ih h

theorem rb_chain {P : Nat → Bool} {n : Nat} : ∀ y q r, rb P (y + 1) (n - (y + 1)) = q :: r → rb P (q + 1) (n - (q + 1)) = r := by
  intro y q r h
  have h1 := rb_cons h
  by_cases hy : y + 1 ≤ n
  · rwa [show y + 1 + (n - (y + 1)) - (q + 1) = n - (q + 1) by omega] at h1
  · rw [show n - (y + 1) = 0 by omega] at h
    simp [rb] at h

theorem head_drop {α : Type} (l : List α) (k : Nat) : (l.drop k).head? = l[k]? := by
  rw [List.head?_drop]

theorem map_getD {nb : Nat → Nat} {l : List Nat} {k : Nat} (hk : k < l.length) : (l.map nb).getD k 0 = nb (l.getD k 0) := by simp [List.getD, hk]

/-- The beginning of a list up to the first one that is as asked. -/
def upToL (U : Nat → Bool) : List Nat → List Nat
  | [] => []
  | x :: r => if U x then [] else x :: upToL U r

theorem upTo_take {U : Nat → Bool} {l : List Nat} {k : Nat} (hk : k ≤ l.length) (h : ∀ j, j < k → U (l.getD j 0) = false) : upToL U l = l.take k ++ upToL U (l.drop k) := by
  induction l generalizing k with
  | nil => simp [upToL]
  | cons x r ih =>
    cases k with
    | zero => simp
    | succ k =>
      have h0 := h 0 (by omega)
      simp at h0
      simp only [upToL, h0, List.take_succ_cons, List.drop_succ_cons, List.cons_append]
      have := ih (k := k) (by simpa using hk) (fun j hj => by simpa using h (j + 1) (by omega))
      simpa using this

theorem upTo_at {U : Nat → Bool} {l : List Nat} {k : Nat} (hk : k < l.length) (h : ∀ j, j < k → U (l.getD j 0) = false) (hu : U (l.getD k 0) = true) : upToL U l = l.take k := by
  rw [upTo_take (Nat.le_of_lt hk) h, List.drop_eq_getElem_cons hk]
  have : l.getD k 0 = l[k] := by simp [List.getD, hk]
  rw [this] at hu
  simp [upToL, hu]

theorem upTo_all {U : Nat → Bool} {l : List Nat} (h : ∀ j, j < l.length → U (l.getD j 0) = false) : upToL U l = l := by
  have := upTo_take (k := l.length) (Nat.le_refl _) h
  simpa [upToL] using this

end Go.Proofs.YtphppdbhofeagaaGreat

