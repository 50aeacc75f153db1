/- The elements above a place, the nearest one first; spec.AboveOf. goquery.mapNodes with the function getParentsNodes$1. (Printed by gen_map.py.) goquery.getParentsNodes without an end. -/
import Derived.Test.YtphppdbhofeagaaGreatSibEnd
import Derived.Test.YtphppdbhofeagaaGreatBesideOf
import Derived.Deep.AppendLies
import Derived.Test.YtphppdbhofeagaaGreatSibMap
import Derived.Test.YtphppdbhofeagaaGreatBesideAll
import Derived.Test.YtphppdbhofeagaaGreatTyOf
import Derived.Test.YtphppdbhofeagaaGreatParAll
namespace Go.Proofs.YtphppdbhofeagaaGreat
open Go.RowKit
set_option linter.unusedVariables false
set_option linter.unusedSimpArgs false

def ancF (ts : List NodeD) : Nat → Nat → List Nat
  | 0, _ => []
  | f + 1, x => match par (sz ts) x with | none => [] | some p => (if kd ts p = 3 then [p] else []) ++ ancF ts f p

theorem ancF_more (ts : List NodeD) : ∀ (f g x : Nat), x ≤ f → x ≤ g → ancF ts f x = ancF ts g x
  | 0, g, x, h, _ => by
    obtain rfl : x = 0 := by omega
    cases g with
    | zero => rfl
    | succ g =>
      simp only [ancF]
      cases hp : par (sz ts) 0 with
      | none => rfl
      | some p => have := (par_some hp).1; omega
  | f + 1, 0, x, _, h => by
    obtain rfl : x = 0 := by omega
    simp only [ancF]
    cases hp : par (sz ts) 0 with
    | none => rfl
    | some p => have := (par_some hp).1; omega
  | f + 1, g + 1, x, h, h2 => by
    simp only [ancF]
    cases hp : par (sz ts) x with
    | none => rfl
    | some p =>
      have := (par_some hp).1
      simp only
      rw [ancF_more ts f g p (by omega) (by omega)]

def ancL (ts : List NodeD) (x : Nat) : List Nat := ancF ts x x

theorem ancL_none {ts : List NodeD} {x : Nat} (h : par (sz ts) x = none) : ancL ts x = [] := by
  unfold ancL
  cases x with
  | zero => rfl
  | succ x => simp only [ancF, h]

theorem ancL_some {ts : List NodeD} {x p : Nat} (h : par (sz ts) x = some p) : ancL ts x = (if kd ts p = 3 then [p] else []) ++ ancL ts p := by
  have hlt := (par_some h).1
  unfold ancL
  cases x with
  | zero => omega
  | succ x =>
    simp only [ancF, h]
    rw [ancF_more ts x p p (by omega) (Nat.le_refl _)]

theorem ancL_lt {ts : List NodeD} : ∀ {x : Nat}, ∀ q ∈ ancL ts x, q < x := by
  intro x
  induction x using Nat.strongRecOn with
  | ind x ih =>
    intro q hq
    cases hp : par (sz ts) x with
    | none => rw [ancL_none hp] at hq; simp at hq
    | some p =>
      have hlt := (par_some hp).1
      rw [ancL_some hp, List.mem_append] at hq
      rcases hq with hq | hq
      · split at hq <;> simp at hq
        omega
      · have := ih p hlt q hq
        omega

theorem ancL_pair {ts : List NodeD} : ∀ {x : Nat}, (ancL ts x).Pairwise (· > ·) := by
  intro x
  induction x using Nat.strongRecOn with
  | ind x ih =>
    cases hp : par (sz ts) x with
    | none => rw [ancL_none hp]; exact List.Pairwise.nil
    | some p =>
      have hlt := (par_some hp).1
      rw [ancL_some hp]
      split
      · exact List.Pairwise.cons (fun q hq => ancL_lt q hq) (ih p hlt)
      · exact ih p hlt

theorem ancL_good (ts : List NodeD) (len x : Nat) (hx : x < len) : GoodL len (ancL ts x) :=
  ⟨fun q hq => by have := ancL_lt q hq; omega, once_of_nodup (ancL_pair.imp (fun h => Nat.ne_of_gt h))⟩

/-- What is told of the way up: at a place that is next, or at the end. -/
def UpAt (ts : List NodeD) (len : Nat) (L D : List Nat) (gk : Nat) : Option Nat → Prop
  | none => D = L
  | some y => gk = y + 1 ∧ y < len ∧ D ++ ((if kd ts y = 3 then [y] else []) ++ ancL ts y) = L

theorem upAt_start {ts : List NodeD} {len x : Nat} (hx : x < len) : ∃ gk, gk ≤ x ∧ UpAt ts len (ancL ts x) [] gk (par (sz ts) x) := by
  cases hp : par (sz ts) x with
  | none => exact ⟨0, Nat.zero_le _, (ancL_none hp).symm⟩
  | some p =>
    have := (par_some hp).1
    exact ⟨p + 1, by omega, rfl, by omega, by rw [ancL_some hp]; rfl⟩

theorem upAt_next {ts : List NodeD} {len y gk : Nat} {L D : List Nat} (h : UpAt ts len L D gk (some y)) : ∃ g, g < gk ∧ UpAt ts len L (D ++ (if kd ts y = 3 then [y] else [])) g (par (sz ts) y) := by
  obtain ⟨rfl, hy, hD⟩ := h
  cases hp : par (sz ts) y with
  | none =>
    refine ⟨0, by omega, ?_⟩
    rw [ancL_none hp, List.append_nil] at hD
    exact hD
  | some p =>
    have := (par_some hp).1
    refine ⟨p + 1, by omega, rfl, by omega, ?_⟩
    rw [ancL_some hp] at hD
    rw [List.append_assoc]
    exact hD

set_option maxRecDepth 100000 in
set_option maxHeartbeats 4000000 in
theorem aboveOf_any (a : Option Addr) (len cap : Nat) (ts : List NodeD) (x : Nat) (w : World) (hN : Nodes w a len ts) (hR : RightT ts len) (hx : x < len) :
    Calls Tryz.prog 37 #[.slice a len cap, .int .i64 (x : Int)] w (OwnPlPost (ancL ts x) w) := by
  have hlen := hR.le
  have hpar := fun (y : Nat) (hy : y < len) (w' : World) (h : Below w.heap.size w w') => parent_any a len cap ts y w' (hN.below h) hR.sizes (fun j hj => hR.nest.fit j hj) hy
  obtain ⟨b, off, rfl, hc⟩ := hN.at hR.pos
  have hkc := fun (y : Nat) (hy : y < len) => (hc y hy).kind
  obtain ⟨i0, hi, hz0, hz1, hz2⟩ := info_parts Tryz.infoInt
  obtain ⟨g0, hg0, hst⟩ := upAt_start (ts := ts) hx
  obtain ⟨L, hL⟩ : ∃ L, ancL ts x = L := ⟨_, rfl⟩
  have hLl : L.length ≤ 200 := by rw [← hL]; exact Nat.le_trans (ancL_good ts len x hx).le hlen
  rw [hL] at hst ⊢
  have HL := Lib.hid hL
  have HP := Lib.hid hpar
  have HKC := Lib.hid hkc
  have HST := Lib.hid hst
  have hp0 := Lib.hid (hpar x hx w (Below.refl _ _))
  clear hL hpar hN hkc hst hc
  go_enter Tryz.func37, Tryz.ntmps37
  go_wp2_with fail
  refine hp0.out.mono ?_
  rintro e w1 ⟨rfl, rfl⟩
  obtain ⟨z0, hz⟩ : ∃ z, parI (par (sz ts) x) = z := ⟨_, rfl⟩
  rw [hz]
  have HZ := Lib.hid hz.symm
  clear hp0 hz
  go_wp2
  go_loopg [1, 5] g0 (fun gk n o wr => ∃ (q : Option Nat) (D : List Nat) (z : Int), n = .int .i64 z ∧ Hid (z = parI q) ∧ Hid (UpAt ts len L D gk q) ∧ Hid (OwnPl wr w.heap.size o D) ∧ Hid (Below w.heap.size w wr))
  case atStart => exact ⟨par (sz ts) x, [], z0, rfl, HZ, HST, Lib.hid (World.ownsRow_nil _ _ _ _), Lib.hid (Below.refl _ _)⟩
  case round =>
    obtain ⟨q, D, z, rfl, hz, hu, hown, hbel⟩ := hrel
    cases q with
    | none =>
      have hd : D = L := hu.out
      have HO : Hid (OwnPl wr w.heap.size u5 L) := Lib.hid (by rw [← hd]; exact hown.out)
      have g1 : decide ((0 : Int) ≤ -1) = false := by decide
      obtain rfl : z = -1 := hz.out
      clear hd hu hown hz
      go_wp2
      go_ret
      exact ⟨_, rfl, HO, hbel⟩
    | some y =>
      have hy := hu.out.2.1
      have hDl : D.length ≤ 200 := by
        have := congrArg List.length hu.out.2.2
        rw [List.length_append] at this
        omega
      have ck := cell_below hbel.out (HKC.out y hy)
      have hpy := HP.out y hy wr hbel.out
      obtain ⟨g2, hg2, hu2⟩ := upAt_next hu.out
      have hkd : kd ts y = (ts.getD y default).kind := rfl
      obtain ⟨k, hk⟩ : ∃ k, (ts.getD y default).kind = k := ⟨_, rfl⟩
      rw [hk] at ck hkd
      rw [hkd] at hu2
      have HU2 := Lib.hid hu2
      have HPY := Lib.hid (fun w' (h : Below w.heap.size w w') => HP.out y hy w' h)
      have hyI : (y : Int) < (len : Int) := by omega
      have g1 : decide ((0 : Int) ≤ (y : Int)) = true := by simp
      obtain ⟨pq, hpq⟩ : ∃ pq, par (sz ts) y = pq := ⟨_, rfl⟩
      rw [hpq] at HU2
      simp only [hpq] at HPY
      obtain rfl : z = (y : Int) := hz.out
      obtain ⟨z2, hz2'⟩ : ∃ z, parI pq = z := ⟨_, rfl⟩
      have HZ2 := Lib.hid hz2'
      clear hk hkd hu2 hpq hpy hz hz2'
      by_cases h3 : k = 3
      · subst h3
        have hown2 : wr.ownsRow w.heap.size 3 1 u5 D.length (D.map intV) := hown.out
        rw [if_pos rfl] at HU2
        go_wp2_with (at_builtin; refine wpList_append_own _ rfl _ _ 23 rfl w.heap.size 3 i0 (.int .i64 0) 1 8 Tryz.underlying23 hi hz0 hz1 hz2 rfl (by decide) _ _ _ rfl (hown2.alloc _) ⟨wr.heap.size, 0, none⟩ 1 1 [.int .i64 (y : Int)] rfl rfl ?c1 ?c2 ?c3 ?c4 ?c5 ?_)
        case c1 =>
          intro j u hj
          match j, hj with
          | 0, hj => simp at hj; subst hj; simp [Addr.add]
        case c2 => intro u hu; simp at hu; subst hu; rfl
        case c3 => unfold maxLen; omega
        case c4 => omega
        case c5 => have := hbel.out.size; simp; omega
        intro v' w3 hown3 hgrow _
        have hbel3 : Below w.heap.size w w3 := (hbel.out.alloc hbel.out.size _).grown hgrow (by have := hbel.out.size; simp; omega) (fun q hq => (World.ownsRow.lt hown2 q hq).1)
        have hsn := ownInts_any_snoc (k := y) hown3
        have H3 := Lib.hid (And.intro hsn hbel3)
        have HC := Lib.hid (HPY.out w3 hbel3)
        clear hown3 hgrow hbel3 hsn hown2 ck
        go_wp2_with fail
        refine HC.out.mono ?_
        rintro e w4 ⟨rfl, rfl⟩
        rw [HZ2.out]
        go_wp2
        go_roundg g2
        case measure => omega
        case rel => exact ⟨pq, _, z2, rfl, Lib.hid HZ2.out.symm, HU2, Lib.hid H3.out.1, Lib.hid H3.out.2⟩
      · have g : (k == 3) = false := by simp [h3]
        rw [if_neg h3, List.append_nil] at HU2
        have HC := Lib.hid (HPY.out wr hbel.out)
        clear h3
        go_wp2_with fail
        refine HC.out.mono ?_
        rintro e w4 ⟨rfl, rfl⟩
        rw [HZ2.out]
        go_wp2
        go_roundg g2
        case measure => omega
        case rel => exact ⟨pq, D, z2, rfl, Lib.hid HZ2.out.symm, HU2, hown, hbel⟩

end Go.Proofs.YtphppdbhofeagaaGreat

namespace Go.Proofs.YtphppdbhofeagaaGreat
open Go.RowKit
set_option linter.unusedVariables false
set_option linter.unusedSimpArgs false

theorem ownPtrs_openUp {w : World} {B : Nat} {v : Value} {l : List Nat} (h : OwnPtrs w B v l) (h0 : 0 < l.length) : ∃ g cap, v = .slice (some ⟨g, 0, none⟩) l.length cap ∧ B ≤ g ∧ g < w.heap.size ∧ ∀ i, i < l.length → w.cell? ⟨g, i, none⟩ = some (.pointer (some ⟨l.getD i 0, 0, none⟩)) := by
  rcases h.2 with ⟨rfl, hz⟩ | ⟨g, cap, cur, rfl, hb, hg, hn, hm, hcs, ht⟩
  · omega
  · refine ⟨g, cap, rfl, hb, (Array.getElem?_eq_some_iff.1 hg).1, fun i hi => ?_⟩
    have := World.ownsRow.cells (h := h) (g := g) rfl i (ptrV (l.getD i 0)) (by simp [List.getD, hi])
    have hadd : (⟨g, 0, none⟩ : Addr).add i = ⟨g, i, none⟩ := by unfold Addr.add; split <;> simp_all
    rw [hadd] at this
    exact this

set_option maxRecDepth 100000 in
set_option maxHeartbeats 4000000 in
theorem mapManyUp {B : Nat} (v cv0 cv1 : Value) (l : List Nat) (F : Nat → List Nat) (w : World) (bl len : Nat) (nb : Nat → Nat) (vv : Nat → Value) (ts : List NodeD) (hF : Forest B w bl len nb vv ts)
    (hv : PtrsOf w v (l.map nb)) (hn : l.length ≤ 200) (hFl : ∀ x ∈ l, ∀ p ∈ F x, p < len) (hFn : ∀ x ∈ l, (F x).length ≤ 200) (hFo : ∀ x ∈ l, Once (F x))
    (hclo : ∀ k, k < l.length → ∀ w', Below w.heap.size w w' → Calls Tryz.prog 102 #[.int .i64 (k : Int), .pointer (some ⟨nb (l.getD k 0), 0, none⟩), cv0, cv1] w' (OwnPtrsPost ((F (l.getD k 0)).map nb) w')) :
    Calls Tryz.prog 77 #[v, .func (.func 102) #[] #[cv0, cv1]] w (OwnPtrsPost ((onceF (l.flatMap F)).map nb) w) := by
  obtain ⟨a, cap, b, off, rfl, hm, ha, hc⟩ := ptrs_open hv
  rw [List.length_map] at ha hc hm ⊢
  have hcell : ∀ k, k < l.length → w.cell? ⟨b, off + k, none⟩ = some (.pointer (some ⟨nb (l.getD k 0), 0, none⟩)) := fun k hk => by
    have h1 := hc k hk
    have e1 : (l.map nb).getD k 0 = nb (l.getD k 0) := by simp [List.getD, hk]
    rwa [e1] at h1
  rcases (show l.length = 0 ∨ l.length = 1 ∨ 2 ≤ l.length by omega) with h0 | h1 | h2
  · have hl : l = [] := List.length_eq_zero_iff.1 h0
    subst hl
    clear hc hcell hclo hF hv ha hFl hFn hFo
    go_enter Tryz.func77, Tryz.ntmps77
    go_wp2
    go_ret
    exact ⟨_, rfl, Lib.hid (World.ownsRow_nil _ _ _ _), Lib.hid (Below.refl _ _)⟩
  · obtain rfl := ha (by omega)
    have hcl := hclo 0 (by omega) w (Below.refl _ _)
    have ck := hcell 0 (by omega)
    rw [Nat.add_zero] at ck
    have hst : onceF (l.flatMap F) = F (l.getD 0 0) := by
      match l, h1, hFo with
      | [x], _, hFo =>
        simp only [List.flatMap_cons, List.flatMap_nil, List.append_nil, List.getD, List.getElem?_cons_zero, Option.getD_some]
        exact onceF_of_once (hFo x (by simp))
    rw [hst, h1]
    have hcl' : Calls Tryz.prog 102 #[.int .i64 0, .pointer (some ⟨nb (l.getD 0 0), 0, none⟩), cv0, cv1] w (OwnPtrsPost ((F (l.getD 0 0)).map nb) w) := hcl
    have HCL := Lib.hid hcl'
    clear hcl hcl' hc hcell hclo hF hv hst ha hFl hFn hFo
    obtain ⟨x, hx⟩ : ∃ x, nb (l.getD 0 0) = x := ⟨_, rfl⟩
    rw [hx] at ck HCL
    clear hx
    go_enter Tryz.func77, Tryz.ntmps77
    go_wp2_with fail
    refine HCL.out.mono ?_
    rintro e w1 ⟨vr, rfl, ho, hb1⟩
    go_wp2
    go_ret
    exact ⟨_, rfl, ho, hb1⟩
  · have hb0 : Below w.heap.size w (w.alloc (.map #[] 0)) := (Below.refl _ _).alloc (Nat.le_refl _) _
    have hs0 := PSet.made w
    have hmk := run_makeMap_hint (P := Tryz.prog) Tryz.underlying93 (l.length : Int) w
    obtain ⟨w0, hw0⟩ : ∃ w0, w.alloc (.map #[] 0) = w0 := ⟨_, rfl⟩
    rw [hw0] at hb0 hs0 hmk
    have hlow : ∀ p, p < len → nb p < w.heap.size := fun p hp => (hF.node hp).alive.lt
    have halw : ∀ i, i < len → Alive w (nb i) := fun i hi => (hF.node hi).alive
    have hinj : ∀ i j, i < len → j < len → nb i = nb j → i = j := fun i j hi hj h => hF.seg.inj i j (Nat.zero_le _) hi (Nat.zero_le _) hj h
    obtain ⟨m, hmm⟩ : ∃ m, w.heap.size = m := ⟨_, rfl⟩
    rw [hmm] at hs0 hmk hb0 hlow hclo
    have g0 : ((l.length : Int) == 0) = false := beq_eq_false_iff_ne.2 (by omega)
    have g1 : ((l.length : Int) == 1) = false := beq_eq_false_iff_ne.2 (by omega)
    have hlI : (0 : Int) < (l.length : Int) := by omega
    have HA := Lib.hid ha
    have HC := Lib.hid hcell
    have HG := Lib.hid (And.intro hlow (And.intro halw hinj))
    have HCLO := Lib.hid hclo
    have HFX := Lib.hid (And.intro hFl hFn)
    have HS0 := Lib.hid (And.intro hb0 hs0)
    have hne0 : ¬ l = [] := by intro h; rw [h] at h2; simp at h2
    clear hF hv ha hc hcell hclo hlow halw hinj hb0 hs0 hFl hFn hFo
    go_enter Tryz.func77, Tryz.ntmps77
    go_wp2
    clear hmk hw0
    go_loopw [4, 25] (fun x i wr => ∃ (k : Nat) (D : List Nat), i = .int .i64 k ∧ k ≤ l.length ∧ D.length ≤ 200 * k ∧ (onceF ((l.take k).flatMap F)).map nb = D ∧ OwnPtrs wr (m + 1) x D ∧ PSet wr m D ∧ Below m w wr)
      (fun _ i _ => l.length - (intOf i).toNat)
    case atStart => exact ⟨0, [], by go_num, by omega, by simp, rfl, World.ownsRow_nil _ _ _ _, HS0.out.2, HS0.out.1⟩
    case round =>
      obtain ⟨k, D, rfl, hk, hdl, hdone, hown, hps, hbel⟩ := hrel
      by_cases hlt : k < l.length
      · obtain rfl := HA.out (by omega)
        have ck : wr.cell? ⟨b, off + k, none⟩ = some (.pointer (some ⟨nb (l.getD k 0), 0, none⟩)) := by
          have h1 := HC.out k hlt
          exact (hbel.cell (p := ⟨b, off + k, none⟩) (by rw [← hmm]; exact World.block_lt_of_cell? _ _ h1)).trans h1
        have hcl := HCLO.out k hlt wr hbel
        have hmem := getD_mem' (d := 0) hlt
        have htk : (l.take (k + 1)).flatMap F = (l.take k).flatMap F ++ F (l.getD k 0) := by rw [take_snoc hlt, List.flatMap_append]; simp
        have hVl := HFX.out.1 _ hmem
        have hVn := HFX.out.2 _ hmem
        have hDl0 : ∀ i ∈ onceF ((l.take k).flatMap F), i < len := fun i hi => by
          obtain ⟨y, hy, hyi⟩ := List.mem_flatMap.1 (onceF_mem.1 hi)
          exact HFX.out.1 y (List.mem_of_mem_take hy) i hyi
        obtain ⟨x, hxx⟩ : ∃ x, l.getD k 0 = x := ⟨_, rfl⟩
        rw [hxx] at ck hcl htk hVl hVn
        obtain ⟨V, hV⟩ : ∃ V, F x = V := ⟨_, rfl⟩
        rw [hV] at hcl htk hVl hVn
        have hstep : (onceF ((l.take (k + 1)).flatMap F)).map nb = withAll D (V.map nb) := by
          rw [htk, once_withAll, ← hdone, withAll_map HG.out.2.2 V _ hDl0 hVl]
        have hDq : ∀ q ∈ D, q < m ∧ Alive w q := fun q hq => by
          rw [← hdone] at hq
          obtain ⟨i, hi, rfl⟩ := List.mem_map.1 hq
          exact ⟨HG.out.1 i (hDl0 i hi), HG.out.2.1 i (hDl0 i hi)⟩
        have hVq : ∀ q ∈ V.map nb, q < m ∧ Alive w q := fun q hq => by
          obtain ⟨i, hi, rfl⟩ := List.mem_map.1 hq
          exact ⟨HG.out.1 i (hVl i hi), HG.out.2.1 i (hVl i hi)⟩
        obtain ⟨Vb, hVb⟩ : ∃ Vb, V.map nb = Vb := ⟨_, rfl⟩
        have hVbl : Vb.length ≤ 200 := by rw [← hVb, List.length_map]; exact hVn
        rw [hVb] at hcl hstep hVq
        have hkI : (k : Int) < (l.length : Int) := by omega
        have hml := hps.lt
        have HCL := Lib.hid hcl
        have H := Lib.hid (And.intro hstep (And.intro hown (And.intro hps hbel)))
        have HQ := Lib.hid (And.intro hDq hVq)
        clear hcl hstep hown hps hbel hxx hmem htk hVl hVn hDl0 hV hDq hVq hVb hdone
        go_wp2_with fail
        refine HCL.out.mono ?_
        rintro e w2 ⟨vr, rfl, ho2, hb2⟩
        have hown2 : OwnPtrs w2 (m + 1) u4 D := ownsRow_kept H.out.2.1 (fun q hq => hb2.out.block q (World.ownsRow.lt H.out.2.1 q hq).2)
        have hps2 := H.out.2.2.1.below hb2.out
        have hbel2 : Below m w w2 := H.out.2.2.2.trans (hb2.out.mono (Nat.le_of_lt hml))
        by_cases hV0 : Vb.length = 0
        · obtain ⟨ra, rc, hrv, _⟩ := ho2.out.ptrs.nil
          rw [List.length_map, hV0] at hrv
          subst hrv
          have hsk : (onceF ((l.take (k + 1)).flatMap F)).map nb = D := by rw [H.out.1, List.eq_nil_of_length_eq_zero hV0]; rfl
          have H2 := Lib.hid (And.intro hsk (And.intro hown2 (And.intro hps2 hbel2)))
          clear hb2 hown2 hps2 hbel2 HCL ck ho2 hsk hV0 H
          go_wp2
          go_roundw
          case rel => exact ⟨k + 1, D, by go_num, by omega, by omega, H2.out.1, H2.out.2.1, H2.out.2.2.1, H2.out.2.2.2⟩
          case measure => simp [intOf]; omega
        · obtain ⟨g, rc, hrv, hgb, hgl, hgc⟩ := ownPtrs_openUp ho2.out (by omega)
          subst hrv
          have hvl : (0 : Int) < (Vb.length : Int) := by omega
          have gvl : decide ((0 : Int) < (Vb.length : Int)) = true := decide_eq_true hvl
          have gvn : decide (0 < Vb.length) = true := decide_eq_true (by omega)
          have happ := appendMany_any u4 D Vb m g rc w2 hown2 hps2 hgc (by omega) hgl (fun e => by have := (World.ownsRow.lt H.out.2.1 g e).2; omega)
            (fun q hq => (HQ.out.1 q hq).2.low (HQ.out.1 q hq).1 hbel2) (fun q hq => (HQ.out.1 q hq).1) (fun q hq => (HQ.out.2 q hq).2.low (HQ.out.2 q hq).1 hbel2) (fun q hq => (HQ.out.2 q hq).1) (by omega) hVbl
          have hwl := withAll_len D Vb
          have HWL := Lib.hid hwl
          have HAPP := Lib.hid happ
          have HB2 := Lib.hid hbel2
          obtain ⟨ua, uc, hu4, _⟩ := hown2.ptrs.nil
          rw [List.length_map] at hu4
          subst hu4
          clear happ hb2 hown2 hps2 hbel2 HCL ck ho2 hgb hgl hgc hwl
          go_wp2_with fail
          refine HAPP.out.mono ?_
          rintro e w3 ⟨v3, rfl, ho3, hp3, hb3⟩
          have HB3 := Lib.hid (HB2.out.trans hb3.out)
          clear hb3 HAPP
          go_wp2
          go_roundw
          case rel => exact ⟨k + 1, withAll D Vb, by go_num, by omega, by have := HWL.out; omega, H.out.1, ho3.out, hp3.out, HB3.out⟩
          case measure => simp [intOf]; omega
      · obtain rfl : k = l.length := by omega
        have hd := hdone
        rw [List.take_length] at hd
        have HO : Hid (OwnPtrs wr w.heap.size u4 ((onceF (l.flatMap F)).map nb)) := Lib.hid (by rw [hd]; exact ownsRow_base hown (by omega))
        have HB : Hid (Below w.heap.size w wr) := Lib.hid (by rw [hmm]; exact hbel)
        clear hdone hd hown hps hbel hlt
        go_wp2
        go_ret
        exact ⟨_, rfl, HO, HB⟩

end Go.Proofs.YtphppdbhofeagaaGreat

namespace Go.Proofs.YtphppdbhofeagaaGreat
open Go.RowKit
set_option linter.unusedVariables false
set_option linter.unusedSimpArgs false

set_option maxRecDepth 100000 in
set_option maxHeartbeats 4000000 in
theorem upClo_any {B : Nat} (i : Int) (x bm bs : Nat) (w : World) (bl len : Nat) (nb : Nat → Nat) (vv : Nat → Value) (ts : List NodeD) (hF : Forest B w bl len nb vv ts) (hR : RightT ts len) (hx : x < len)
    (cm : w.cell? ⟨bm, 0, none⟩ = some .nilIface) (cs : w.cell? ⟨bs, 0, none⟩ = some (.slice none 0 0)) :
    Calls Tryz.prog 102 #[.int .i64 i, .pointer (some ⟨nb x, 0, none⟩), .pointer (some ⟨bm, 0, none⟩), .pointer (some ⟨bs, 0, none⟩)] w (OwnPtrsPost ((ancL ts x).map nb) w) := by
  obtain ⟨i0, hi, hz0, hz1, hz2⟩ := info_parts Tryz.infoPtr
  have hlen := hR.le
  obtain ⟨L, hL⟩ : ∃ L, ancL ts x = L := ⟨_, rfl⟩
  have hLl : L.length ≤ 200 := by rw [← hL]; exact Nat.le_trans (ancL_good ts len x hx).le hlen
  rw [hL]
  have HL := Lib.hid hL
  have HF := Lib.hid hF
  have HR := Lib.hid hR
  obtain ⟨g0, hg0, hst⟩ := upAt_start (ts := ts) hx
  rw [hL] at hst
  have kx := (hF.node hx).par
  rw [show (nodeR (fun i => i + sz ts i) 0 nb (ts.getD x default) (vv x) x).par = (up (fun i => i + sz ts i) 0 x).map nb from rfl, up_par] at kx
  obtain ⟨q0, hq0⟩ : ∃ q0, par (sz ts) x = q0 := ⟨_, rfl⟩
  rw [hq0] at kx hst
  obtain ⟨p0, hp0⟩ : ∃ p0, lk (q0.map nb) = p0 := ⟨_, rfl⟩
  rw [hp0] at kx
  have HST := Lib.hid hst
  have HP0 := Lib.hid hp0.symm
  clear hL hF hR hst hq0 hp0
  go_enter Tryz.func102, Tryz.ntmps102
  go_wp2
  go_loopg [7, 6] g0 (fun gk n o wr => ∃ (q : Option Nat) (D : List Nat), Hid (n = lk (q.map nb)) ∧ Hid (UpAt ts len L D gk q) ∧ Hid (OwnPtrs wr w.heap.size o (D.map nb)) ∧ Hid (Below w.heap.size w wr))
  case atStart => exact ⟨q0, [], HP0, HST, Lib.hid (World.ownsRow_nil _ _ _ _), Lib.hid (Below.refl _ _)⟩
  case round =>
    obtain ⟨q, D, hn, hu, hown, hbel⟩ := hrel
    have cm1 := cell_below hbel.out cm
    have cs1 := cell_below hbel.out cs
    cases q with
    | none =>
      obtain rfl := hn.out.trans (show lk (Option.map nb none) = .pointer none from rfl)
      have hd : D = L := hu.out
      have HO : Hid (OwnPtrs wr w.heap.size u6 (L.map nb)) := Lib.hid (by rw [← hd]; exact hown.out)
      clear hd hu hown hn
      go_wp2
      go_ret
      exact ⟨_, rfl, HO, hbel⟩
    | some y =>
      obtain rfl := hn.out.trans (show lk (Option.map nb (some y)) = .pointer (some ⟨nb y, 0, none⟩) from rfl)
      have hy := hu.out.2.1
      have hDl : D.length ≤ 200 := by
        have := congrArg List.length hu.out.2.2
        rw [List.length_append] at this
        omega
      have ny := HF.out.node hy
      have kt := cell_below hbel.out ny.ty
      rw [show (nodeR (fun i => i + sz ts i) 0 nb (ts.getD y default) (vv y) y).ty = tyOf (kd ts y) from rfl] at kt
      have kp := ny.par
      rw [show (nodeR (fun i => i + sz ts i) 0 nb (ts.getD y default) (vv y) y).par = (up (fun i => i + sz ts i) 0 y).map nb from rfl, up_par] at kp
      obtain ⟨g2, hg2, hu2⟩ := upAt_next hu.out
      obtain ⟨pq, hpq⟩ : ∃ pq, par (sz ts) y = pq := ⟨_, rfl⟩
      rw [hpq] at kp hu2
      obtain ⟨pv, hpv⟩ : ∃ pv, lk (pq.map nb) = pv := ⟨_, rfl⟩
      rw [hpv] at kp
      have HPV := Lib.hid hpv.symm
      have HKP := Lib.hid kp
      by_cases h3 : kd ts y = 3
      · rw [if_pos h3] at hu2
        have HU2 := Lib.hid hu2
        rw [show tyOf (kd ts y) = 3 by rw [h3]; rfl] at kt
        have hown2 : wr.ownsRow w.heap.size 75 1 u6 (D.map nb).length ((D.map nb).map ptrV) := hown.out
        have hDm : (D.map nb).length ≤ 200 := by rw [List.length_map]; exact hDl
        clear h3 hu2 hpq hpv hu hn ny kp
        go_wp2_with (at_builtin; refine wpList_append_own _ rfl _ _ 53 rfl w.heap.size 75 i0 (.pointer none) 1 8 Tryz.underlying53 hi hz0 hz1 hz2 rfl (by decide) _ _ _ rfl (hown2.alloc _) ⟨wr.heap.size, 0, none⟩ 1 1 [.pointer (some ⟨nb y, 0, none⟩)] rfl rfl ?c1 ?c2 ?c3 ?c4 ?c5 ?_)
        case c1 =>
          intro j u hj
          match j, hj with
          | 0, hj => simp at hj; subst hj; simp [Addr.add]
        case c2 => intro u hu; simp at hu; subst hu; rfl
        case c3 => unfold maxLen; omega
        case c4 => omega
        case c5 => have := hbel.out.size; simp; omega
        intro v' w3 hown3 hgrow _
        have hbel3 : Below w.heap.size w w3 := (hbel.out.alloc hbel.out.size _).grown hgrow (by have := hbel.out.size; simp; omega) (fun q hq => (World.ownsRow.lt hown2 q hq).1)
        have hsn : OwnPtrs w3 w.heap.size v' ((D ++ [y]).map nb) := by unfold OwnPtrs; simpa [ptrV] using hown3
        have H3 := Lib.hid hsn
        have HB3 := Lib.hid hbel3
        have kp3 := cell_below hbel3 HKP.out
        clear hown3 hgrow hbel3 hsn hown2 kt hown hbel
        go_wp2
        go_roundg g2
        case measure => omega
        case rel => exact ⟨pq, D ++ [y], HPV, HU2, H3, HB3⟩
      · have ht : tyOf (kd ts y) ≠ 3 := by
          rcases Nat.eq_zero_or_pos y with h0 | h0
          · rw [h0, HR.out.kind]; exact tyOf_root
          · rcases HR.out.kinds hy h0 with hk | ⟨hk | hk | hk, _⟩
            · exact absurd hk h3
            · exact tyOf_ne (.inr (.inl hk))
            · exact tyOf_ne (.inr (.inr (.inl hk)))
            · exact tyOf_ne (.inr (.inr (.inr hk)))
        rw [if_neg h3, List.append_nil] at hu2
        have HU2 := Lib.hid hu2
        obtain ⟨t, hte⟩ : ∃ t, tyOf (kd ts y) = t := ⟨_, rfl⟩
        rw [hte] at kt ht
        have gt : (t == 3) = false := by simp [ht]
        have kp3 := cell_below hbel.out HKP.out
        clear h3 hu2 hpq hpv hu hn ny kp hte ht
        go_wp2
        go_roundg g2
        case measure => omega
        case rel => exact ⟨pq, D, HPV, HU2, hown, hbel⟩

set_option maxRecDepth 100000 in
set_option maxHeartbeats 2000000 in
theorem getParents_any {B : Nat} (v : Value) (l : List Nat) (w : World) (bl len : Nat) (nb : Nat → Nat) (vv : Nat → Value) (ts : List NodeD) (hF : Forest B w bl len nb vv ts) (hR : RightT ts len) (hv : PtrsOf w v (l.map nb)) (hin : ∀ i ∈ l, i < len) (hn : l.length ≤ 200) :
    Calls Tryz.prog 84 #[v, .nilIface, .slice none 0 0] w (OwnPtrsPost ((onceF (l.flatMap (ancL ts))).map nb) w) := by
  have hlen := hR.le
  have hmap : ∀ w0, Below w.heap.size w w0 → w0.cell? ⟨w.heap.size, 0, none⟩ = some .nilIface → w0.cell? ⟨w.heap.size + 1, 0, none⟩ = some (.slice none 0 0) →
      Calls Tryz.prog 77 #[v, .func (.func 102) #[] #[.pointer (some ⟨w.heap.size, 0, none⟩), .pointer (some ⟨w.heap.size + 1, 0, none⟩)]] w0 (OwnPtrsPost ((onceF (l.flatMap (ancL ts))).map nb) w0) := fun w0 hb c0 c1 =>
    mapManyUp v _ _ l (ancL ts) w0 bl len nb vv ts (hF.below hb) (hv.below hb) hn (fun x hx => (ancL_good ts len x (hin x hx)).lt) (fun x hx => Nat.le_trans (ancL_good ts len x (hin x hx)).le hlen) (fun x hx => (ancL_good ts len x (hin x hx)).once) (fun k hk w' hb' => by
      have hmem := getD_mem' (d := 0) hk
      have hbw : Below w.heap.size w w' := hb.trans (hb'.mono hb.size)
      exact upClo_any (k : Int) (l.getD k 0) w.heap.size (w.heap.size + 1) w' bl len nb vv ts (hF.below hbw) hR (hin _ hmem) (cell_below hb' c0) (cell_below hb' c1))
  obtain ⟨R, hR2⟩ : ∃ R, (onceF (l.flatMap (ancL ts))).map nb = R := ⟨_, rfl⟩
  rw [hR2] at hmap ⊢
  have HM := Lib.hid hmap
  clear hmap hR2 hF hR hv hin
  have hmf : ∀ (fn : Fn) (first cap : Array Value) (w : World), (Instr.makeFunc fn first cap).run Tryz.prog w = .ok (.func fn first cap) w := fun _ _ _ _ => rfl
  go_enter Tryz.func84, Tryz.ntmps84
  go_wp2_with fail
  refine (HM.out _ (((Below.refl _ _).alloc (Nat.le_refl _) _).alloc (by simp) _) (cell_alloc_old (cell_alloc_new' _ _ _ rfl rfl) _) (cell_alloc_new' _ _ _ (by simp) rfl)).mono ?_
  rintro e w1 ⟨v', rfl, ho, hb⟩
  have HB : Hid (Below w.heap.size w w1) := Lib.hid ((((Below.refl _ _).alloc (Nat.le_refl _) _).alloc (by simp) _).trans (hb.out.mono (by simp; omega)))
  have hown : Hid (OwnPtrs w1 w.heap.size v' R) := Lib.hid (ownsRow_base ho.out (by simp; omega))
  clear ho hb HM
  go_wp2
  go_ret
  exact ⟨v', rfl, hown, HB⟩

end Go.Proofs.YtphppdbhofeagaaGreat

