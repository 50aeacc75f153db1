/- The elements above a place, the nearest one first; spec.AboveOf. -/
import Derived.Test.YtphppdbhofeagaaGreatSibEnd
import Derived.Test.YtphppdbhofeagaaGreatBesideOf
import Derived.Deep.AppendLies
namespace Go.Proofs.YtphppdbhofeagaaGreat
open Go.RowKit
set_option linter.unusedVariables false
set_option linter.unusedSimpArgs false

def ancF (ts : List NodeD) : Nat → Nat → List Nat
  | 0, _ => []
  | f + 1, x => match par (sz ts) x with | none => [] | some p => (if kd ts p = 3 then [p] else []) ++ ancF ts f p

theorem ancF_more (ts : List NodeD) : ∀ (f g x : Nat), x ≤ f → x ≤ g → ancF ts f x = ancF ts g x
  | 0, g, x, h, _ => by
    obtain rfl : x = 0 := by omega
    cases g with
    | zero => rfl
    | succ g =>
      simp only [ancF]
      cases hp : par (sz ts) 0 with
      | none => rfl
      | some p => have := (par_some hp).1; omega
  | f + 1, 0, x, _, h => by
    obtain rfl : x = 0 := by omega
    simp only [ancF]
    cases hp : par (sz ts) 0 with
    | none => rfl
    | some p => have := (par_some hp).1; omega
  | f + 1, g + 1, x, h, h2 => by
    simp only [ancF]
    cases hp : par (sz ts) x with
    | none => rfl
    | some p =>
      have := (par_some hp).1
      simp only
      rw [ancF_more ts f g p (by omega) (by omega)]

def ancL (ts : List NodeD) (x : Nat) : List Nat := ancF ts x x

theorem ancL_none {ts : List NodeD} {x : Nat} (h : par (sz ts) x = none) : ancL ts x = [] := by
  unfold ancL
  cases x with
  | zero => rfl
  | succ x => simp only [ancF, h]

theorem ancL_some {ts : List NodeD} {x p : Nat} (h : par (sz ts) x = some p) : ancL ts x = (if kd ts p = 3 then [p] else []) ++ ancL ts p := by
  have hlt := (par_some h).1
  unfold ancL
  cases x with
  | zero => omega
  | succ x =>
    simp only [ancF, h]
    rw [ancF_more ts x p p (by omega) (Nat.le_refl _)]

theorem ancL_lt {ts : List NodeD} : ∀ {x : Nat}, ∀ q ∈ ancL ts x, q < x := by
  intro x
  induction x using Nat.strongRecOn with
  | ind x ih =>
    intro q hq
    cases hp : par (sz ts) x with
    | none => rw [ancL_none hp] at hq; simp at hq
    | some p =>
      have hlt := (par_some hp).1
      rw [ancL_some hp, List.mem_append] at hq
      rcases hq with hq | hq
      · split at hq <;> simp at hq
        omega
      · have := ih p hlt q hq
        omega

theorem ancL_pair {ts : List NodeD} : ∀ {x : Nat}, (ancL ts x).Pairwise (· > ·) := by
  intro x
  induction x using Nat.strongRecOn with
  | ind x ih =>
    cases hp : par (sz ts) x with
    | none => rw [ancL_none hp]; exact List.Pairwise.nil
    | some p =>
      have hlt := (par_some hp).1
      rw [ancL_some hp]
      split
      · exact List.Pairwise.cons (fun q hq => ancL_lt q hq) (ih p hlt)
      · exact ih p hlt

theorem ancL_good (ts : List NodeD) (len x : Nat) (hx : x < len) : GoodL len (ancL ts x) :=
  ⟨fun q hq => by have := ancL_lt q hq; omega, once_of_nodup (ancL_pair.imp (fun h => Nat.ne_of_gt h))⟩

/-- What is told of the way up: at a place that is next, or at the end. -/
def UpAt (ts : List NodeD) (len : Nat) (L D : List Nat) (gk : Nat) : Option Nat → Prop
  | none => D = L
  | some y => gk = y + 1 ∧ y < len ∧ D ++ ((if kd ts y = 3 then [y] else []) ++ ancL ts y) = L

theorem upAt_start {ts : List NodeD} {len x : Nat} (hx : x < len) : ∃ gk, gk ≤ x ∧ UpAt ts len (ancL ts x) [] gk (par (sz ts) x) := by
  cases hp : par (sz ts) x with
  | none => exact ⟨0, Nat.zero_le _, (ancL_none hp).symm⟩
  | some p =>
    have := (par_some hp).1
    exact ⟨p + 1, by omega, rfl, by omega, by rw [ancL_some hp]; rfl⟩

theorem upAt_next {ts : List NodeD} {len y gk : Nat} {L D : List Nat} (h : UpAt ts len L D gk (some y)) : ∃ g, g < gk ∧ UpAt ts len L (D ++ (if kd ts y = 3 then [y] else [])) g (par (sz ts) y) := by
  obtain ⟨rfl, hy, hD⟩ := h
  cases hp : par (sz ts) y with
  | none =>
    refine ⟨0, by omega, ?_⟩
    rw [ancL_none hp, List.append_nil] at hD
    exact hD
  | some p =>
    have := (par_some hp).1
    refine ⟨p + 1, by omega, rfl, by omega, ?_⟩
    rw [ancL_some hp] at hD
    rw [List.append_assoc]
    exact hD

set_option maxRecDepth 100000 in
set_option maxHeartbeats 4000000 in
theorem aboveOf_any (a : Option Addr) (len cap : Nat) (ts : List NodeD) (x : Nat) (w : World) (hN : Nodes w a len ts) (hR : RightT ts len) (hx : x < len) :
    Calls Tryz.prog 37 #[.slice a len cap, .int .i64 (x : Int)] w (OwnPlPost (ancL ts x) w) := by
  have hlen := hR.le
  have hpar := fun (y : Nat) (hy : y < len) (w' : World) (h : Below w.heap.size w w') => parent_any a len cap ts y w' (hN.below h) hR.sizes (fun j hj => hR.nest.fit j hj) hy
  obtain ⟨b, off, rfl, hc⟩ := hN.at hR.pos
  have hkc := fun (y : Nat) (hy : y < len) => (hc y hy).kind
  obtain ⟨i0, hi, hz0, hz1, hz2⟩ := info_parts Tryz.infoInt
  obtain ⟨g0, hg0, hst⟩ := upAt_start (ts := ts) hx
  obtain ⟨L, hL⟩ : ∃ L, ancL ts x = L := ⟨_, rfl⟩
  have hLl : L.length ≤ 200 := by rw [← hL]; exact Nat.le_trans (ancL_good ts len x hx).le hlen
  rw [hL] at hst ⊢
  have HL := Lib.hid hL
  have HP := Lib.hid hpar
  have HKC := Lib.hid hkc
  have HST := Lib.hid hst
  have hp0 := Lib.hid (hpar x hx w (Below.refl _ _))
  clear hL hpar hN hkc hst hc
  go_enter Tryz.func37, Tryz.ntmps37
  go_wp2_with fail
  refine hp0.out.mono ?_
  rintro e w1 ⟨rfl, rfl⟩
  obtain ⟨z0, hz⟩ : ∃ z, parI (par (sz ts) x) = z := ⟨_, rfl⟩
  rw [hz]
  have HZ := Lib.hid hz.symm
  clear hp0 hz
  go_wp2
  go_loopg [1, 5] g0 (fun gk n o wr => ∃ (q : Option Nat) (D : List Nat) (z : Int), n = .int .i64 z ∧ Hid (z = parI q) ∧ Hid (UpAt ts len L D gk q) ∧ Hid (OwnPl wr w.heap.size o D) ∧ Hid (Below w.heap.size w wr))
  case atStart => exact ⟨par (sz ts) x, [], z0, rfl, HZ, HST, Lib.hid (World.ownsRow_nil _ _ _ _), Lib.hid (Below.refl _ _)⟩
  case round =>
    obtain ⟨q, D, z, rfl, hz, hu, hown, hbel⟩ := hrel
    cases q with
    | none =>
      have hd : D = L := hu.out
      have HO : Hid (OwnPl wr w.heap.size u5 L) := Lib.hid (by rw [← hd]; exact hown.out)
      have g1 : decide ((0 : Int) ≤ -1) = false := by decide
      obtain rfl : z = -1 := hz.out
      clear hd hu hown hz
      go_wp2
      go_ret
      exact ⟨_, rfl, HO, hbel⟩
    | some y =>
      have hy := hu.out.2.1
      have hDl : D.length ≤ 200 := by
        have := congrArg List.length hu.out.2.2
        rw [List.length_append] at this
        omega
      have ck := cell_below hbel.out (HKC.out y hy)
      have hpy := HP.out y hy wr hbel.out
      obtain ⟨g2, hg2, hu2⟩ := upAt_next hu.out
      have hkd : kd ts y = (ts.getD y default).kind := rfl
      obtain ⟨k, hk⟩ : ∃ k, (ts.getD y default).kind = k := ⟨_, rfl⟩
      rw [hk] at ck hkd
      rw [hkd] at hu2
      have HU2 := Lib.hid hu2
      have HPY := Lib.hid (fun w' (h : Below w.heap.size w w') => HP.out y hy w' h)
      have hyI : (y : Int) < (len : Int) := by omega
      have g1 : decide ((0 : Int) ≤ (y : Int)) = true := by simp
      obtain ⟨pq, hpq⟩ : ∃ pq, par (sz ts) y = pq := ⟨_, rfl⟩
      rw [hpq] at HU2
      simp only [hpq] at HPY
      obtain rfl : z = (y : Int) := hz.out
      obtain ⟨z2, hz2'⟩ : ∃ z, parI pq = z := ⟨_, rfl⟩
      have HZ2 := Lib.hid hz2'
      clear hk hkd hu2 hpq hpy hz hz2'
      by_cases h3 : k = 3
      · subst h3
        have hown2 : wr.ownsRow w.heap.size 3 1 u5 D.length (D.map intV) := hown.out
        rw [if_pos rfl] at HU2
        go_wp2_with (at_builtin; refine wpList_append_own _ rfl _ _ 23 rfl w.heap.size 3 i0 (.int .i64 0) 1 8 Tryz.underlying23 hi hz0 hz1 hz2 rfl (by decide) _ _ _ rfl (hown2.alloc _) ⟨wr.heap.size, 0, none⟩ 1 1 [.int .i64 (y : Int)] rfl rfl ?c1 ?c2 ?c3 ?c4 ?c5 ?_)
        case c1 =>
          intro j u hj
          match j, hj with
          | 0, hj => simp at hj; subst hj; simp [Addr.add]
        case c2 => intro u hu; simp at hu; subst hu; rfl
        case c3 => unfold maxLen; omega
        case c4 => omega
        case c5 => have := hbel.out.size; simp; omega
        intro v' w3 hown3 hgrow _
        have hbel3 : Below w.heap.size w w3 := (hbel.out.alloc hbel.out.size _).grown hgrow (by have := hbel.out.size; simp; omega) (fun q hq => (World.ownsRow.lt hown2 q hq).1)
        have hsn := ownInts_any_snoc (k := y) hown3
        have H3 := Lib.hid (And.intro hsn hbel3)
        have HC := Lib.hid (HPY.out w3 hbel3)
        clear hown3 hgrow hbel3 hsn hown2 ck
        go_wp2_with fail
        refine HC.out.mono ?_
        rintro e w4 ⟨rfl, rfl⟩
        rw [HZ2.out]
        go_wp2
        go_roundg g2
        case measure => omega
        case rel => exact ⟨pq, _, z2, rfl, Lib.hid HZ2.out.symm, HU2, Lib.hid H3.out.1, Lib.hid H3.out.2⟩
      · have g : (k == 3) = false := by simp [h3]
        rw [if_neg h3, List.append_nil] at HU2
        have HC := Lib.hid (HPY.out wr hbel.out)
        clear h3
        go_wp2_with fail
        refine HC.out.mono ?_
        rintro e w4 ⟨rfl, rfl⟩
        rw [HZ2.out]
        go_wp2
        go_roundg g2
        case measure => omega
        case rel => exact ⟨pq, D, z2, rfl, Lib.hid HZ2.out.symm, HU2, hown, hbel⟩

end Go.Proofs.YtphppdbhofeagaaGreat
