/- The parents of places, those that are elements. Plain: no program. goquery.getParentNodes. -/
import Derived.Test.YtphppdbhofeagaaGreatOnceF
import Derived.Test.YtphppdbhofeagaaGreatLinkAll
import Derived.Test.YtphppdbhofeagaaGreatRightAll
import Derived.Test.YtphppdbhofeagaaGreatPtrSetAll
import Derived.Test.YtphppdbhofeagaaGreatSelBase
import Derived.Test.YtphppdbhofeagaaGreatGrowAll
import Derived.Test.YtphppdbhofeagaaGreatTyOf
namespace Go.Proofs.YtphppdbhofeagaaGreat
open Go.RowKit
set_option linter.unusedVariables false
set_option linter.unusedSimpArgs false

/-- The parent that is an element. -/
def parEl (ts : List NodeD) (x : Nat) : Option Nat := match par (sz ts) x with | some p => if kd ts p = 3 then some p else none | none => none

theorem parEl_none {ts : List NodeD} {x : Nat} (h : par (sz ts) x = none) : parEl ts x = none := by unfold parEl; rw [h]
theorem parEl_some {ts : List NodeD} {x p : Nat} (h : par (sz ts) x = some p) : parEl ts x = if kd ts p = 3 then some p else none := by unfold parEl; rw [h]

def parList (ts : List NodeD) (l : List Nat) : List Nat := l.filterMap (parEl ts)

theorem parList_take {ts : List NodeD} {l : List Nat} {k : Nat} (hk : k < l.length) : parList ts (l.take (k + 1)) = parList ts (l.take k) ++ (parEl ts (l.getD k 0)).toList := by
  unfold parList
  rw [take_snoc hk, List.filterMap_append]
  congr 1

theorem parList_skip {ts : List NodeD} {l : List Nat} {k : Nat} (hk : k < l.length) (h : parEl ts (l.getD k 0) = none) : parList ts (l.take (k + 1)) = parList ts (l.take k) := by
  rw [parList_take hk, h]; simp

theorem parList_len {ts : List NodeD} {l : List Nat} : (parList ts l).length ≤ l.length := List.length_filterMap_le _ _

theorem parList_lt {ts : List NodeD} {l : List Nat} {n y : Nat} (hl : ∀ i ∈ l, i < n) (hy : y ∈ parList ts l) : y < n := by
  unfold parList at hy
  obtain ⟨x, hx, hp⟩ := List.mem_filterMap.1 hy
  unfold parEl at hp
  cases h : par (sz ts) x with
  | none => rw [h] at hp; cases hp
  | some p =>
    rw [h] at hp
    simp only at hp
    split at hp
    · cases hp
      have := (par_some h).1
      have := hl x hx
      omega
    · cases hp

/-- The first parents, each once, with one more. -/
theorem once_skip {ts : List NodeD} {l : List Nat} {k : Nat} (hk : k < l.length) (h : parEl ts (l.getD k 0) = none) : onceF (parList ts (l.take (k + 1))) = onceF (parList ts (l.take k)) := by rw [parList_skip hk h]
theorem once_there {ts : List NodeD} {l : List Nat} {k p : Nat} (hk : k < l.length) (h : parEl ts (l.getD k 0) = some p) (hm : p ∈ onceF (parList ts (l.take k))) : onceF (parList ts (l.take (k + 1))) = onceF (parList ts (l.take k)) := by
  rw [parList_take hk, h, Option.toList_some, onceF_snoc, if_pos hm]
theorem once_new {ts : List NodeD} {l : List Nat} {k p : Nat} (hk : k < l.length) (h : parEl ts (l.getD k 0) = some p) (hm : p ∉ onceF (parList ts (l.take k))) : onceF (parList ts (l.take (k + 1))) = onceF (parList ts (l.take k)) ++ [p] := by
  rw [parList_take hk, h, Option.toList_some, onceF_snoc, if_neg hm]
theorem once_len {l : List Nat} : (onceF l).length ≤ l.length := by
  have := onceF_len_take (l := l) l.length
  rwa [List.take_length] at this
theorem once_par_len {ts : List NodeD} {l : List Nat} {k : Nat} : (onceF (parList ts (l.take k))).length ≤ k := by
  have h1 := once_len (l := parList ts (l.take k))
  have h2 := parList_len (ts := ts) (l := l.take k)
  have h3 : (l.take k).length ≤ k := by simp; omega
  omega

end Go.Proofs.YtphppdbhofeagaaGreat

namespace Go.Proofs.YtphppdbhofeagaaGreat
open Go.RowKit
set_option linter.unusedVariables false
set_option linter.unusedSimpArgs false

theorem tyOf_root : tyOf 1 ≠ 3 := by decide

set_option maxRecDepth 100000 in
set_option maxHeartbeats 2000000 in
theorem parNodes_any {B : Nat} (v : Value) (l : List Nat) (w : World) (bl len : Nat) (nb : Nat → Nat) (vv : Nat → Value) (ts : List NodeD) (hF : Forest B w bl len nb vv ts) (hR : RightT ts len)
    (hv : PtrsOf w v (l.map nb)) (hin : ∀ i ∈ l, i < len) (hn : l.length ≤ 200) :
    Calls Tryz.prog 90 #[v] w (OwnPtrsPost ((onceF (parList ts l)).map nb) w) := by
  have hlen := hR.le
  obtain ⟨a, cap, b, off, rfl, hm, ha, hc⟩ := ptrs_open hv
  rw [List.length_map] at ha hc hm ⊢
  have hb0 : Below w.heap.size w (w.alloc (.map #[] 0)) := (Below.refl _ _).alloc (Nat.le_refl _) _
  have hs0 := PSet.made w
  obtain ⟨w0, hw0⟩ : ∃ w0, w.alloc (.map #[] 0) = w0 := ⟨_, rfl⟩
  have hsz0 : w.heap.size < w0.heap.size := by rw [← hw0]; simp
  rw [hw0] at hb0 hs0
  obtain ⟨m, hmm⟩ : ∃ m, w.heap.size = m := ⟨_, rfl⟩
  rw [hmm] at hs0 hsz0
  have HA := Lib.hid ha
  have HC := Lib.hid hc
  have HF := Lib.hid hF
  have HR := Lib.hid hR
  have HIN := Lib.hid hin
  have HS0 := Lib.hid (And.intro hb0 (And.intro hs0 hsz0))
  clear hv ha hc hF hR hin hb0 hs0 hsz0
  obtain ⟨i0, hi, hz0, hz1, hz2⟩ := info_parts Tryz.infoPtr
  obtain ⟨jn, hj, hjz⟩ := Tryz.node_info
  go_enter Tryz.func90, Tryz.ntmps90
  have hmk := run_makeMap_hint (P := Tryz.prog) Tryz.underlying93 (l.length : Int) w
  rw [hw0, hmm] at hmk
  go_wp2
  clear hmk
  go_loopw [3, 13] (fun x i wr => ∃ (k : Nat) (D : List Nat), i = .int .i64 k ∧ k ≤ l.length ∧ D.length ≤ k ∧ (onceF (parList ts (l.take k))).map nb = D ∧ OwnPtrs wr (m + 1) x D ∧ PSet wr m D ∧ Below w.heap.size w wr)
    (fun _ i _ => l.length - (intOf i).toNat)
  case atStart => exact ⟨0, [], by go_num, by omega, by simp, rfl, World.ownsRow_nil _ _ _ _, HS0.out.2.1, HS0.out.1⟩
  case round =>
    obtain ⟨k, D, rfl, hk, hdl, hdone, hown, hps, hbel⟩ := hrel
    by_cases hlt : k < l.length
    · obtain rfl := HA.out (by omega)
      have hx := HIN.out _ (getD_mem' (d := 0) hlt)
      have ck0 := HC.out k hlt
      have e1 : (l.map nb).getD k 0 = nb (l.getD k 0) := by simp [List.getD, hlt]
      rw [e1] at ck0
      have ck := cell_below hbel ck0
      have hskip := once_skip (ts := ts) hlt
      have hthere := fun p => once_there (ts := ts) (p := p) hlt
      have hnew := fun p => once_new (ts := ts) (p := p) hlt
      obtain ⟨x, hxx⟩ : ∃ x, l.getD k 0 = x := ⟨_, rfl⟩
      rw [hxx] at ck hx hskip hthere hnew
      have hF1 := HF.out.below hbel
      have kp := (hF1.node hx).par
      rw [show (nodeR (fun i => i + sz ts i) 0 nb (ts.getD x default) (vv x) x).par = (up (fun i => i + sz ts i) 0 x).map nb from rfl, up_par] at kp
      have hkI : (k : Int) < (l.length : Int) := by omega
      have hml := hps.lt
      cases hpar : par (sz ts) x with
      | none =>
        rw [hpar, Option.map_none, lk_none] at kp
        have H := Lib.hid (And.intro ((congrArg (List.map nb) (hskip (parEl_none hpar))).trans hdone) (And.intro hown (And.intro hps hbel)))
        clear hskip hthere hnew hdone hown hps hbel hF1 hpar ck0 e1 hxx
        go_wp2
        go_roundw
        case rel => exact ⟨k + 1, D, by go_num, by omega, by omega, H.out.1, H.out.2.1, H.out.2.2.1, H.out.2.2.2⟩
        case measure => simp [intOf]; omega
      | some p =>
        rw [hpar, Option.map_some, lk_some] at kp
        have hpx := (par_some hpar).1
        have hpl : p < len := by omega
        have kt := (hF1.node hpl).ty
        rw [show (nodeR (fun i => i + sz ts i) 0 nb (ts.getD p default) (vv p) p).ty = tyOf (kd ts p) from rfl] at kt
        by_cases h3 : kd ts p = 3
        · rw [show tyOf (kd ts p) = 3 by rw [h3]; rfl] at kt
          have hpe : parEl ts x = some p := by rw [parEl_some hpar, if_pos h3]
          have hDl : ∀ i ∈ onceF (parList ts (l.take k)), i < len := fun i hi => parList_lt (fun j hj => HIN.out j (List.mem_of_mem_take hj)) (onceF_mem.1 hi)
          have hmem := mem_nb (nb := nb) (fun i j hi hj h => hF1.seg.inj i j (Nat.zero_le _) hi (Nat.zero_le _) hj h) hpl hDl
          rw [hdone] at hmem
          have hal : Alive wr (nb p) := (hF1.node hpl).alive
          have halD : ∀ q ∈ D, Alive wr q := fun q hq => by
            rw [← hdone] at hq
            obtain ⟨i, hi, rfl⟩ := List.mem_map.1 hq
            exact (hF1.node (hDl i hi)).alive
          have hlook := PSet.look (P := Tryz.prog) (t := 93) hps Tryz.underlying93 Tryz.underlying75 hj hjz rfl hal halD
          unfold ptrB at hlook
          rw [hmem] at hlook
          by_cases hin : p ∈ onceF (parList ts (l.take k))
          · rw [decide_eq_true hin] at hlook
            have H := Lib.hid (And.intro ((congrArg (List.map nb) (hthere p hpe hin)).trans hdone) (And.intro hown (And.intro hps hbel)))
            clear hskip hthere hnew hdone hown hps hbel hF1 hpar ck0 e1 hxx hmem hal halD hDl hpe h3 hin
            go_wp2
            go_roundw
            case rel => exact ⟨k + 1, D, by go_num, by omega, by omega, H.out.1, H.out.2.1, H.out.2.2.1, H.out.2.2.2⟩
            case measure => simp [intOf]; omega
          · rw [decide_eq_false hin] at hlook
            obtain ⟨wu, hupd, hpsu, hgu⟩ := PSet.store (P := Tryz.prog) (t := 93) hps Tryz.underlying93 Tryz.underlying75 hj hjz hal halD
            unfold ptrB at hupd
            have hrow : ∀ q, u3.ownBlock = some q → m + 1 ≤ q ∧ q < wr.heap.size := fun q hq => World.ownsRow.lt hown q hq
            have hownu : wu.ownsRow (m + 1) 75 1 u3 D.length (D.map ptrV) := ownsRow_kept hown (fun q hq => hgu.block q (hrow q hq).2 (fun e => by have := (hrow q hq).1; simp at e; omega))
            have hbelu : Below w.heap.size w wu := hbel.grown hgu hbel.size (fun q hq => by simp at hq; omega)
            have hszu : m + 1 ≤ wu.heap.size := hpsu.lt
            have hnd : (onceF (parList ts (l.take (k + 1)))).map nb = D ++ [nb p] := by rw [hnew p hpe hin, List.map_append, hdone]; rfl
            have HU := Lib.hid (And.intro hpsu (And.intro hbelu (And.intro hrow hnd)))
            clear hskip hthere hnew hdone hown hps hbel hF1 hpar ck0 e1 hxx hmem hal halD hDl hpe h3 hin hgu hpsu hbelu hnd hrow
            go_wp2_with (at_builtin; refine wpList_append_own _ rfl _ _ 53 rfl (m + 1) 75 i0 (.pointer none) 1 8 Tryz.underlying53 hi hz0 hz1 hz2 rfl (by decide) _ _ _ rfl (hownu.alloc _) ⟨wu.heap.size, 0, none⟩ 1 1 [.pointer (some ⟨nb p, 0, none⟩)] rfl rfl ?c1 ?c2 ?c3 ?c4 ?c5 ?_)
            case c2 => rfl
            case c3 => unfold maxLen; omega
            case c4 => omega
            case c5 => first | omega | (simp; omega)
            intro v' w1 hown2 hgrow _
            have hsn := ownPtrs_snoc (k := nb p) hown2
            have hb1 : Below wu.heap.size wu (wu.alloc (.cells #[.pointer (some ⟨nb p, 0, none⟩)] 75)) := (Below.refl _ _).alloc (Nat.le_refl _) _
            have hps1 : PSet w1 m (nb p :: D) := (HU.out.1.below hb1).keep (hgrow.block m (by have := hb1.size; omega) (fun e => by
              have h1 := World.ownsRow.lt hownu m e.symm
              omega))
            have hbel1 : Below w.heap.size w w1 := (HU.out.2.1.alloc HU.out.2.1.size _).grown hgrow (by have := HU.out.2.1.size; have := hb1.size; omega) (fun q hq => by
              have h1 := (World.ownsRow.lt hownu q hq).1
              omega)
            have hps2 : PSet w1 m (D ++ [nb p]) := hps1.congr (fun q => by simp [or_comm])
            have H1 := Lib.hid (And.intro hsn (And.intro hps2 hbel1))
            clear hown2 hgrow hsn hb1 hps1 hbel1 hps2 hownu
            go_wp2
            go_roundw
            case rel => exact ⟨k + 1, D ++ [nb p], by go_num, by omega, by simp; omega, HU.out.2.2.2, H1.out.1, H1.out.2.1, H1.out.2.2⟩
            case measure => simp [intOf]; omega
        · have htn : tyOf (kd ts p) ≠ 3 := by
            rcases Nat.eq_zero_or_pos p with h0 | h0
            · rw [h0, HR.out.kind]; exact tyOf_root
            · rcases HR.out.kinds hpl h0 with hk | ⟨hk | hk | hk, _⟩
              · exact absurd hk h3
              · exact tyOf_ne (.inr (.inl hk))
              · exact tyOf_ne (.inr (.inr (.inl hk)))
              · exact tyOf_ne (.inr (.inr (.inr hk)))
          obtain ⟨u, hu⟩ : ∃ u, tyOf (kd ts p) = u := ⟨_, rfl⟩
          rw [hu] at kt htn
          have gt : (u == 3) = false := by simp [htn]
          have gt2 : (u != 3) = true := by simp [htn]
          have H := Lib.hid (And.intro ((congrArg (List.map nb) (hskip (by rw [parEl_some hpar, if_neg h3]))).trans hdone) (And.intro hown (And.intro hps hbel)))
          clear hskip hthere hnew hdone hown hps hbel hF1 hpar ck0 e1 hxx h3 htn hu
          go_wp2
          go_roundw
          case rel => exact ⟨k + 1, D, by go_num, by omega, by omega, H.out.1, H.out.2.1, H.out.2.2.1, H.out.2.2.2⟩
          case measure => simp [intOf]; omega
    · obtain rfl : k = l.length := by omega
      have hd := hdone
      rw [List.take_length] at hd
      have HO : Hid (OwnPtrs wr w.heap.size u3 ((onceF (parList ts l)).map nb)) := Lib.hid (by rw [hd]; exact ownsRow_base hown (by omega))
      have HB := Lib.hid hbel
      clear hdone hd hown hps hbel hlt
      go_wp2
      go_ret
      exact ⟨_, rfl, HO, HB⟩

end Go.Proofs.YtphppdbhofeagaaGreat

