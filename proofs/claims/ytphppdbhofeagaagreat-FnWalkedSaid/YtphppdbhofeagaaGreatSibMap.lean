/- goquery.appendWithoutDuplicates of some nodes, with a set. goquery.mapNodes with the function getSiblingNodes$2. (Printed by gen_map.py.) goquery.mapNodes with the function getChildrenNodes$1. (Printed by gen_map.py.) -/
import Derived.Test.YtphppdbhofeagaaGreatPtrSetAll
import Derived.Test.YtphppdbhofeagaaGreatOnceF
import Derived.Deep.AppendLies
import Derived.Test.YtphppdbhofeagaaGreatBesideAll
namespace Go.Proofs.YtphppdbhofeagaaGreat
open Go.RowKit
set_option linter.unusedVariables false
set_option linter.unusedSimpArgs false

theorem Alive.low {w w' : World} {m q : Nat} (h : Alive w q) (hq : q < m) (hb : Below m w w') : Alive w' q := by
  obtain ⟨c, t, h⟩ := h
  exact ⟨c, t, (hb.block q hq).trans h⟩

/-- With one more, if it is not there. -/
def withOne (D : List Nat) (b : Nat) : List Nat := if b ∈ D then D else D ++ [b]
/-- With some more. -/
def withAll (D V : List Nat) : List Nat := V.foldl withOne D

theorem withAll_snoc (D V : List Nat) (b : Nat) : withAll D (V ++ [b]) = withOne (withAll D V) b := by simp [withAll, List.foldl_append]
theorem withAll_mem {D V : List Nat} {q : Nat} (h : q ∈ withAll D V) : q ∈ D ∨ q ∈ V := by
  unfold withAll at h
  induction V generalizing D with
  | nil => exact .inl h
  | cons a V ih =>
    rcases ih h with h1 | h1
    · unfold withOne at h1
      split at h1
      · exact .inl h1
      · rcases List.mem_append.mp h1 with h2 | h2
        · exact .inl h2
        · simp at h2; exact .inr (by simp [h2])
    · exact .inr (List.mem_cons_of_mem _ h1)
theorem withAll_len (D V : List Nat) : (withAll D V).length ≤ D.length + V.length := by
  unfold withAll
  induction V generalizing D with
  | nil => simp
  | cons a V ih =>
    have h1 := ih (withOne D a)
    have h2 : (withOne D a).length ≤ D.length + 1 := by unfold withOne; split <;> simp
    simp only [List.foldl_cons, List.length_cons]
    omega

/-- Some more behind, each once. -/
theorem once_withAll (A B : List Nat) : onceF (A ++ B) = withAll (onceF A) B := by
  unfold onceF withAll withOne
  rw [List.foldl_append]

theorem withAll_map {nb : Nat → Nat} {len : Nat} (hinj : ∀ i j, i < len → j < len → nb i = nb j → i = j) : ∀ (V D : List Nat), (∀ i ∈ D, i < len) → (∀ i ∈ V, i < len) → withAll (D.map nb) (V.map nb) = (withAll D V).map nb := by
  intro V
  induction V with
  | nil => intro D _ _; rfl
  | cons a V ih =>
    intro D hD hV
    have ha := hV a (by simp)
    have hm := mem_nb (nb := nb) hinj ha hD
    have h1 : withOne (D.map nb) (nb a) = (withOne D a).map nb := by
      unfold withOne
      by_cases h : a ∈ D
      · rw [if_pos h, if_pos (of_decide_eq_true (by rw [hm]; exact decide_eq_true h))]
      · rw [if_neg h, if_neg (of_decide_eq_false (by rw [hm]; exact decide_eq_false h)), List.map_append]; rfl
    show withAll (withOne (D.map nb) (nb a)) (V.map nb) = _
    rw [h1]
    refine ih (withOne D a) (fun i hi => ?_) (fun i hi => hV i (by simp [hi]))
    rcases withAll_mem (D := D) (V := [a]) (q := i) hi with h | h
    · exact hD i h
    · simp at h; subst h; exact ha

def AppPost (m : Nat) (D : List Nat) (w : World) (e : Ending) (w' : World) : Prop := ∃ v, e = .returned v ∧ Hid (OwnPtrs w' (m + 1) v D) ∧ Hid (PSet w' m D) ∧ Hid (Below m w w')

theorem eqlMapSome (bm : Nat) (w : World) : (binOp .eql 93 (.map (some bm)) (.map none)).run Tryz.prog w = .ok (.bool false) w := by kernel_rfl

set_option maxRecDepth 100000 in
set_option maxHeartbeats 4000000 in
theorem appendMany_any (v : Value) (D V : List Nat) (m g c : Nat) (w : World) (hown : OwnPtrs w (m + 1) v D) (hps : PSet w m D) (hg : ∀ i, i < V.length → w.cell? ⟨g, i, none⟩ = some (.pointer (some ⟨V.getD i 0, 0, none⟩))) (hgm : m < g) (hgl : g < w.heap.size) (hgv : v.ownBlock ≠ some g)
    (hal : ∀ q ∈ D, Alive w q) (hlow : ∀ q ∈ D, q < m) (hal2 : ∀ q ∈ V, Alive w q) (hlow2 : ∀ q ∈ V, q < m) (hn : D.length ≤ 100000) (hn2 : V.length ≤ 200) :
    Calls Tryz.prog 86 #[v, .slice (some ⟨g, 0, none⟩) V.length c, .map (some m)] w (AppPost m (withAll D V) w) := by
  obtain ⟨i0, hi, hz0, hz1, hz2⟩ := info_parts Tryz.infoPtr
  obtain ⟨jn, hj, hjz⟩ := Tryz.node_info
  obtain ⟨va, vc, hv, hvc⟩ := hown.ptrs.nil
  rw [List.length_map] at hv hvc
  subst hv
  have hml := hps.lt
  have HOWN := Lib.hid hown
  have HPS := Lib.hid hps
  have HAL := Lib.hid (And.intro hal hlow)
  have HAL2 := Lib.hid (And.intro hal2 hlow2)
  have HG := Lib.hid (And.intro hg (And.intro hgl hgv))
  clear hown hps hal hlow hal2 hlow2 hg hgl hgv
  go_enter Tryz.func86, Tryz.ntmps86
  have heq := eqlMapSome m w
  go_wp2
  clear heq
  go_loopw [0, 58] (fun x i wr => ∃ (k : Nat) (E : List Nat), i = .int .i64 k ∧ k ≤ V.length ∧ withAll D (V.take k) = E ∧ E.length ≤ D.length + k ∧ OwnPtrs wr (m + 1) x E ∧ PSet wr m E ∧ Below m w wr ∧ (∀ i, i < V.length → wr.cell? ⟨g, i, none⟩ = some (.pointer (some ⟨V.getD i 0, 0, none⟩))) ∧ g < wr.heap.size ∧ x.ownBlock ≠ some g) (fun _ i _ => V.length - (intOf i).toNat)
  case atStart => exact ⟨0, D, by go_num, by omega, rfl, by omega, HOWN.out, HPS.out, Below.refl _ _, HG.out.1, HG.out.2.1, HG.out.2.2⟩
  case round =>
    obtain ⟨k, E, rfl, hk, hE, hEl, hown1, hps1, hbel1, hc1, hgl1, hgv1⟩ := hrel
    by_cases hlt : k < V.length
    · have ck := hc1 k hlt
      have hmem := getD_mem' (d := 0) hlt
      have htk := take_snoc hlt
      have hsn := withAll_snoc D (V.take k) (V.getD k 0)
      obtain ⟨b, hb⟩ : ∃ b, V.getD k 0 = b := ⟨_, rfl⟩
      rw [hb] at ck hmem htk hsn
      rw [← htk, hE] at hsn
      have hba := HAL2.out.1 b hmem
      have hbm := HAL2.out.2 b hmem
      have hbar := hba.low hbm hbel1
      have hEq : ∀ q ∈ E, q < m ∧ Alive w q := fun q hq => by
        rw [← hE] at hq
        rcases withAll_mem hq with h | h
        · exact ⟨HAL.out.2 q h, HAL.out.1 q h⟩
        · have := List.mem_of_mem_take h
          exact ⟨HAL2.out.2 q this, HAL2.out.1 q this⟩
      have hlook := PSet.look (P := Tryz.prog) (t := 93) hps1 Tryz.underlying93 Tryz.underlying75 hj hjz rfl hbar (fun q hq => (hEq q hq).2.low (hEq q hq).1 hbel1)
      unfold ptrB at hlook
      have hkI : (k : Int) < (V.length : Int) := by omega
      obtain ⟨ua, uc, hu0, huc⟩ := hown1.ptrs.nil
      rw [List.length_map] at hu0 huc
      subst hu0
      have hml1 := hps1.lt
      have HOWN1 := Lib.hid hown1
      have HPS1 := Lib.hid hps1
      have HB1 := Lib.hid hbel1
      have HC1 := Lib.hid (And.intro hc1 (And.intro hgl1 hgv1))
      have HEQ := Lib.hid hEq
      have HBA := Lib.hid (And.intro hbm hba)
      clear hown1 hps1 hbel1 hc1 hgl1 hgv1 hEq hE hb hmem htk hba hbm hbar
      by_cases hin : b ∈ E
      · rw [decide_eq_true hin] at hlook
        have HW : Hid (withAll D (V.take (k + 1)) = E) := Lib.hid (by rw [hsn]; exact if_pos hin)
        clear hin hsn
        go_wp2
        go_roundw
        case rel => exact ⟨k + 1, E, by go_num, by omega, HW.out, by omega, HOWN1.out, HPS1.out, HB1.out, HC1.out.1, HC1.out.2.1, HC1.out.2.2⟩
        case measure => simp [intOf]; omega
      · rw [decide_eq_false hin] at hlook
        have HW : Hid (withAll D (V.take (k + 1)) = E ++ [b]) := Lib.hid (by rw [hsn]; exact if_neg hin)
        have hown' : wr.ownsRow (m + 1) 75 1 (.slice ua E.length uc) E.length (E.map ptrV) := HOWN1.out
        have hnews : ∀ j u, [Value.pointer (some ⟨b, 0, none⟩)][j]? = some u → (wr.alloc (.cells #[.pointer (some ⟨b, 0, none⟩)] 75)).cell? ((⟨wr.heap.size, 0, none⟩ : Addr).add j) = some u :=
          World.news_of_block (cs := #[.pointer (some ⟨b, 0, none⟩)]) (t := 75) (fr := (0, 0)) (heap_alloc_new wr _)
        have HNEWS := Lib.hid hnews
        have HOW := Lib.hid (World.ownsRow.alloc hown' (.cells #[.pointer (some ⟨b, 0, none⟩)] 75))
        clear hin hsn hnews hown'
        go_wp2_with (at_builtin; refine wpList_append_lies _ rfl _ _ 53 rfl (m + 1) 75 i0 (.pointer none) 1 8 Tryz.underlying53 hi hz0 hz1 hz2 rfl (by decide) _ _ _ rfl HOW.out ⟨wr.heap.size, 0, none⟩ 1 1 [.pointer (some ⟨b, 0, none⟩)] rfl rfl HNEWS.out (by simp [Value.oneCell']) (by omega) (by unfold maxLen; omega) (by omega) (by simp; omega) _ rfl ?_)
        intro g2 cap2 w1 hown2 hgrow hat hlt2
        have hb1 : Below wr.heap.size wr (wr.alloc (.cells #[.pointer (some ⟨b, 0, none⟩)] 75)) := (Below.refl _ _).alloc (Nat.le_refl _) _
        have hsn2 := ownPtrs_snoc (k := b) hown2
        have hgs := hb1.size
        have hps2 : PSet w1 m E := (HPS1.out.below hb1).keep (hgrow.block m (by omega) (fun e => by
          have h1 := World.ownsRow.lt HOWN1.out m e.symm
          omega))
        have hbel2 : Below m wr w1 := (hb1.mono (Nat.le_of_lt hml1)).grown hgrow (by omega) (fun q hq => by
          have h1 := (World.ownsRow.lt HOWN1.out q hq).1
          omega)
        have hbel3 : Below m w w1 := HB1.out.trans hbel2
        obtain ⟨wu, hupd, hpsu, hgu⟩ := PSet.store (P := Tryz.prog) (t := 93) hps2 Tryz.underlying93 Tryz.underlying75 hj hjz (HBA.out.2.low HBA.out.1 hbel3) (fun q hq => (HEQ.out q hq).2.low (HEQ.out q hq).1 hbel3)
        unfold ptrB at hupd
        have hownu : OwnPtrs wu (m + 1) (.slice (some ⟨g2, 0, none⟩) (E.length + 1) cap2) (E ++ [b]) := ownsRow_kept hsn2 (fun q hq => hgu.block q (World.ownsRow.lt hsn2 q hq).2 (fun e => by
          have h1 := (World.ownsRow.lt hsn2 q hq).1
          simp at e
          omega))
        have hsz1 : wr.heap.size < w1.heap.size := by
          have h1 := hgrow.size
          simp at h1
          omega
        have hbelu : Below m w wu := hbel3.grown hgu (by omega) (fun q hq => by simp at hq; omega)
        have hpsw : PSet wu m (E ++ [b]) := hpsu.congr (fun q => by simp [or_comm])
        have hcu : ∀ i, i < V.length → wu.cell? ⟨g, i, none⟩ = some (.pointer (some ⟨V.getD i 0, 0, none⟩)) := fun i hi => by
          have hgg := HC1.out.2.1
          rw [hgu.cell_far ⟨g, i, none⟩ (by show g < _; omega) (by simp; omega), hgrow.cell_far ⟨g, i, none⟩ (by simp; omega) (fun e => HC1.out.2.2 e.symm)]
          exact cell_alloc_old (HC1.out.1 i hi) _
        have hgu2 : g < wu.heap.size := by have := hgu.size; have := HC1.out.2.1; omega
        have hgx : (Value.slice (some ⟨g2, 0, none⟩) (E.length + 1) cap2).ownBlock ≠ some g := by
          intro e
          simp [Value.ownBlock] at e
          subst e
          rcases hat with h | h
          · exact HC1.out.2.2 h
          · have := HC1.out.2.1; omega
        have HU := Lib.hid (And.intro hownu (And.intro hpsw (And.intro hbelu (And.intro hcu (And.intro hgu2 hgx)))))
        clear hown2 hgrow hb1 hsn2 hps2 hbel2 hbel3 hgu hownu hbelu hpsu hpsw hcu hgu2 hgx hat hgs hlt2 hsz1 ck
        go_wp2
        go_roundw
        case rel => exact ⟨k + 1, E ++ [b], by go_num, by omega, HW.out, by simp; omega, HU.out.1, HU.out.2.1, HU.out.2.2.1, HU.out.2.2.2.1, HU.out.2.2.2.2.1, HU.out.2.2.2.2.2⟩
        case measure => simp [intOf]; omega
    · obtain rfl : k = V.length := by omega
      rw [List.take_length] at hE
      have H1 : Hid (OwnPtrs wr (m + 1) u0 (withAll D V)) := Lib.hid (by rw [hE]; exact hown1)
      have H2 : Hid (PSet wr m (withAll D V)) := Lib.hid (by rw [hE]; exact hps1)
      have H3 := Lib.hid hbel1
      clear hown1 hps1 hbel1 hE hc1 hgl1 hgv1 hlt hEl
      go_wp2
      go_ret
      exact ⟨_, rfl, H1, H2, H3⟩

end Go.Proofs.YtphppdbhofeagaaGreat

namespace Go.Proofs.YtphppdbhofeagaaGreat
open Go.RowKit
set_option linter.unusedVariables false
set_option linter.unusedSimpArgs false

theorem ownPtrs_openSib {w : World} {B : Nat} {v : Value} {l : List Nat} (h : OwnPtrs w B v l) (h0 : 0 < l.length) : ∃ g cap, v = .slice (some ⟨g, 0, none⟩) l.length cap ∧ B ≤ g ∧ g < w.heap.size ∧ ∀ i, i < l.length → w.cell? ⟨g, i, none⟩ = some (.pointer (some ⟨l.getD i 0, 0, none⟩)) := by
  rcases h.2 with ⟨rfl, hz⟩ | ⟨g, cap, cur, rfl, hb, hg, hn, hm, hcs, ht⟩
  · omega
  · refine ⟨g, cap, rfl, hb, (Array.getElem?_eq_some_iff.1 hg).1, fun i hi => ?_⟩
    have := World.ownsRow.cells (h := h) (g := g) rfl i (ptrV (l.getD i 0)) (by simp [List.getD, hi])
    have hadd : (⟨g, 0, none⟩ : Addr).add i = ⟨g, i, none⟩ := by unfold Addr.add; split <;> simp_all
    rw [hadd] at this
    exact this

set_option maxRecDepth 100000 in
set_option maxHeartbeats 4000000 in
theorem mapManySib {B : Nat} (v cv0 cv1 : Value) (l : List Nat) (F : Nat → List Nat) (w : World) (bl len : Nat) (nb : Nat → Nat) (vv : Nat → Value) (ts : List NodeD) (hF : Forest B w bl len nb vv ts)
    (hv : PtrsOf w v (l.map nb)) (hn : l.length ≤ 200) (hFl : ∀ x ∈ l, ∀ p ∈ F x, p < len) (hFn : ∀ x ∈ l, (F x).length ≤ 200) (hFo : ∀ x ∈ l, Once (F x))
    (hclo : ∀ k, k < l.length → ∀ w', Below w.heap.size w w' → Calls Tryz.prog 104 #[.int .i64 (k : Int), .pointer (some ⟨nb (l.getD k 0), 0, none⟩), cv0, cv1] w' (OwnPtrsPost ((F (l.getD k 0)).map nb) w')) :
    Calls Tryz.prog 77 #[v, .func (.func 104) #[] #[cv0, cv1]] w (OwnPtrsPost ((onceF (l.flatMap F)).map nb) w) := by
  obtain ⟨a, cap, b, off, rfl, hm, ha, hc⟩ := ptrs_open hv
  rw [List.length_map] at ha hc hm ⊢
  have hcell : ∀ k, k < l.length → w.cell? ⟨b, off + k, none⟩ = some (.pointer (some ⟨nb (l.getD k 0), 0, none⟩)) := fun k hk => by
    have h1 := hc k hk
    have e1 : (l.map nb).getD k 0 = nb (l.getD k 0) := by simp [List.getD, hk]
    rwa [e1] at h1
  rcases (show l.length = 0 ∨ l.length = 1 ∨ 2 ≤ l.length by omega) with h0 | h1 | h2
  · have hl : l = [] := List.length_eq_zero_iff.1 h0
    subst hl
    clear hc hcell hclo hF hv ha hFl hFn hFo
    go_enter Tryz.func77, Tryz.ntmps77
    go_wp2
    go_ret
    exact ⟨_, rfl, Lib.hid (World.ownsRow_nil _ _ _ _), Lib.hid (Below.refl _ _)⟩
  · obtain rfl := ha (by omega)
    have hcl := hclo 0 (by omega) w (Below.refl _ _)
    have ck := hcell 0 (by omega)
    rw [Nat.add_zero] at ck
    have hst : onceF (l.flatMap F) = F (l.getD 0 0) := by
      match l, h1, hFo with
      | [x], _, hFo =>
        simp only [List.flatMap_cons, List.flatMap_nil, List.append_nil, List.getD, List.getElem?_cons_zero, Option.getD_some]
        exact onceF_of_once (hFo x (by simp))
    rw [hst, h1]
    have hcl' : Calls Tryz.prog 104 #[.int .i64 0, .pointer (some ⟨nb (l.getD 0 0), 0, none⟩), cv0, cv1] w (OwnPtrsPost ((F (l.getD 0 0)).map nb) w) := hcl
    have HCL := Lib.hid hcl'
    clear hcl hcl' hc hcell hclo hF hv hst ha hFl hFn hFo
    obtain ⟨x, hx⟩ : ∃ x, nb (l.getD 0 0) = x := ⟨_, rfl⟩
    rw [hx] at ck HCL
    clear hx
    go_enter Tryz.func77, Tryz.ntmps77
    go_wp2_with fail
    refine HCL.out.mono ?_
    rintro e w1 ⟨vr, rfl, ho, hb1⟩
    go_wp2
    go_ret
    exact ⟨_, rfl, ho, hb1⟩
  · have hb0 : Below w.heap.size w (w.alloc (.map #[] 0)) := (Below.refl _ _).alloc (Nat.le_refl _) _
    have hs0 := PSet.made w
    have hmk := run_makeMap_hint (P := Tryz.prog) Tryz.underlying93 (l.length : Int) w
    obtain ⟨w0, hw0⟩ : ∃ w0, w.alloc (.map #[] 0) = w0 := ⟨_, rfl⟩
    rw [hw0] at hb0 hs0 hmk
    have hlow : ∀ p, p < len → nb p < w.heap.size := fun p hp => (hF.node hp).alive.lt
    have halw : ∀ i, i < len → Alive w (nb i) := fun i hi => (hF.node hi).alive
    have hinj : ∀ i j, i < len → j < len → nb i = nb j → i = j := fun i j hi hj h => hF.seg.inj i j (Nat.zero_le _) hi (Nat.zero_le _) hj h
    obtain ⟨m, hmm⟩ : ∃ m, w.heap.size = m := ⟨_, rfl⟩
    rw [hmm] at hs0 hmk hb0 hlow hclo
    have g0 : ((l.length : Int) == 0) = false := beq_eq_false_iff_ne.2 (by omega)
    have g1 : ((l.length : Int) == 1) = false := beq_eq_false_iff_ne.2 (by omega)
    have hlI : (0 : Int) < (l.length : Int) := by omega
    have HA := Lib.hid ha
    have HC := Lib.hid hcell
    have HG := Lib.hid (And.intro hlow (And.intro halw hinj))
    have HCLO := Lib.hid hclo
    have HFX := Lib.hid (And.intro hFl hFn)
    have HS0 := Lib.hid (And.intro hb0 hs0)
    have hne0 : ¬ l = [] := by intro h; rw [h] at h2; simp at h2
    clear hF hv ha hc hcell hclo hlow halw hinj hb0 hs0 hFl hFn hFo
    go_enter Tryz.func77, Tryz.ntmps77
    go_wp2
    clear hmk hw0
    go_loopw [4, 25] (fun x i wr => ∃ (k : Nat) (D : List Nat), i = .int .i64 k ∧ k ≤ l.length ∧ D.length ≤ 200 * k ∧ (onceF ((l.take k).flatMap F)).map nb = D ∧ OwnPtrs wr (m + 1) x D ∧ PSet wr m D ∧ Below m w wr)
      (fun _ i _ => l.length - (intOf i).toNat)
    case atStart => exact ⟨0, [], by go_num, by omega, by simp, rfl, World.ownsRow_nil _ _ _ _, HS0.out.2, HS0.out.1⟩
    case round =>
      obtain ⟨k, D, rfl, hk, hdl, hdone, hown, hps, hbel⟩ := hrel
      by_cases hlt : k < l.length
      · obtain rfl := HA.out (by omega)
        have ck : wr.cell? ⟨b, off + k, none⟩ = some (.pointer (some ⟨nb (l.getD k 0), 0, none⟩)) := by
          have h1 := HC.out k hlt
          exact (hbel.cell (p := ⟨b, off + k, none⟩) (by rw [← hmm]; exact World.block_lt_of_cell? _ _ h1)).trans h1
        have hcl := HCLO.out k hlt wr hbel
        have hmem := getD_mem' (d := 0) hlt
        have htk : (l.take (k + 1)).flatMap F = (l.take k).flatMap F ++ F (l.getD k 0) := by rw [take_snoc hlt, List.flatMap_append]; simp
        have hVl := HFX.out.1 _ hmem
        have hVn := HFX.out.2 _ hmem
        have hDl0 : ∀ i ∈ onceF ((l.take k).flatMap F), i < len := fun i hi => by
          obtain ⟨y, hy, hyi⟩ := List.mem_flatMap.1 (onceF_mem.1 hi)
          exact HFX.out.1 y (List.mem_of_mem_take hy) i hyi
        obtain ⟨x, hxx⟩ : ∃ x, l.getD k 0 = x := ⟨_, rfl⟩
        rw [hxx] at ck hcl htk hVl hVn
        obtain ⟨V, hV⟩ : ∃ V, F x = V := ⟨_, rfl⟩
        rw [hV] at hcl htk hVl hVn
        have hstep : (onceF ((l.take (k + 1)).flatMap F)).map nb = withAll D (V.map nb) := by
          rw [htk, once_withAll, ← hdone, withAll_map HG.out.2.2 V _ hDl0 hVl]
        have hDq : ∀ q ∈ D, q < m ∧ Alive w q := fun q hq => by
          rw [← hdone] at hq
          obtain ⟨i, hi, rfl⟩ := List.mem_map.1 hq
          exact ⟨HG.out.1 i (hDl0 i hi), HG.out.2.1 i (hDl0 i hi)⟩
        have hVq : ∀ q ∈ V.map nb, q < m ∧ Alive w q := fun q hq => by
          obtain ⟨i, hi, rfl⟩ := List.mem_map.1 hq
          exact ⟨HG.out.1 i (hVl i hi), HG.out.2.1 i (hVl i hi)⟩
        obtain ⟨Vb, hVb⟩ : ∃ Vb, V.map nb = Vb := ⟨_, rfl⟩
        have hVbl : Vb.length ≤ 200 := by rw [← hVb, List.length_map]; exact hVn
        rw [hVb] at hcl hstep hVq
        have hkI : (k : Int) < (l.length : Int) := by omega
        have hml := hps.lt
        have HCL := Lib.hid hcl
        have H := Lib.hid (And.intro hstep (And.intro hown (And.intro hps hbel)))
        have HQ := Lib.hid (And.intro hDq hVq)
        clear hcl hstep hown hps hbel hxx hmem htk hVl hVn hDl0 hV hDq hVq hVb hdone
        go_wp2_with fail
        refine HCL.out.mono ?_
        rintro e w2 ⟨vr, rfl, ho2, hb2⟩
        have hown2 : OwnPtrs w2 (m + 1) u4 D := ownsRow_kept H.out.2.1 (fun q hq => hb2.out.block q (World.ownsRow.lt H.out.2.1 q hq).2)
        have hps2 := H.out.2.2.1.below hb2.out
        have hbel2 : Below m w w2 := H.out.2.2.2.trans (hb2.out.mono (Nat.le_of_lt hml))
        by_cases hV0 : Vb.length = 0
        · obtain ⟨ra, rc, hrv, _⟩ := ho2.out.ptrs.nil
          rw [List.length_map, hV0] at hrv
          subst hrv
          have hsk : (onceF ((l.take (k + 1)).flatMap F)).map nb = D := by rw [H.out.1, List.eq_nil_of_length_eq_zero hV0]; rfl
          have H2 := Lib.hid (And.intro hsk (And.intro hown2 (And.intro hps2 hbel2)))
          clear hb2 hown2 hps2 hbel2 HCL ck ho2 hsk hV0 H
          go_wp2
          go_roundw
          case rel => exact ⟨k + 1, D, by go_num, by omega, by omega, H2.out.1, H2.out.2.1, H2.out.2.2.1, H2.out.2.2.2⟩
          case measure => simp [intOf]; omega
        · obtain ⟨g, rc, hrv, hgb, hgl, hgc⟩ := ownPtrs_openSib ho2.out (by omega)
          subst hrv
          have hvl : (0 : Int) < (Vb.length : Int) := by omega
          have gvl : decide ((0 : Int) < (Vb.length : Int)) = true := decide_eq_true hvl
          have gvn : decide (0 < Vb.length) = true := decide_eq_true (by omega)
          have happ := appendMany_any u4 D Vb m g rc w2 hown2 hps2 hgc (by omega) hgl (fun e => by have := (World.ownsRow.lt H.out.2.1 g e).2; omega)
            (fun q hq => (HQ.out.1 q hq).2.low (HQ.out.1 q hq).1 hbel2) (fun q hq => (HQ.out.1 q hq).1) (fun q hq => (HQ.out.2 q hq).2.low (HQ.out.2 q hq).1 hbel2) (fun q hq => (HQ.out.2 q hq).1) (by omega) hVbl
          have hwl := withAll_len D Vb
          have HWL := Lib.hid hwl
          have HAPP := Lib.hid happ
          have HB2 := Lib.hid hbel2
          obtain ⟨ua, uc, hu4, _⟩ := hown2.ptrs.nil
          rw [List.length_map] at hu4
          subst hu4
          clear happ hb2 hown2 hps2 hbel2 HCL ck ho2 hgb hgl hgc hwl
          go_wp2_with fail
          refine HAPP.out.mono ?_
          rintro e w3 ⟨v3, rfl, ho3, hp3, hb3⟩
          have HB3 := Lib.hid (HB2.out.trans hb3.out)
          clear hb3 HAPP
          go_wp2
          go_roundw
          case rel => exact ⟨k + 1, withAll D Vb, by go_num, by omega, by have := HWL.out; omega, H.out.1, ho3.out, hp3.out, HB3.out⟩
          case measure => simp [intOf]; omega
      · obtain rfl : k = l.length := by omega
        have hd := hdone
        rw [List.take_length] at hd
        have HO : Hid (OwnPtrs wr w.heap.size u4 ((onceF (l.flatMap F)).map nb)) := Lib.hid (by rw [hd]; exact ownsRow_base hown (by omega))
        have HB : Hid (Below w.heap.size w wr) := Lib.hid (by rw [hmm]; exact hbel)
        clear hdone hd hown hps hbel hlt
        go_wp2
        go_ret
        exact ⟨_, rfl, HO, HB⟩

end Go.Proofs.YtphppdbhofeagaaGreat

namespace Go.Proofs.YtphppdbhofeagaaGreat
open Go.RowKit
set_option linter.unusedVariables false
set_option linter.unusedSimpArgs false

theorem ownPtrs_openKid {w : World} {B : Nat} {v : Value} {l : List Nat} (h : OwnPtrs w B v l) (h0 : 0 < l.length) : ∃ g cap, v = .slice (some ⟨g, 0, none⟩) l.length cap ∧ B ≤ g ∧ g < w.heap.size ∧ ∀ i, i < l.length → w.cell? ⟨g, i, none⟩ = some (.pointer (some ⟨l.getD i 0, 0, none⟩)) := by
  rcases h.2 with ⟨rfl, hz⟩ | ⟨g, cap, cur, rfl, hb, hg, hn, hm, hcs, ht⟩
  · omega
  · refine ⟨g, cap, rfl, hb, (Array.getElem?_eq_some_iff.1 hg).1, fun i hi => ?_⟩
    have := World.ownsRow.cells (h := h) (g := g) rfl i (ptrV (l.getD i 0)) (by simp [List.getD, hi])
    have hadd : (⟨g, 0, none⟩ : Addr).add i = ⟨g, i, none⟩ := by unfold Addr.add; split <;> simp_all
    rw [hadd] at this
    exact this

set_option maxRecDepth 100000 in
set_option maxHeartbeats 4000000 in
theorem mapManyKid {B : Nat} (v cv0 : Value) (l : List Nat) (F : Nat → List Nat) (w : World) (bl len : Nat) (nb : Nat → Nat) (vv : Nat → Value) (ts : List NodeD) (hF : Forest B w bl len nb vv ts)
    (hv : PtrsOf w v (l.map nb)) (hn : l.length ≤ 200) (hFl : ∀ x ∈ l, ∀ p ∈ F x, p < len) (hFn : ∀ x ∈ l, (F x).length ≤ 200) (hFo : ∀ x ∈ l, Once (F x))
    (hclo : ∀ k, k < l.length → ∀ w', Below w.heap.size w w' → Calls Tryz.prog 106 #[.int .i64 (k : Int), .pointer (some ⟨nb (l.getD k 0), 0, none⟩), cv0] w' (OwnPtrsPost ((F (l.getD k 0)).map nb) w')) :
    Calls Tryz.prog 77 #[v, .func (.func 106) #[] #[cv0]] w (OwnPtrsPost ((onceF (l.flatMap F)).map nb) w) := by
  obtain ⟨a, cap, b, off, rfl, hm, ha, hc⟩ := ptrs_open hv
  rw [List.length_map] at ha hc hm ⊢
  have hcell : ∀ k, k < l.length → w.cell? ⟨b, off + k, none⟩ = some (.pointer (some ⟨nb (l.getD k 0), 0, none⟩)) := fun k hk => by
    have h1 := hc k hk
    have e1 : (l.map nb).getD k 0 = nb (l.getD k 0) := by simp [List.getD, hk]
    rwa [e1] at h1
  rcases (show l.length = 0 ∨ l.length = 1 ∨ 2 ≤ l.length by omega) with h0 | h1 | h2
  · have hl : l = [] := List.length_eq_zero_iff.1 h0
    subst hl
    clear hc hcell hclo hF hv ha hFl hFn hFo
    go_enter Tryz.func77, Tryz.ntmps77
    go_wp2
    go_ret
    exact ⟨_, rfl, Lib.hid (World.ownsRow_nil _ _ _ _), Lib.hid (Below.refl _ _)⟩
  · obtain rfl := ha (by omega)
    have hcl := hclo 0 (by omega) w (Below.refl _ _)
    have ck := hcell 0 (by omega)
    rw [Nat.add_zero] at ck
    have hst : onceF (l.flatMap F) = F (l.getD 0 0) := by
      match l, h1, hFo with
      | [x], _, hFo =>
        simp only [List.flatMap_cons, List.flatMap_nil, List.append_nil, List.getD, List.getElem?_cons_zero, Option.getD_some]
        exact onceF_of_once (hFo x (by simp))
    rw [hst, h1]
    have hcl' : Calls Tryz.prog 106 #[.int .i64 0, .pointer (some ⟨nb (l.getD 0 0), 0, none⟩), cv0] w (OwnPtrsPost ((F (l.getD 0 0)).map nb) w) := hcl
    have HCL := Lib.hid hcl'
    clear hcl hcl' hc hcell hclo hF hv hst ha hFl hFn hFo
    obtain ⟨x, hx⟩ : ∃ x, nb (l.getD 0 0) = x := ⟨_, rfl⟩
    rw [hx] at ck HCL
    clear hx
    go_enter Tryz.func77, Tryz.ntmps77
    go_wp2_with fail
    refine HCL.out.mono ?_
    rintro e w1 ⟨vr, rfl, ho, hb1⟩
    go_wp2
    go_ret
    exact ⟨_, rfl, ho, hb1⟩
  · have hb0 : Below w.heap.size w (w.alloc (.map #[] 0)) := (Below.refl _ _).alloc (Nat.le_refl _) _
    have hs0 := PSet.made w
    have hmk := run_makeMap_hint (P := Tryz.prog) Tryz.underlying93 (l.length : Int) w
    obtain ⟨w0, hw0⟩ : ∃ w0, w.alloc (.map #[] 0) = w0 := ⟨_, rfl⟩
    rw [hw0] at hb0 hs0 hmk
    have hlow : ∀ p, p < len → nb p < w.heap.size := fun p hp => (hF.node hp).alive.lt
    have halw : ∀ i, i < len → Alive w (nb i) := fun i hi => (hF.node hi).alive
    have hinj : ∀ i j, i < len → j < len → nb i = nb j → i = j := fun i j hi hj h => hF.seg.inj i j (Nat.zero_le _) hi (Nat.zero_le _) hj h
    obtain ⟨m, hmm⟩ : ∃ m, w.heap.size = m := ⟨_, rfl⟩
    rw [hmm] at hs0 hmk hb0 hlow hclo
    have g0 : ((l.length : Int) == 0) = false := beq_eq_false_iff_ne.2 (by omega)
    have g1 : ((l.length : Int) == 1) = false := beq_eq_false_iff_ne.2 (by omega)
    have hlI : (0 : Int) < (l.length : Int) := by omega
    have HA := Lib.hid ha
    have HC := Lib.hid hcell
    have HG := Lib.hid (And.intro hlow (And.intro halw hinj))
    have HCLO := Lib.hid hclo
    have HFX := Lib.hid (And.intro hFl hFn)
    have HS0 := Lib.hid (And.intro hb0 hs0)
    have hne0 : ¬ l = [] := by intro h; rw [h] at h2; simp at h2
    clear hF hv ha hc hcell hclo hlow halw hinj hb0 hs0 hFl hFn hFo
    go_enter Tryz.func77, Tryz.ntmps77
    go_wp2
    clear hmk hw0
    go_loopw [4, 25] (fun x i wr => ∃ (k : Nat) (D : List Nat), i = .int .i64 k ∧ k ≤ l.length ∧ D.length ≤ 200 * k ∧ (onceF ((l.take k).flatMap F)).map nb = D ∧ OwnPtrs wr (m + 1) x D ∧ PSet wr m D ∧ Below m w wr)
      (fun _ i _ => l.length - (intOf i).toNat)
    case atStart => exact ⟨0, [], by go_num, by omega, by simp, rfl, World.ownsRow_nil _ _ _ _, HS0.out.2, HS0.out.1⟩
    case round =>
      obtain ⟨k, D, rfl, hk, hdl, hdone, hown, hps, hbel⟩ := hrel
      by_cases hlt : k < l.length
      · obtain rfl := HA.out (by omega)
        have ck : wr.cell? ⟨b, off + k, none⟩ = some (.pointer (some ⟨nb (l.getD k 0), 0, none⟩)) := by
          have h1 := HC.out k hlt
          exact (hbel.cell (p := ⟨b, off + k, none⟩) (by rw [← hmm]; exact World.block_lt_of_cell? _ _ h1)).trans h1
        have hcl := HCLO.out k hlt wr hbel
        have hmem := getD_mem' (d := 0) hlt
        have htk : (l.take (k + 1)).flatMap F = (l.take k).flatMap F ++ F (l.getD k 0) := by rw [take_snoc hlt, List.flatMap_append]; simp
        have hVl := HFX.out.1 _ hmem
        have hVn := HFX.out.2 _ hmem
        have hDl0 : ∀ i ∈ onceF ((l.take k).flatMap F), i < len := fun i hi => by
          obtain ⟨y, hy, hyi⟩ := List.mem_flatMap.1 (onceF_mem.1 hi)
          exact HFX.out.1 y (List.mem_of_mem_take hy) i hyi
        obtain ⟨x, hxx⟩ : ∃ x, l.getD k 0 = x := ⟨_, rfl⟩
        rw [hxx] at ck hcl htk hVl hVn
        obtain ⟨V, hV⟩ : ∃ V, F x = V := ⟨_, rfl⟩
        rw [hV] at hcl htk hVl hVn
        have hstep : (onceF ((l.take (k + 1)).flatMap F)).map nb = withAll D (V.map nb) := by
          rw [htk, once_withAll, ← hdone, withAll_map HG.out.2.2 V _ hDl0 hVl]
        have hDq : ∀ q ∈ D, q < m ∧ Alive w q := fun q hq => by
          rw [← hdone] at hq
          obtain ⟨i, hi, rfl⟩ := List.mem_map.1 hq
          exact ⟨HG.out.1 i (hDl0 i hi), HG.out.2.1 i (hDl0 i hi)⟩
        have hVq : ∀ q ∈ V.map nb, q < m ∧ Alive w q := fun q hq => by
          obtain ⟨i, hi, rfl⟩ := List.mem_map.1 hq
          exact ⟨HG.out.1 i (hVl i hi), HG.out.2.1 i (hVl i hi)⟩
        obtain ⟨Vb, hVb⟩ : ∃ Vb, V.map nb = Vb := ⟨_, rfl⟩
        have hVbl : Vb.length ≤ 200 := by rw [← hVb, List.length_map]; exact hVn
        rw [hVb] at hcl hstep hVq
        have hkI : (k : Int) < (l.length : Int) := by omega
        have hml := hps.lt
        have HCL := Lib.hid hcl
        have H := Lib.hid (And.intro hstep (And.intro hown (And.intro hps hbel)))
        have HQ := Lib.hid (And.intro hDq hVq)
        clear hcl hstep hown hps hbel hxx hmem htk hVl hVn hDl0 hV hDq hVq hVb hdone
        go_wp2_with fail
        refine HCL.out.mono ?_
        rintro e w2 ⟨vr, rfl, ho2, hb2⟩
        have hown2 : OwnPtrs w2 (m + 1) u4 D := ownsRow_kept H.out.2.1 (fun q hq => hb2.out.block q (World.ownsRow.lt H.out.2.1 q hq).2)
        have hps2 := H.out.2.2.1.below hb2.out
        have hbel2 : Below m w w2 := H.out.2.2.2.trans (hb2.out.mono (Nat.le_of_lt hml))
        by_cases hV0 : Vb.length = 0
        · obtain ⟨ra, rc, hrv, _⟩ := ho2.out.ptrs.nil
          rw [List.length_map, hV0] at hrv
          subst hrv
          have hsk : (onceF ((l.take (k + 1)).flatMap F)).map nb = D := by rw [H.out.1, List.eq_nil_of_length_eq_zero hV0]; rfl
          have H2 := Lib.hid (And.intro hsk (And.intro hown2 (And.intro hps2 hbel2)))
          clear hb2 hown2 hps2 hbel2 HCL ck ho2 hsk hV0 H
          go_wp2
          go_roundw
          case rel => exact ⟨k + 1, D, by go_num, by omega, by omega, H2.out.1, H2.out.2.1, H2.out.2.2.1, H2.out.2.2.2⟩
          case measure => simp [intOf]; omega
        · obtain ⟨g, rc, hrv, hgb, hgl, hgc⟩ := ownPtrs_openKid ho2.out (by omega)
          subst hrv
          have hvl : (0 : Int) < (Vb.length : Int) := by omega
          have gvl : decide ((0 : Int) < (Vb.length : Int)) = true := decide_eq_true hvl
          have gvn : decide (0 < Vb.length) = true := decide_eq_true (by omega)
          have happ := appendMany_any u4 D Vb m g rc w2 hown2 hps2 hgc (by omega) hgl (fun e => by have := (World.ownsRow.lt H.out.2.1 g e).2; omega)
            (fun q hq => (HQ.out.1 q hq).2.low (HQ.out.1 q hq).1 hbel2) (fun q hq => (HQ.out.1 q hq).1) (fun q hq => (HQ.out.2 q hq).2.low (HQ.out.2 q hq).1 hbel2) (fun q hq => (HQ.out.2 q hq).1) (by omega) hVbl
          have hwl := withAll_len D Vb
          have HWL := Lib.hid hwl
          have HAPP := Lib.hid happ
          have HB2 := Lib.hid hbel2
          obtain ⟨ua, uc, hu4, _⟩ := hown2.ptrs.nil
          rw [List.length_map] at hu4
          subst hu4
          clear happ hb2 hown2 hps2 hbel2 HCL ck ho2 hgb hgl hgc hwl
          go_wp2_with fail
          refine HAPP.out.mono ?_
          rintro e w3 ⟨v3, rfl, ho3, hp3, hb3⟩
          have HB3 := Lib.hid (HB2.out.trans hb3.out)
          clear hb3 HAPP
          go_wp2
          go_roundw
          case rel => exact ⟨k + 1, withAll D Vb, by go_num, by omega, by have := HWL.out; omega, H.out.1, ho3.out, hp3.out, HB3.out⟩
          case measure => simp [intOf]; omega
      · obtain rfl : k = l.length := by omega
        have hd := hdone
        rw [List.take_length] at hd
        have HO : Hid (OwnPtrs wr w.heap.size u4 ((onceF (l.flatMap F)).map nb)) := Lib.hid (by rw [hd]; exact ownsRow_base hown (by omega))
        have HB : Hid (Below w.heap.size w wr) := Lib.hid (by rw [hmm]; exact hbel)
        clear hdone hd hown hps hbel hlt
        go_wp2
        go_ret
        exact ⟨_, rfl, HO, HB⟩

end Go.Proofs.YtphppdbhofeagaaGreat

