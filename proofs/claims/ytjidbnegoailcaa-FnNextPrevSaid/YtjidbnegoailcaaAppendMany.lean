/- goquery.appendWithoutDuplicates of some nodes, with a set. -/
import Derived.Test.YtjidbnegoailcaaPtrSetMore
import Derived.Test.YtjidbnegoailcaaOnce
import Derived.Deep.AppendLies
namespace Go.Proofs.Ytjidbnegoailcaa
open Go.RowKit
set_option linter.unusedVariables false
set_option linter.unusedSimpArgs false

theorem Alive.low {w w' : World} {m q : Nat} (h : Alive w q) (hq : q < m) (hb : Below m w w') : Alive w' q := by
  obtain ⟨c, t, h⟩ := h
  exact ⟨c, t, (hb.block q hq).trans h⟩

/-- With one more, if it is not there. -/
def withOne (D : List Nat) (b : Nat) : List Nat := if b ∈ D then D else D ++ [b]
/-- With some more. -/
def withAll (D V : List Nat) : List Nat := V.foldl withOne D

theorem withAll_snoc (D V : List Nat) (b : Nat) : withAll D (V ++ [b]) = withOne (withAll D V) b := by simp [withAll, List.foldl_append]
theorem withAll_mem {D V : List Nat} {q : Nat} (h : q ∈ withAll D V) : q ∈ D ∨ q ∈ V := by
  unfold withAll at h
  induction V generalizing D with
  | nil => exact .inl h
  | cons a V ih =>
    rcases ih h with h1 | h1
    · unfold withOne at h1
      split at h1
      · exact .inl h1
      · rcases List.mem_append.mp h1 with h2 | h2
        · exact .inl h2
        · simp at h2; exact .inr (by simp [h2])
    · exact .inr (List.mem_cons_of_mem _ h1)
theorem withAll_len (D V : List Nat) : (withAll D V).length ≤ D.length + V.length := by
  unfold withAll
  induction V generalizing D with
  | nil => simp
  | cons a V ih =>
    have h1 := ih (withOne D a)
    have h2 : (withOne D a).length ≤ D.length + 1 := by unfold withOne; split <;> simp
    simp only [List.foldl_cons, List.length_cons]
    omega

/-- Some more behind, each once. -/
theorem once_withAll (A B : List Nat) : onceF (A ++ B) = withAll (onceF A) B := by
  unfold onceF withAll withOne
  rw [List.foldl_append]

theorem withAll_map {nb : Nat → Nat} {len : Nat} (hinj : ∀ i j, i < len → j < len → nb i = nb j → i = j) : ∀ (V D : List Nat), (∀ i ∈ D, i < len) → (∀ i ∈ V, i < len) → withAll (D.map nb) (V.map nb) = (withAll D V).map nb := by
  intro V
  induction V with
  | nil => intro D _ _; rfl
  | cons a V ih =>
    intro D hD hV
    have ha := hV a (by simp)
    have hm := mem_nb (nb := nb) hinj ha hD
    have h1 : withOne (D.map nb) (nb a) = (withOne D a).map nb := by
      unfold withOne
      by_cases h : a ∈ D
      · rw [if_pos h, if_pos (of_decide_eq_true (by rw [hm]; exact decide_eq_true h))]
      · rw [if_neg h, if_neg (of_decide_eq_false (by rw [hm]; exact decide_eq_false h)), List.map_append]; rfl
    show withAll (withOne (D.map nb) (nb a)) (V.map nb) = _
    rw [h1]
    refine ih (withOne D a) (fun i hi => ?_) (fun i hi => hV i (by simp [hi]))
    rcases withAll_mem (D := D) (V := [a]) (q := i) hi with h | h
    · exact hD i h
    · simp at h; subst h; exact ha

def AppPost (m : Nat) (D : List Nat) (w : World) (e : Ending) (w' : World) : Prop := ∃ v, e = .returned v ∧ Hid (OwnPtrs w' (m + 1) v D) ∧ Hid (PSet w' m D) ∧ Hid (Below m w w')

theorem eqlMapSome (bm : Nat) (w : World) : (binOp .eql 91 (.map (some bm)) (.map none)).run Try.prog w = .ok (.bool false) w := by kernel_rfl

set_option maxRecDepth 100000 in
set_option maxHeartbeats 4000000 in
theorem appendMany_any (v : Value) (D V : List Nat) (m g c : Nat) (w : World) (hown : OwnPtrs w (m + 1) v D) (hps : PSet w m D) (hg : ∀ i, i < V.length → w.cell? ⟨g, i, none⟩ = some (.pointer (some ⟨V.getD i 0, 0, none⟩))) (hgm : m < g) (hgl : g < w.heap.size) (hgv : v.ownBlock ≠ some g)
    (hal : ∀ q ∈ D, Alive w q) (hlow : ∀ q ∈ D, q < m) (hal2 : ∀ q ∈ V, Alive w q) (hlow2 : ∀ q ∈ V, q < m) (hn : D.length ≤ 100000) (hn2 : V.length ≤ 200) :
    Calls Try.prog 84 #[v, .slice (some ⟨g, 0, none⟩) V.length c, .map (some m)] w (AppPost m (withAll D V) w) := by
  obtain ⟨i0, hi, hz0, hz1, hz2⟩ := info_parts Try.infoPtr
  obtain ⟨jn, hj, hjz⟩ := Try.node_info
  obtain ⟨va, vc, hv, hvc⟩ := hown.ptrs.nil
  rw [List.length_map] at hv hvc
  subst hv
  have hml := hps.lt
  have HOWN := Lib.hid hown
  have HPS := Lib.hid hps
  have HAL := Lib.hid (And.intro hal hlow)
  have HAL2 := Lib.hid (And.intro hal2 hlow2)
  have HG := Lib.hid (And.intro hg (And.intro hgl hgv))
  clear hown hps hal hlow hal2 hlow2 hg hgl hgv
  go_enter Try.func84, Try.ntmps84
  have heq := eqlMapSome m w
  go_wp2
  clear heq
  go_loopw [0, 58] (fun x i wr => ∃ (k : Nat) (E : List Nat), i = .int .i64 k ∧ k ≤ V.length ∧ withAll D (V.take k) = E ∧ E.length ≤ D.length + k ∧ OwnPtrs wr (m + 1) x E ∧ PSet wr m E ∧ Below m w wr ∧ (∀ i, i < V.length → wr.cell? ⟨g, i, none⟩ = some (.pointer (some ⟨V.getD i 0, 0, none⟩))) ∧ g < wr.heap.size ∧ x.ownBlock ≠ some g) (fun _ i _ => V.length - (intOf i).toNat)
  case atStart => exact ⟨0, D, by go_num, by omega, rfl, by omega, HOWN.out, HPS.out, Below.refl _ _, HG.out.1, HG.out.2.1, HG.out.2.2⟩
  case round =>
    obtain ⟨k, E, rfl, hk, hE, hEl, hown1, hps1, hbel1, hc1, hgl1, hgv1⟩ := hrel
    by_cases hlt : k < V.length
    · have ck := hc1 k hlt
      have hmem := getD_mem' (d := 0) hlt
      have htk := take_snoc hlt
      have hsn := withAll_snoc D (V.take k) (V.getD k 0)
      obtain ⟨b, hb⟩ : ∃ b, V.getD k 0 = b := ⟨_, rfl⟩
      rw [hb] at ck hmem htk hsn
      rw [← htk, hE] at hsn
      have hba := HAL2.out.1 b hmem
      have hbm := HAL2.out.2 b hmem
      have hbar := hba.low hbm hbel1
      have hEq : ∀ q ∈ E, q < m ∧ Alive w q := fun q hq => by
        rw [← hE] at hq
        rcases withAll_mem hq with h | h
        · exact ⟨HAL.out.2 q h, HAL.out.1 q h⟩
        · have := List.mem_of_mem_take h
          exact ⟨HAL2.out.2 q this, HAL2.out.1 q this⟩
      have hlook := PSet.look (P := Try.prog) (t := 91) hps1 Try.underlying91 Try.underlying66 hj hjz rfl hbar (fun q hq => (hEq q hq).2.low (hEq q hq).1 hbel1)
      unfold ptrB at hlook
      have hkI : (k : Int) < (V.length : Int) := by omega
      obtain ⟨ua, uc, hu0, huc⟩ := hown1.ptrs.nil
      rw [List.length_map] at hu0 huc
      subst hu0
      have hml1 := hps1.lt
      have HOWN1 := Lib.hid hown1
      have HPS1 := Lib.hid hps1
      have HB1 := Lib.hid hbel1
      have HC1 := Lib.hid (And.intro hc1 (And.intro hgl1 hgv1))
      have HEQ := Lib.hid hEq
      have HBA := Lib.hid (And.intro hbm hba)
      clear hown1 hps1 hbel1 hc1 hgl1 hgv1 hEq hE hb hmem htk hba hbm hbar
      by_cases hin : b ∈ E
      · rw [decide_eq_true hin] at hlook
        have HW : Hid (withAll D (V.take (k + 1)) = E) := Lib.hid (by rw [hsn]; exact if_pos hin)
        clear hin hsn
        go_wp2
        go_roundw
        case rel => exact ⟨k + 1, E, by go_num, by omega, HW.out, by omega, HOWN1.out, HPS1.out, HB1.out, HC1.out.1, HC1.out.2.1, HC1.out.2.2⟩
        case measure => simp [intOf]; omega
      · rw [decide_eq_false hin] at hlook
        have HW : Hid (withAll D (V.take (k + 1)) = E ++ [b]) := Lib.hid (by rw [hsn]; exact if_neg hin)
        have hown' : wr.ownsRow (m + 1) 66 1 (.slice ua E.length uc) E.length (E.map ptrV) := HOWN1.out
        have hnews : ∀ j u, [Value.pointer (some ⟨b, 0, none⟩)][j]? = some u → (wr.alloc (.cells #[.pointer (some ⟨b, 0, none⟩)] 66)).cell? ((⟨wr.heap.size, 0, none⟩ : Addr).add j) = some u :=
          World.news_of_block (cs := #[.pointer (some ⟨b, 0, none⟩)]) (t := 66) (fr := (0, 0)) (heap_alloc_new wr _)
        have HNEWS := Lib.hid hnews
        have HOW := Lib.hid (World.ownsRow.alloc hown' (.cells #[.pointer (some ⟨b, 0, none⟩)] 66))
        clear hin hsn hnews hown'
        go_wp2_with (at_builtin; refine wpList_append_lies _ rfl _ _ 44 rfl (m + 1) 66 i0 (.pointer none) 1 8 Try.underlying44 hi hz0 hz1 hz2 rfl (by decide) _ _ _ rfl HOW.out ⟨wr.heap.size, 0, none⟩ 1 1 [.pointer (some ⟨b, 0, none⟩)] rfl rfl HNEWS.out (by simp [Value.oneCell']) (by omega) (by unfold maxLen; omega) (by omega) (by simp; omega) _ rfl ?_)
        intro g2 cap2 w1 hown2 hgrow hat hlt2
        have hb1 : Below wr.heap.size wr (wr.alloc (.cells #[.pointer (some ⟨b, 0, none⟩)] 66)) := (Below.refl _ _).alloc (Nat.le_refl _) _
        have hsn2 := ownPtrs_snoc (k := b) hown2
        have hgs := hb1.size
        have hps2 : PSet w1 m E := (HPS1.out.below hb1).keep (hgrow.block m (by omega) (fun e => by
          have h1 := World.ownsRow.lt HOWN1.out m e.symm
          omega))
        have hbel2 : Below m wr w1 := (hb1.mono (Nat.le_of_lt hml1)).grown hgrow (by omega) (fun q hq => by
          have h1 := (World.ownsRow.lt HOWN1.out q hq).1
          omega)
        have hbel3 : Below m w w1 := HB1.out.trans hbel2
        obtain ⟨wu, hupd, hpsu, hgu⟩ := PSet.store (P := Try.prog) (t := 91) hps2 Try.underlying91 Try.underlying66 hj hjz (HBA.out.2.low HBA.out.1 hbel3) (fun q hq => (HEQ.out q hq).2.low (HEQ.out q hq).1 hbel3)
        unfold ptrB at hupd
        have hownu : OwnPtrs wu (m + 1) (.slice (some ⟨g2, 0, none⟩) (E.length + 1) cap2) (E ++ [b]) := ownsRow_kept hsn2 (fun q hq => hgu.block q (World.ownsRow.lt hsn2 q hq).2 (fun e => by
          have h1 := (World.ownsRow.lt hsn2 q hq).1
          simp at e
          omega))
        have hsz1 : wr.heap.size < w1.heap.size := by
          have h1 := hgrow.size
          simp at h1
          omega
        have hbelu : Below m w wu := hbel3.grown hgu (by omega) (fun q hq => by simp at hq; omega)
        have hpsw : PSet wu m (E ++ [b]) := hpsu.congr (fun q => by simp [or_comm])
        have hcu : ∀ i, i < V.length → wu.cell? ⟨g, i, none⟩ = some (.pointer (some ⟨V.getD i 0, 0, none⟩)) := fun i hi => by
          have hgg := HC1.out.2.1
          rw [hgu.cell_far ⟨g, i, none⟩ (by show g < _; omega) (by simp; omega), hgrow.cell_far ⟨g, i, none⟩ (by simp; omega) (fun e => HC1.out.2.2 e.symm)]
          exact cell_alloc_old (HC1.out.1 i hi) _
        have hgu2 : g < wu.heap.size := by have := hgu.size; have := HC1.out.2.1; omega
        have hgx : (Value.slice (some ⟨g2, 0, none⟩) (E.length + 1) cap2).ownBlock ≠ some g := by
          intro e
          simp [Value.ownBlock] at e
          subst e
          rcases hat with h | h
          · exact HC1.out.2.2 h
          · have := HC1.out.2.1; omega
        have HU := Lib.hid (And.intro hownu (And.intro hpsw (And.intro hbelu (And.intro hcu (And.intro hgu2 hgx)))))
        clear hown2 hgrow hb1 hsn2 hps2 hbel2 hbel3 hgu hownu hbelu hpsu hpsw hcu hgu2 hgx hat hgs hlt2 hsz1 ck
        go_wp2
        go_roundw
        case rel => exact ⟨k + 1, E ++ [b], by go_num, by omega, HW.out, by simp; omega, HU.out.1, HU.out.2.1, HU.out.2.2.1, HU.out.2.2.2.1, HU.out.2.2.2.2.1, HU.out.2.2.2.2.2⟩
        case measure => simp [intOf]; omega
    · obtain rfl : k = V.length := by omega
      rw [List.take_length] at hE
      have H1 : Hid (OwnPtrs wr (m + 1) u0 (withAll D V)) := Lib.hid (by rw [hE]; exact hown1)
      have H2 : Hid (PSet wr m (withAll D V)) := Lib.hid (by rw [hE]; exact hps1)
      have H3 := Lib.hid hbel1
      clear hown1 hps1 hbel1 hE hc1 hgl1 hgv1 hlt hEl
      go_wp2
      go_ret
      exact ⟨_, rfl, H1, H2, H3⟩

end Go.Proofs.Ytjidbnegoailcaa
