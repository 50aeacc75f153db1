/- goquery.appendWithoutDuplicates of one node, with a set. -/
import Derived.Test.YtobnglgnoflbnaaParNodes
namespace Go.Proofs.Ytobnglgnoflbnaa
open Go.RowKit
set_option linter.unusedVariables false
set_option linter.unusedSimpArgs false

theorem Alive.low {w w' : World} {m q : Nat} (h : Alive w q) (hq : q < m) (hb : Below m w w') : Alive w' q := by
  obtain ⟨c, t, h⟩ := h
  exact ⟨c, t, (hb.block q hq).trans h⟩

/-- With one more, if it is not there. -/
def withOne (D : List Nat) (b : Nat) : List Nat := if b ∈ D then D else D ++ [b]

def AppPost (m : Nat) (D : List Nat) (w : World) (e : Ending) (w' : World) : Prop := ∃ v, e = .returned v ∧ Hid (OwnPtrs w' (m + 1) v D) ∧ Hid (PSet w' m D) ∧ Hid (Below m w w')

theorem eqlMapSome (bm : Nat) (w : World) : (binOp .eql 138 (.map (some bm)) (.map none)).run Try.prog w = .ok (.bool false) w := by kernel_rfl

set_option maxRecDepth 100000 in
set_option maxHeartbeats 2000000 in
theorem appendOne_any (v : Value) (D : List Nat) (m g b : Nat) (w : World) (hown : OwnPtrs w (m + 1) v D) (hps : PSet w m D) (hg : w.cell? ⟨g, 0, none⟩ = some (.pointer (some ⟨b, 0, none⟩)))
    (hal : ∀ q ∈ D, Alive w q) (hlow : ∀ q ∈ D, q < m) (hb : Alive w b) (hbm : b < m) (hn : D.length ≤ 300) :
    Calls Try.prog 144 #[v, .slice (some ⟨g, 0, none⟩) 1 1, .map (some m)] w (AppPost m (withOne D b) w) := by
  obtain ⟨i0, hi, hz0, hz1, hz2⟩ := info_parts Try.infoPtr
  obtain ⟨jn, hj, hjz⟩ := Try.node_info
  obtain ⟨va, vc, hv, hvc, _⟩ := hown.ptrs
  rw [List.length_map] at hv hvc
  subst hv
  have hlook := PSet.look (P := Try.prog) (t := 138) hps Try.underlying138 Try.underlying75 hj hjz rfl hb hal
  unfold ptrB at hlook
  have hml := hps.lt
  have HOWN := Lib.hid hown
  have HPS := Lib.hid hps
  have HAL := Lib.hid (And.intro hal (And.intro hlow hb))
  clear hown hps hal hlow hb
  go_enter Try.func144, Try.ntmps144
  have heq := eqlMapSome m w
  go_wp2
  clear heq
  go_loopw [0, 58] (fun x i wr => ∃ k : Nat, i = .int .i64 k ∧ k ≤ 1 ∧ ((k = 0 ∧ x = .slice va D.length vc ∧ wr = w) ∨ (k = 1 ∧ OwnPtrs wr (m + 1) x (withOne D b) ∧ PSet wr m (withOne D b) ∧ Below m w wr))) (fun _ i _ => 1 - (intOf i).toNat)
  case atStart => exact ⟨0, by go_num, by omega, .inl ⟨rfl, rfl, rfl⟩⟩
  case round =>
    obtain ⟨k, rfl, hk, ⟨rfl, rfl, rfl⟩ | ⟨rfl, hown1, hps1, hbel1⟩⟩ := hrel
    · by_cases hin : b ∈ D
      · rw [decide_eq_true hin] at hlook
        have HW : Hid (withOne D b = D) := Lib.hid (if_pos hin)
        clear hin
        go_wp2
        go_roundw
        case rel => exact ⟨1, by go_num, by omega, .inr ⟨rfl, by rw [HW.out]; exact HOWN.out, by rw [HW.out]; exact HPS.out, Below.refl _ _⟩⟩
        case measure => simp [intOf]
      · rw [decide_eq_false hin] at hlook
        have HW : Hid (withOne D b = D ++ [b]) := Lib.hid (if_neg hin)
        have hown' : wr.ownsRow (m + 1) 75 1 (.slice va D.length vc) D.length (D.map ptrV) := HOWN.out
        clear hin
        go_wp2_with (at_builtin; refine wpList_append_own _ rfl _ _ 71 rfl (m + 1) 75 i0 (.pointer none) 1 8 Try.underlying71 hi hz0 hz1 hz2 rfl (by decide) _ _ _ rfl (hown'.alloc _) ⟨wr.heap.size, 0, none⟩ 1 1 [.pointer (some ⟨b, 0, none⟩)] rfl rfl ?c1 ?c2 ?c3 ?c4 ?c5 ?_)
        case c1 =>
          intro j u hj
          match j, hj with
          | 0, hj => simp at hj; subst hj; simp [Addr.add]
        case c2 => intro u hu; simp at hu; subst hu; rfl
        case c3 => unfold maxLen; omega
        case c4 => omega
        case c5 => first | omega | (simp; omega)
        intro v' w1 hown2 hgrow _
        have hb1 : Below wr.heap.size wr (wr.alloc (.cells #[.pointer (some ⟨b, 0, none⟩)] 75)) := (Below.refl _ _).alloc (Nat.le_refl _) _
        have hsn := ownPtrs_snoc (k := b) hown2
        have hps1 : PSet w1 m D := (HPS.out.below hb1).keep (hgrow.block m (by have := hb1.size; omega) (fun e => by
          have h1 := World.ownsRow.lt hown' m e.symm
          omega))
        have hbel1 : Below m wr w1 := (hb1.mono (Nat.le_of_lt hml)).grown hgrow (by have := hb1.size; omega) (fun q hq => by
          have h1 := (World.ownsRow.lt hown' q hq).1
          omega)
        obtain ⟨wu, hupd, hpsu, hgu⟩ := PSet.store (P := Try.prog) (t := 138) hps1 Try.underlying138 Try.underlying75 hj hjz (HAL.out.2.2.low hbm hbel1) (fun q hq => (HAL.out.1 q hq).low (HAL.out.2.1 q hq) hbel1)
        unfold ptrB at hupd
        have hownu : OwnPtrs wu (m + 1) v' (D ++ [b]) := ownsRow_kept hsn (fun q hq => hgu.block q (World.ownsRow.lt hsn q hq).2 (fun e => by
          have h1 := (World.ownsRow.lt hsn q hq).1
          simp at e
          omega))
        have hbelu : Below m wr wu := hbel1.grown hgu (by have := hbel1.size; omega) (fun q hq => by simp at hq; omega)
        have hpsw : PSet wu m (D ++ [b]) := hpsu.congr (fun q => by simp [or_comm])
        have HU := Lib.hid (And.intro hownu (And.intro hpsw hbelu))
        clear hown2 hgrow hb1 hsn hps1 hbel1 hgu hownu hbelu hpsu hpsw hown'
        go_wp2
        go_roundw
        case rel => exact ⟨1, by go_num, by omega, .inr ⟨rfl, by rw [HW.out]; exact HU.out.1, by rw [HW.out]; exact HU.out.2.1, HU.out.2.2⟩⟩
        case measure => simp [intOf]
    · have H1 := Lib.hid hown1
      have H2 := Lib.hid hps1
      have H3 := Lib.hid hbel1
      clear hown1 hps1 hbel1 hlook
      go_wp2
      go_ret
      exact ⟨_, rfl, H1, H2, H3⟩

end Go.Proofs.Ytobnglgnoflbnaa
