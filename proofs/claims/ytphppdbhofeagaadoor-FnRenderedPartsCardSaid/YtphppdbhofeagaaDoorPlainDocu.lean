/- spec.PlainDocument. -/
import Derived.Test.YtphppdbhofeagaaDoorPlainDoc
import Derived.Test.YtphppdbhofeagaaDoorRightAll
import Derived.RegionTactic
import Derived.BigRegion
import Derived.Deep.Cut
import Derived.Deep.CutRange
namespace Go.Proofs.YtphppdbhofeagaaDoor
open Go.RowKit
set_option linter.unusedVariables false
set_option linter.unusedSimpArgs false

def DocSays (ts : List NodeD) (len : Nat) (b : Bool) : Prop := b = true → 5 ≤ len ∧ RightT ts len ∧ ∀ i, 4 ≤ i → i < len → PlainR (ts.getD i default)
theorem docSays_false (ts : List NodeD) (len : Nat) : DocSays ts len false := by intro h; cases h

/-- The five cells of a node. -/
structure Cells5 (w : World) (b o : Nat) (k : Int) (g x : ByteArray) (aa : Option Addr) (al ac : Nat) (z : Int) : Prop where
  c0 : w.cell? ⟨b, o, none⟩ = some (.int .i64 k)
  c1 : w.cell? ⟨b, o + 1, none⟩ = some (.string g)
  c2 : w.cell? ⟨b, o + 2, none⟩ = some (.string x)
  c3 : w.cell? ⟨b, o + 3, none⟩ = some (.slice aa al ac)
  c4 : w.cell? ⟨b, o + 4, none⟩ = some (.int .i64 z)

theorem Cells5.alloc {w : World} {b o : Nat} {k : Int} {g x : ByteArray} {aa : Option Addr} {al ac : Nat} {z : Int} (h : Cells5 w b o k g x aa al ac z) (ob : Obj) : Cells5 (w.alloc ob) b o k g x aa al ac z :=
  ⟨cell_alloc_old h.c0 _, cell_alloc_old h.c1 _, cell_alloc_old h.c2 _, cell_alloc_old h.c3 _, cell_alloc_old h.c4 _⟩

/-- The copy of a node. -/
abbrev nodeO (m : NodeD) : Obj := .cells #[.int .i64 m.kind, .string m.tag, .string m.text, .slice m.aa m.al m.ac, .int .i64 m.size] 26

/-- Where the copy of a node lies. -/
structure CopyAt (w : World) (p : Nat) (m : NodeD) : Prop where
  c1 : w.cell? ⟨p, 1, none⟩ = some (.string m.tag)
  c3 : w.cell? ⟨p, 3, none⟩ = some (.slice m.aa m.al m.ac)
  c4 : w.cell? ⟨p, 4, none⟩ = some (.int .i64 m.size)

theorem CopyAt.below {w w' : World} {p : Nat} {m : NodeD} (h : CopyAt w p m) (hb : Below w.heap.size w w') : CopyAt w' p m :=
  ⟨cell_below hb h.c1, cell_below hb h.c3, cell_below hb h.c4⟩

theorem copies3 (w : World) (ma mb mc : NodeD) : CopyAt (((w.alloc (nodeO ma)).alloc (nodeO mb)).alloc (nodeO mc)).drew w.heap.size ma ∧ CopyAt (((w.alloc (nodeO ma)).alloc (nodeO mb)).alloc (nodeO mc)).drew (w.heap.size + 1) mb ∧
    CopyAt (((w.alloc (nodeO ma)).alloc (nodeO mb)).alloc (nodeO mc)).drew (w.heap.size + 1 + 1) mc ∧ Below w.heap.size w (((w.alloc (nodeO ma)).alloc (nodeO mb)).alloc (nodeO mc)).drew := by
  have s1 : (w.alloc (nodeO ma)).heap.size = w.heap.size + 1 := by simp
  have s2 : ((w.alloc (nodeO ma)).alloc (nodeO mb)).heap.size = w.heap.size + 1 + 1 := by simp
  refine ⟨⟨?_, ?_, ?_⟩, ⟨?_, ?_, ?_⟩, ⟨?_, ?_, ?_⟩, ?_⟩
  · exact cell_alloc_old (cell_alloc_old (cell_alloc_new' w _ _ rfl rfl) _) _
  · exact cell_alloc_old (cell_alloc_old (cell_alloc_new' w _ _ rfl rfl) _) _
  · exact cell_alloc_old (cell_alloc_old (cell_alloc_new' w _ _ rfl rfl) _) _
  · exact cell_alloc_old (cell_alloc_new' (w.alloc (nodeO ma)) _ _ s1.symm rfl) _
  · exact cell_alloc_old (cell_alloc_new' (w.alloc (nodeO ma)) _ _ s1.symm rfl) _
  · exact cell_alloc_old (cell_alloc_new' (w.alloc (nodeO ma)) _ _ s1.symm rfl) _
  · exact cell_alloc_new' ((w.alloc (nodeO ma)).alloc (nodeO mb)) _ _ s2.symm rfl
  · exact cell_alloc_new' ((w.alloc (nodeO ma)).alloc (nodeO mb)) _ _ s2.symm rfl
  · exact cell_alloc_new' ((w.alloc (nodeO ma)).alloc (nodeO mb)) _ _ s2.symm rfl
  · exact ((((Below.refl _ w).alloc (Nat.le_refl _) _).alloc (by simp) _).alloc (by simp; omega) _).drew

theorem docu_says {ts : List NodeD} {len : Nat} {m4 : NodeD} (hl : 5 ≤ len) (hR : RightT ts len) (hm : ts.getD 4 default = m4) (ht : Plainish m4.tag) (hs : m4.size = (len : Int) - 4) (ha : NoCrs m4.attrs) (hk : ∀ i, 4 < i → i < 4 + sz ts 4 → PlainR (ts.getD i default)) :
    5 ≤ len ∧ RightT ts len ∧ ∀ i, 4 ≤ i → i < len → PlainR (ts.getD i default) := by
  refine ⟨hl, hR, fun i h1 h2 => ?_⟩
  have hz : sz ts 4 = len - 4 := by unfold sz; rw [hm, hs]; omega
  by_cases e : i = 4
  · subst e
    rw [hm]
    have hk3 : m4.kind = 3 := by
      by_cases h3 : m4.kind = 3
      · exact h3
      · have hn := hR.node 4 (by omega)
        rw [hm] at hn
        have := (hn.bare h3).1
        rw [ByteArray.toList_eq] at this
        rw [Plainish, this] at ht
        exact absurd ht (by decide)
    exact ⟨.inl ⟨hk3, ht⟩, fun _ => ha⟩
  · exact hk i (by omega) (by omega)

set_option maxRecDepth 100000 in
set_option maxHeartbeats 16000000 in
theorem plainDocument_any (a : Option Addr) (len cap : Nat) (ts : List NodeD) (w : World) (h : Nodes w a len ts) (hT : TabsAt w) :
    Calls Tryd.prog 5 #[.slice a len cap] w (SomeBoolB (DocSays ts len) w) := by
  have hm := h.len.2
  have HN := Lib.hid h
  have HT := Lib.hid hT
  clear h hT
  go_enter Tryd.func5, Tryd.ntmps5
  go_wp2_with fail
  refine (right_any a len cap ts w HN.out).mono ?_
  rintro e w2 ⟨b1, hb1, rfl, hbl2⟩
  have HB2 := Lib.hid hbl2
  cases b1
  · clear hbl2 hb1
    go_wp2
    go_ret
    exact ⟨_, docSays_false _ _, rfl, HB2.out⟩
  have HR := Lib.hid (hb1 rfl)
  clear hb1 hbl2
  by_cases hlen : 5 ≤ len
  rotate_left
  · have hlt : (len : Int) < 5 := by omega
    clear hlen
    go_wp2
    go_ret
    exact ⟨_, docSays_false _ _, rfl, HB2.out⟩
  have hge : ¬ (len : Int) < 5 := by omega
  obtain ⟨b, off, rfl, hc⟩ := (HN.out.below HB2.out).at (by omega)
  have n1 := hc 1 (by omega)
  have k1 := n1.kind
  have x1 := n1.text
  rw [show off + 1 * 5 = off + 5 by omega] at k1 x1
  obtain ⟨kk, hkk⟩ : ∃ kk, (ts.getD 1 default).kind = kk := ⟨_, rfl⟩
  obtain ⟨tx, htx⟩ : ∃ tx, (ts.getD 1 default).text = tx := ⟨_, rfl⟩
  rw [hkk] at k1
  rw [htx] at x1
  have HC := Lib.hid hc
  clear n1 hkk htx hc
  cases hk2 : (kk == 2)
  · have hk3 : (kk != 2) = true := by rw [bne, hk2]; rfl
    go_wp2
    go_ret
    exact ⟨_, docSays_false _ _, rfl, HB2.out⟩
  have hk3 : (kk != 2) = false := by rw [bne, hk2]; rfl
  cases ht2 : (tx.toList == [104, 116, 109, 108])
  · have ht3 : (tx.toList != [104, 116, 109, 108]) = true := by rw [bne, ht2]; rfl
    go_wp2
    go_ret
    exact ⟨_, docSays_false _ _, rfl, HB2.out⟩
  have ht3 : (tx.toList != [104, 116, 109, 108]) = false := by rw [bne, ht2]; rfl
  have hc5 : ∀ j, j < len → Cells5 w2 b (off + j * 5) (ts.getD j default).kind (ts.getD j default).tag (ts.getD j default).text (ts.getD j default).aa (ts.getD j default).al (ts.getD j default).ac (ts.getD j default).size := fun j hj => ⟨(HC.out j hj).kind, (HC.out j hj).tag, (HC.out j hj).text, (HC.out j hj).attrs, (HC.out j hj).size⟩
  have h2 := hc5 2 (by omega)
  have h3 := hc5 3 (by omega)
  have h4 := hc5 4 (by omega)
  rw [show off + 2 * 5 = off + 10 by omega] at h2
  rw [show off + 3 * 5 = off + 15 by omega] at h3
  rw [show off + 4 * 5 = off + 20 by omega] at h4
  have hbw : b < w2.heap.size := World.block_lt_of_cell? _ _ k1
  have at2 := (HC.out 2 (by omega)).at_
  have at4 := (HC.out 4 (by omega)).at_
  clear hc5
  generalize ts.getD 2 default = m2 at *
  generalize ts.getD 3 default = m3 at *
  obtain ⟨m4, hm4⟩ : ∃ m4, ts.getD 4 default = m4 := ⟨_, rfl⟩
  rw [hm4] at h4 at4
  have HM4 := Lib.hid hm4
  have HAT2 := Lib.hid at2
  have HAT4 := Lib.hid at4
  clear at2 at4
  clear hm4
  have H4 := Lib.hid h4
  have e0 := h2.c0
  have e0a := fun o1 : Obj => (h2.alloc o1).c0
  have e0b := fun o1 o2 : Obj => ((h2.alloc o1).alloc o2).c0
  have e0c := fun o1 o2 o3 : Obj => ((((h2.alloc o1).alloc o2).alloc o3).c0)
  have e1 := h2.c1
  have e1a := fun o1 : Obj => (h2.alloc o1).c1
  have e1b := fun o1 o2 : Obj => ((h2.alloc o1).alloc o2).c1
  have e1c := fun o1 o2 o3 : Obj => ((((h2.alloc o1).alloc o2).alloc o3).c1)
  have e2 := h2.c2
  have e2a := fun o1 : Obj => (h2.alloc o1).c2
  have e2b := fun o1 o2 : Obj => ((h2.alloc o1).alloc o2).c2
  have e2c := fun o1 o2 o3 : Obj => ((((h2.alloc o1).alloc o2).alloc o3).c2)
  have e3 := h2.c3
  have e3a := fun o1 : Obj => (h2.alloc o1).c3
  have e3b := fun o1 o2 : Obj => ((h2.alloc o1).alloc o2).c3
  have e3c := fun o1 o2 o3 : Obj => ((((h2.alloc o1).alloc o2).alloc o3).c3)
  have e4 := h2.c4
  have e4a := fun o1 : Obj => (h2.alloc o1).c4
  have e4b := fun o1 o2 : Obj => ((h2.alloc o1).alloc o2).c4
  have e4c := fun o1 o2 o3 : Obj => ((((h2.alloc o1).alloc o2).alloc o3).c4)
  have f0 := h3.c0
  have f0a := fun o1 : Obj => (h3.alloc o1).c0
  have f0b := fun o1 o2 : Obj => ((h3.alloc o1).alloc o2).c0
  have f0c := fun o1 o2 o3 : Obj => ((((h3.alloc o1).alloc o2).alloc o3).c0)
  have f1 := h3.c1
  have f1a := fun o1 : Obj => (h3.alloc o1).c1
  have f1b := fun o1 o2 : Obj => ((h3.alloc o1).alloc o2).c1
  have f1c := fun o1 o2 o3 : Obj => ((((h3.alloc o1).alloc o2).alloc o3).c1)
  have f2 := h3.c2
  have f2a := fun o1 : Obj => (h3.alloc o1).c2
  have f2b := fun o1 o2 : Obj => ((h3.alloc o1).alloc o2).c2
  have f2c := fun o1 o2 o3 : Obj => ((((h3.alloc o1).alloc o2).alloc o3).c2)
  have f3 := h3.c3
  have f3a := fun o1 : Obj => (h3.alloc o1).c3
  have f3b := fun o1 o2 : Obj => ((h3.alloc o1).alloc o2).c3
  have f3c := fun o1 o2 o3 : Obj => ((((h3.alloc o1).alloc o2).alloc o3).c3)
  have f4 := h3.c4
  have f4a := fun o1 : Obj => (h3.alloc o1).c4
  have f4b := fun o1 o2 : Obj => ((h3.alloc o1).alloc o2).c4
  have f4c := fun o1 o2 o3 : Obj => ((((h3.alloc o1).alloc o2).alloc o3).c4)
  have g0 := h4.c0
  have g0a := fun o1 : Obj => (h4.alloc o1).c0
  have g0b := fun o1 o2 : Obj => ((h4.alloc o1).alloc o2).c0
  have g0c := fun o1 o2 o3 : Obj => ((((h4.alloc o1).alloc o2).alloc o3).c0)
  have g1 := h4.c1
  have g1a := fun o1 : Obj => (h4.alloc o1).c1
  have g1b := fun o1 o2 : Obj => ((h4.alloc o1).alloc o2).c1
  have g1c := fun o1 o2 o3 : Obj => ((((h4.alloc o1).alloc o2).alloc o3).c1)
  have g2 := h4.c2
  have g2a := fun o1 : Obj => (h4.alloc o1).c2
  have g2b := fun o1 o2 : Obj => ((h4.alloc o1).alloc o2).c2
  have g2c := fun o1 o2 o3 : Obj => ((((h4.alloc o1).alloc o2).alloc o3).c2)
  have g3 := h4.c3
  have g3a := fun o1 : Obj => (h4.alloc o1).c3
  have g3b := fun o1 o2 : Obj => ((h4.alloc o1).alloc o2).c3
  have g3c := fun o1 o2 o3 : Obj => ((((h4.alloc o1).alloc o2).alloc o3).c3)
  have g4 := h4.c4
  have g4a := fun o1 : Obj => (h4.alloc o1).c4
  have g4b := fun o1 o2 : Obj => ((h4.alloc o1).alloc o2).c4
  have g4c := fun o1 o2 o3 : Obj => ((((h4.alloc o1).alloc o2).alloc o3).c4)
  clear h2 h3 h4
  have l2 : (2 : Int) < (len : Int) := by omega
  have l3 : (3 : Int) < (len : Int) := by omega
  have l4 : (4 : Int) < (len : Int) := by omega
  go_wp2
  go_cut [3, 4, 5] from 28 (fun s3 s4 s5 wz => ∃ p3 p4 p5 : Nat, s3 = .pointer (some ⟨p3, 0, none⟩) ∧ s4 = .pointer (some ⟨p4, 0, none⟩) ∧ s5 = .pointer (some ⟨p5, 0, none⟩) ∧ Hid (CopyAt wz p3 m2 ∧ CopyAt wz p4 m3 ∧ CopyAt wz p5 m4) ∧ Hid (Below w2.heap.size w2 wz))
  case first =>
    go_region
    all_goals
      clear e0 e0a e0b e0c e1 e1a e1b e1c e2 e2a e2b e2c e3 e3a e3b e3c e4 e4a e4b e4c f0 f0a f0b f0c f1 f1a f1b f1c f2 f2a f2b f2c f3 f3a f3b f3c f4 f4a f4b f4c g0 g0a g0b g0c g1 g1a g1b g1c g2 g2a g2b g2c g3 g3a g3b g3c g4 g4a g4b g4c
      first
      | (obtain ⟨wz, hwz⟩ : ∃ wz, (((w2.alloc (nodeO m2)).alloc (nodeO m3)).alloc (nodeO m4)).drew = wz := ⟨_, rfl⟩
         rw [hwz]
         have N := copies3 w2 m2 m3 m4
         rw [hwz] at N
         have HA := N.1
         have HBc := N.2.1
         have HCc := N.2.2.1
         have HBZ := Lib.hid N.2.2.2)
      | (obtain ⟨wz, hwz⟩ : ∃ wz, (((w2.alloc (nodeO m2)).alloc (nodeO m4)).alloc (nodeO m3)).drew = wz := ⟨_, rfl⟩
         rw [hwz]
         have N := copies3 w2 m2 m4 m3
         rw [hwz] at N
         have HA := N.1
         have HBc := N.2.2.1
         have HCc := N.2.1
         have HBZ := Lib.hid N.2.2.2)
      | (obtain ⟨wz, hwz⟩ : ∃ wz, (((w2.alloc (nodeO m3)).alloc (nodeO m2)).alloc (nodeO m4)).drew = wz := ⟨_, rfl⟩
         rw [hwz]
         have N := copies3 w2 m3 m2 m4
         rw [hwz] at N
         have HA := N.2.1
         have HBc := N.1
         have HCc := N.2.2.1
         have HBZ := Lib.hid N.2.2.2)
      | (obtain ⟨wz, hwz⟩ : ∃ wz, (((w2.alloc (nodeO m3)).alloc (nodeO m4)).alloc (nodeO m2)).drew = wz := ⟨_, rfl⟩
         rw [hwz]
         have N := copies3 w2 m3 m4 m2
         rw [hwz] at N
         have HA := N.2.2.1
         have HBc := N.1
         have HCc := N.2.1
         have HBZ := Lib.hid N.2.2.2)
      | (obtain ⟨wz, hwz⟩ : ∃ wz, (((w2.alloc (nodeO m4)).alloc (nodeO m2)).alloc (nodeO m3)).drew = wz := ⟨_, rfl⟩
         rw [hwz]
         have N := copies3 w2 m4 m2 m3
         rw [hwz] at N
         have HA := N.2.1
         have HBc := N.2.2.1
         have HCc := N.1
         have HBZ := Lib.hid N.2.2.2)
      | (obtain ⟨wz, hwz⟩ : ∃ wz, (((w2.alloc (nodeO m4)).alloc (nodeO m3)).alloc (nodeO m2)).drew = wz := ⟨_, rfl⟩
         rw [hwz]
         have N := copies3 w2 m4 m3 m2
         rw [hwz] at N
         have HA := N.2.2.1
         have HBc := N.2.1
         have HCc := N.1
         have HBZ := Lib.hid N.2.2.2)
      clear N hwz
      go_wp2_with fail
      go_meet
      case rel => exact ⟨_, _, _, rfl, rfl, rfl, Lib.hid ⟨HA, HBc, HCc⟩, HBZ⟩
  case rest =>
    clear e0 e0a e0b e0c e1 e1a e1b e1c e2 e2a e2b e2c e3 e3a e3b e3c e4 e4a e4b e4c f0 f0a f0b f0c f1 f1a f1b f1c f2 f2a f2b f2c f3 f3a f3b f3c f4 f4a f4b f4c g0 g0a g0b g0c g1 g1a g1b g1c g2 g2a g2b g2c g3 g3a g3b g3c g4 g4a g4b g4c
    obtain ⟨p3, p4, p5, rfl, rfl, rfl, HAZ, HBZ⟩ := hcut
    obtain ⟨HA, HBc, HCc⟩ := HAZ.out
    have hbW : Below w.heap.size w wc := HB2.out.trans (HBZ.out.mono HB2.out.size)
    have HW := Lib.hid hbW
    obtain ⟨a1, a3, a4⟩ := HA
    obtain ⟨b1, b3, b4⟩ := HBc
    obtain ⟨d1, d3, d4⟩ := HCc
    clear hbW k1 x1 hk2 hk3 ht2 ht3
    cases q1 : (m2.tag.toList == [104, 116, 109, 108])
    case false =>
      have q1' : (m2.tag.toList != [104, 116, 109, 108]) = true := by rw [bne, q1]; rfl
      go_wp2
      go_ret
      exact ⟨_, docSays_false _ _, rfl, HW.out⟩
    have q1' : (m2.tag.toList != [104, 116, 109, 108]) = false := by rw [bne, q1]; rfl
    cases q2 : (m2.size == (len : Int) - 2)
    case false =>
      have q2' : (m2.size != (len : Int) - 2) = true := by rw [bne, q2]; rfl
      go_wp2
      go_ret
      exact ⟨_, docSays_false _ _, rfl, HW.out⟩
    have q2' : (m2.size != (len : Int) - 2) = false := by rw [bne, q2]; rfl
    cases q3 : (m3.tag.toList == [104, 101, 97, 100])
    case false =>
      have q3' : (m3.tag.toList != [104, 101, 97, 100]) = true := by rw [bne, q3]; rfl
      go_wp2
      go_ret
      exact ⟨_, docSays_false _ _, rfl, HW.out⟩
    have q3' : (m3.tag.toList != [104, 101, 97, 100]) = false := by rw [bne, q3]; rfl
    cases q4 : (m3.size == 1)
    case false =>
      have q4' : (m3.size != 1) = true := by rw [bne, q4]; rfl
      go_wp2
      go_ret
      exact ⟨_, docSays_false _ _, rfl, HW.out⟩
    have q4' : (m3.size != 1) = false := by rw [bne, q4]; rfl
    by_cases h5 : 0 < m3.al
    case pos =>
      have q5 : decide ((0 : Int) < (m3.al : Int)) = true := by simpa using h5
      have q5n : decide (0 < m3.al) = true := by simpa using h5
      go_wp2
      go_ret
      exact ⟨_, docSays_false _ _, rfl, HW.out⟩
    have q5 : decide ((0 : Int) < (m3.al : Int)) = false := by simpa using h5
    have q5n : decide (0 < m3.al) = false := by simpa using h5
    cases q6 : (m4.tag.toList == [98, 111, 100, 121])
    case false =>
      have q6' : (m4.tag.toList != [98, 111, 100, 121]) = true := by rw [bne, q6]; rfl
      go_wp2
      go_ret
      exact ⟨_, docSays_false _ _, rfl, HW.out⟩
    have q6' : (m4.tag.toList != [98, 111, 100, 121]) = false := by rw [bne, q6]; rfl
    cases q7 : (m4.size == (len : Int) - 4)
    case false =>
      have q7' : (m4.size != (len : Int) - 4) = true := by rw [bne, q7]; rfl
      go_wp2
      go_ret
      exact ⟨_, docSays_false _ _, rfl, HW.out⟩
    have q7' : (m4.size != (len : Int) - 4) = false := by rw [bne, q7]; rfl
    have HQ6 := Lib.hid (plainish_of q6 (by decide))
    have HQ7 := Lib.hid (eq_of_beq q7)
    have HP1 := Lib.hid (plainAttrs_any m2.aa m2.al m2.ac m2.attrs wc (HAT2.out.below HBZ.out) (HT.out.below HW.out))
    go_wp2_with fail
    refine HP1.out.mono ?_
    rintro e w5 ⟨r1, _, rfl, hb5⟩
    have HB5 := Lib.hid hb5
    have HW5 := Lib.hid (HW.out.trans (hb5.mono HW.out.size))
    have d3' := cell_below hb5 d3
    clear hb5 HP1 a1 a3 a4 b1 b3 b4 d1 d4 q1 q1' q2 q2' q3 q3' q4 q4' q5 q5n h5 q6 q6' q7 q7'
    cases r1
    · go_wp2
      go_ret
      exact ⟨_, docSays_false _ _, rfl, HW5.out⟩
    have HP2 := Lib.hid (plainAttrs_any m4.aa m4.al m4.ac m4.attrs w5 ((HAT4.out.below HBZ.out).below HB5.out) (HT.out.below HW5.out))
    go_wp2_with fail
    refine HP2.out.mono ?_
    rintro e w6 ⟨r2, hr2, rfl, hb6⟩
    have HR2 := Lib.hid hr2
    have HW6 := Lib.hid (HW5.out.trans (hb6.mono HW5.out.size))
    clear hb6 HP2 d3' d3 hr2
    cases r2
    · go_wp2
      go_ret
      exact ⟨_, docSays_false _ _, rfl, HW6.out⟩
    have HP3 := Lib.hid (plainKids_any (some ⟨b, off, none⟩) len cap ts HR.out (sz ts 4) 4 w6 (HN.out.below HW6.out) (HT.out.below HW6.out) (by omega) (Nat.le_refl _))
    go_wp2_with fail
    refine HP3.out.mono ?_
    rintro e w7 ⟨r3, hr3, rfl, hb7⟩
    have HW7 := Lib.hid (HW6.out.trans (hb7.mono HW6.out.size))
    have HR3 := Lib.hid hr3
    clear hb7 HP3 hr3
    go_wp2
    go_ret
    exact ⟨r3, fun hr => docu_says hlen HR.out HM4.out HQ6.out HQ7.out (HR2.out rfl) (HR3.out hr), rfl, HW7.out⟩

end Go.Proofs.YtphppdbhofeagaaDoor
