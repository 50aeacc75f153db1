/- A document that is changed step by step (impl.Changed): what stands while its nodes turn. -/
import Derived.Test.YtkdomegcacgpnaaGreatTakenAll
import Derived.Test.YtkdomegcacgpnaaGreatClsDom
import Derived.Test.YtkdomegcacgpnaaGreatKnotAll
namespace Go.Proofs.YtkdomegcacgpnaaGreat
open Go.RowKit
set_option linter.unusedVariables false
set_option linter.unusedSimpArgs false

/-- The selection of nothing. -/
def selC (d : Nat) (p : Value) : Array Value := #[.slice none 0 0, .pointer (some ⟨d, 0, none⟩), p]

set_option maxRecDepth 100000 in
set_option maxHeartbeats 1000000 in
theorem eq1o_any (s d : Nat) (a : Option Addr) (w : World) (c0 : w.cell? ⟨s, 0, none⟩ = some (.slice a 1 1)) (c1 : w.cell? ⟨s, 1, none⟩ = some (.pointer (some ⟨d, 0, none⟩))) :
    Calls Tryz.prog 32 #[.pointer (some ⟨s, 0, none⟩), .int .i64 1] w (fun e w' => ∃ s' p, e = .returned (.pointer (some ⟨s', 0, none⟩)) ∧ World.objAt w' s' (selC d p) 82 ∧ w.heap.size ≤ s' ∧ Below w.heap.size w w') := by
  go_enter Tryz.func32, Tryz.ntmps32
  go_wp2
  go_ret
  exact ⟨w.heap.size, _, rfl, objAt_alloc_new w _ _, Nat.le_refl _, (Below.refl _ w).alloc (Nat.le_refl _) _⟩

/-- A document on its way. -/
structure ChgAt (W w : World) (g bl n : Nat) (s0 d : Nat) (p : Value) (nb : Nat → Nat) (v : Nat → Value) (lab : Nat → NodeD) (F : Wd) : Prop where
  dom : DomAt W.heap.size w n nb v lab F
  obj : World.objAt w g #[.slice (some ⟨bl, 0, none⟩) n n, .pointer (some ⟨s0, 0, none⟩)] 53
  sel : World.objAt w s0 (selC d p) 82
  row : ∃ arr, World.objAt w bl arr 75 ∧ ∀ i, i < n → arr[i]? = some (lk (some (nb i)))
  bel : Below W.heap.size W w

theorem ChgAt.below {W w w' : World} {g bl n s0 d : Nat} {p : Value} {nb : Nat → Nat} {v : Nat → Value} {lab : Nat → NodeD} {F : Wd} (h : ChgAt W w g bl n s0 d p nb v lab F) (hb : Below w.heap.size w w') : ChgAt W w' g bl n s0 d p nb v lab F := by
  obtain ⟨arr, h1, h2⟩ := h.row
  exact ⟨h.dom.below hb, h.obj.below hb h.obj.lt, h.sel.below hb h.sel.lt, ⟨arr, h1.below hb h1.lt, h2⟩, h.bel.trans (hb.mono h.bel.size)⟩

theorem ChgAt.cell {W w : World} {g bl n s0 d : Nat} {p : Value} {nb : Nat → Nat} {v : Nat → Value} {lab : Nat → NodeD} {F : Wd} (h : ChgAt W w g bl n s0 d p nb v lab F) : ∀ i, i < n → w.cell? ⟨bl, i, none⟩ = some (.pointer (some ⟨nb i, 0, none⟩)) := fun i hi => by
  obtain ⟨arr, h1, h2⟩ := h.row
  exact h1.cell (h2 i hi)

theorem objAt_ne_node {w : World} {b k : Nat} {cs : Array Value} {t : TypeId} {r : NRec} (h : World.objAt w b cs t) (hn : World.nodeAt w k r) (ht : t ≠ 117) : b ≠ k := fun e => by
  subst e
  unfold World.objAt at h
  unfold World.nodeAt at hn
  rw [h] at hn
  simp only [NRec.obj, Option.some.injEq, Obj.cells.injEq] at hn
  exact ht hn.2.1

/-- An object of another type stands while nodes' attributes turn. -/
theorem OnlyC.obj {B n : Nat} {nb : Nat → Nat} {v : Nat → Value} {lab : Nat → NodeD} {F : Wd} {w w' : World} (ho : OnlyC B n nb v w w') (hD : DomAt B w n nb v lab F) {b : Nat} {cs : Array Value} {t : TypeId} (h : World.objAt w b cs t) (h1 : t ≠ 117) (h2 : t ≠ 119) : World.objAt w' b cs t := by
  have := ho.block b h.lt (fun i hi => objAt_ne_node h (hD.node i hi) h1) (fun i hi => objAt_ne_own h (hD.own i hi) h2)
  unfold World.objAt at h ⊢
  rw [this]
  exact h

theorem ChgAt.turn {W w w' : World} {g bl n s0 d : Nat} {p : Value} {nb : Nat → Nat} {v v' : Nat → Value} {lab lab' : Nat → NodeD} {F : Wd} (h : ChgAt W w g bl n s0 d p nb v lab F) (ho : OnlyC W.heap.size n nb v w w') (hD : DomAt W.heap.size w' n nb v' lab' F) : ChgAt W w' g bl n s0 d p nb v' lab' F := by
  obtain ⟨arr, h1, h2⟩ := h.row
  exact ⟨hD, ho.obj h.dom h.obj (by decide) (by decide), ho.obj h.dom h.sel (by decide) (by decide), ⟨arr, ho.obj h.dom h1 (by decide) (by decide), h2⟩, h.bel.trans (ho.below _ (Nat.le_refl _) (fun i hi => h.dom.base i hi))⟩

def BegunPost2 (ts : List NodeD) (len : Nat) (W : World) (e : Ending) (w : World) : Prop :=
  ∃ g bl nb vv s0 d p, e = .returned (.tuple #[.pointer (some ⟨g, 0, none⟩), .bool true]) ∧ Hid (ChgAt W w g bl len s0 d p nb vv (fun i => ts.getD i default) (wd0 (sz ts) len))

set_option maxRecDepth 100000 in
set_option maxHeartbeats 1000000 in
theorem begun2_any (W : World) (a : Option Addr) (len cap : Nat) (ts : List NodeD) (hR : RightT ts len) (hN : Nodes W a len ts) :
    Calls Tryz.prog 16 #[.slice a len cap] W (BegunPost2 ts len W) := by
  have hlen := hR.le
  have hpos := hR.pos
  have hg := grown_any W a len cap ts hR hN
  have HG := Lib.hid hg
  have HR := Lib.hid hR
  clear hg hR hN
  go_enter Tryz.func16, Tryz.ntmps16
  go_wp2_with fail
  refine HG.out.mono ?_
  rintro e w1 ⟨bl, nb, vv, rfl, hF, hb⟩
  have hbs := hb.out.size
  have c0 := hF.out.cell hpos
  clear HG
  go_wp2_with fail
  refine (newDoc_any _ _).mono ?_
  rintro e w2 ⟨d, s, a, rfl, k0, k1, k2, hb2⟩
  have HB2 := Lib.hid hb2
  clear hb2 c0
  go_wp2_with fail
  refine (eq1o_any s d a w2 k1 k2).mono ?_
  rintro e w3 ⟨s3, p, rfl, m0, m1, hb3⟩
  have hb13 : Below w1.heap.size w1 w3 := HB2.out.trans (hb3.mono HB2.out.size)
  have hF3 := hF.out.below hb13
  have hb03 : Below W.heap.size W w3 := hb.out.trans (hb13.mono hbs)
  have hbs3 := hb03.size
  have H3 := Lib.hid (And.intro hF3 (And.intro hb03 m0))
  clear hb3 hb13 hF3 hb03 k0 k1 k2 m0 m1
  go_wp2
  go_ret2
  have hba : ∀ o, Below w3.heap.size w3 (w3.alloc o) := fun o => (Below.refl _ _).alloc (Nat.le_refl _) o
  have hFa := H3.out.1.below (hba (.cells #[.slice (some ⟨bl, 0, none⟩) len len, .pointer (some ⟨s3, 0, none⟩)] 53))
  obtain ⟨arr, r1, r2, r3⟩ := hFa.row
  exact ⟨w3.heap.size, bl, nb, vv, s3, d, p, rfl, Lib.hid ⟨hFa.dom HR.out, objAt_alloc_new w3 _ _, H3.out.2.2.below (hba _) H3.out.2.2.lt, ⟨arr, r1, r3⟩, H3.out.2.1.alloc hbs3 _⟩⟩

end Go.Proofs.YtkdomegcacgpnaaGreat
