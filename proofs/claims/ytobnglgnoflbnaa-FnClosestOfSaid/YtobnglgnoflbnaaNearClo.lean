/- The function that ClosestNodes hands on: the nearest of a set, going up. -/
import Derived.Test.YtobnglgnoflbnaaNear
import Derived.Test.YtobnglgnoflbnaaParNodes
namespace Go.Proofs.Ytobnglgnoflbnaa
open Go.RowKit
set_option linter.unusedVariables false
set_option linter.unusedSimpArgs false

def NearNo (w : World) (e : Ending) (w' : World) : Prop := e = .returned (.slice none 0 0) ∧ Hid (Below w.heap.size w w')
def NearOne (b : Nat) (w : World) (e : Ending) (w' : World) : Prop := ∃ g, e = .returned (.slice (some ⟨g, 0, none⟩) 1 1) ∧ w'.cell? ⟨g, 0, none⟩ = some (.pointer (some ⟨b, 0, none⟩)) ∧ Hid (OwnPtrs w' w.heap.size (.slice (some ⟨g, 0, none⟩) 1 1) [b]) ∧ Hid (Below w.heap.size w w')

theorem ownsRow_one (w : World) (B : Nat) (hB : B ≤ w.heap.size) (e : TypeId) (u : Value) : (w.alloc (.cells #[u] e)).ownsRow B e 1 (.slice (some ⟨w.heap.size, 0, none⟩) 1 1) 1 [u] :=
  ⟨by simp, .inr ⟨w.heap.size, 1, #[u], rfl, hB, heap_alloc_new w _, Nat.le_refl _, by unfold maxLen; omega, by simp, by simp⟩⟩
/-- No node, or a row of one. -/
def NearPost (nb : Nat → Nat) (o : Option Nat) (w : World) : Ending → World → Prop := match o with | none => NearNo w | some p => NearOne (nb p) w

set_option maxRecDepth 100000 in
set_option maxHeartbeats 2000000 in
theorem nearClo_any {B : Nat} (i : Int) (x : Nat) (c m : Nat) (D : List Nat) (S : Nat → Bool) (w : World) (bl len : Nat) (nb : Nat → Nat) (vv : Nat → Value) (ts : List NodeD) (hF : Forest B w bl len nb vv ts) (hx : x < len)
    (hc : w.cell? ⟨c, 0, none⟩ = some (.map (some m))) (hps : PSet w m D) (hal : ∀ q ∈ D, Alive w q) (hS : ∀ y, y < len → S y = decide (nb y ∈ D)) :
    Calls Try.prog 112 #[.int .i64 i, .pointer (some ⟨nb x, 0, none⟩), .pointer (some ⟨c, 0, none⟩)] w (NearPost nb (near (sz ts) S x) w) := by
  obtain ⟨jn, hj, hjz⟩ := Try.node_info
  obtain ⟨o, ho⟩ : ∃ o, near (sz ts) S x = o := ⟨_, rfl⟩
  rw [ho]
  have HO := Lib.hid ho
  have HF := Lib.hid hF
  have HPS := Lib.hid (And.intro hps hal)
  have HS := Lib.hid hS
  clear ho hF hps hal hS
  go_enter Try.func112, Try.ntmps112
  go_wp2
  go_loopg [1] (x + 1) (fun gk n wr => ((gk = 0 ∧ n = .pointer none ∧ o = none) ∨ ∃ y, gk = y + 1 ∧ y < len ∧ n = .pointer (some ⟨nb y, 0, none⟩) ∧ near (sz ts) S y = o) ∧ wr = w)
  case atStart => exact ⟨.inr ⟨x, rfl, hx, rfl, HO.out⟩, rfl⟩
  case round =>
    obtain ⟨⟨rfl, rfl, rfl⟩ | ⟨y, rfl, hy, rfl, hny⟩, rfl⟩ := hrel
    · go_wp2
      go_ret
      exact ⟨rfl, Lib.hid (Below.refl _ _)⟩
    · have ny := HF.out.node hy
      have kp := ny.par
      rw [show (nodeR (fun i => i + sz ts i) 0 nb (ts.getD y default) (vv y) y).par = (up (fun i => i + sz ts i) 0 y).map nb from rfl, up_par] at kp
      have hlook := PSet.look (P := Try.prog) (t := 138) HPS.out.1 Try.underlying138 Try.underlying75 hj hjz rfl ny.alive HPS.out.2
      unfold ptrB at hlook
      rw [← HS.out y hy] at hlook
      cases hs : S y
      · rw [hs] at hlook
        cases hp : par (sz ts) y with
        | none =>
          rw [hp, Option.map_none, lk_none] at kp
          rw [near_top hs hp] at hny
          have HNY := Lib.hid hny.symm
          clear hs hp ny hny
          go_wp2
          go_roundg 0
          case measure => omega
          case rel => exact ⟨.inl ⟨rfl, rfl, HNY.out⟩, by first | trivial | rfl⟩
        | some p =>
          rw [hp, Option.map_some, lk_some] at kp
          have hpy := (par_some hp).1
          rw [near_up hs hp] at hny
          have HNY := Lib.hid hny
          have hpl : p < len := by omega
          clear hs hp ny hny
          go_wp2
          go_roundg (p + 1)
          case measure => omega
          case rel => exact ⟨.inr ⟨p, rfl, hpl, rfl, HNY.out⟩, by first | trivial | rfl⟩
      · rw [hs] at hlook
        rw [near_here hs] at hny
        subst hny
        clear hs ny
        go_wp2
        go_ret
        exact ⟨_, rfl, cell_alloc_new' _ _ _ rfl rfl, Lib.hid (ownsRow_one wr wr.heap.size (Nat.le_refl _) 75 (ptrV (nb y))), Lib.hid ((Below.refl _ _).alloc (Nat.le_refl _) _)⟩

end Go.Proofs.Ytobnglgnoflbnaa
