/- spec.Picks, spec.Matches at one selector of an id. -/
import Derived.Test.YtobnglgnoflbnaaSimpleId
import Derived.LoopN
namespace Go.Proofs.Ytobnglgnoflbnaa
open Go.RowKit
set_option linter.unusedVariables false
set_option linter.unusedSimpArgs false

/-- One selector in memory. -/
def SelCells (w : World) (sb : Nat) (id : ByteArray) : Prop := ∀ i u, (idSel id)[i]? = some u → w.cell? ⟨sb, i, none⟩ = some u

theorem SelCells.below {w w' : World} {sb : Nat} {id : ByteArray} (h : SelCells w sb id) (hb : Below w.heap.size w w') : SelCells w' sb id := fun i u hu => cell_below hb (h i u hu)

def NilPost (w : World) (e : Ending) (w' : World) : Prop := e = .returned (.slice none 0 0) ∧ w = w'

set_option maxRecDepth 100000 in
set_option maxHeartbeats 1000000 in
theorem picksId_any (sb : Nat) (id : ByteArray) (w : World) (h : SelCells w sb id) :
    Calls Try.prog 83 #[.slice (some ⟨sb, 0, none⟩) 1 1, .int .i64 0] w (NilPost w) := by
  have k7 : w.cell? ⟨sb, 7, none⟩ = some (.int .i64 1) := h 7 _ rfl
  clear h
  go_enter Try.func83, Try.ntmps83
  go_wp2
  refine wp_loop_rounds 1 ?_
  rw [rounds_succ]
  go_wp2
  go_ret
  exact ⟨rfl, rfl⟩

set_option maxRecDepth 100000 in
set_option maxHeartbeats 2000000 in
theorem matchesId_any (a : Option Addr) (len cap : Nat) (ts : List NodeD) (hR : RightT ts len) (w : World) (hN : Nodes w a len ts) (x : Nat) (hx : x < len) (hk : kd ts x = 3) (id : ByteArray) (sb : Nat) (hs : SelCells w sb id) :
    Calls Try.prog 47 #[.slice a len cap, .int .i64 (x : Int), .slice (some ⟨sb, 0, none⟩) 1 1, .int .i64 0] w (TruthPostB (hasKV (ts.getD x default).attrs ⟨#[105, 100]⟩ id (ts.getD x default).attrs.length) w) := by
  have hsim := simpleId_any a len cap ts hR w hN x hx hk id
  obtain ⟨b, off, rfl, hc⟩ := hN.at (by omega)
  have c0 := (hc x hx).kind
  have hkk : (ts.getD x default).kind = 3 := hk
  rw [hkk] at c0
  have hxI : (x : Int) < (len : Int) := by omega
  have hpk := picksId_any sb id w hs
  obtain ⟨q, hq⟩ : ∃ q, hasKV (ts.getD x default).attrs ⟨#[105, 100]⟩ id (ts.getD x default).attrs.length = q := ⟨_, rfl⟩
  rw [hq] at hsim ⊢
  unfold idSel at hsim
  have k0 : w.cell? ⟨sb, 0, none⟩ = some (.int .i64 4) := hs 0 _ rfl
  have k1 : w.cell? ⟨sb, 1, none⟩ = some (.int .i64 0) := hs 1 _ rfl
  have k2 : w.cell? ⟨sb, 2, none⟩ = some (.string ByteArray.empty) := hs 2 _ rfl
  have k3 : w.cell? ⟨sb, 3, none⟩ = some (.string id) := hs 3 _ rfl
  have k4 : w.cell? ⟨sb, 4, none⟩ = some (.int .i64 0) := hs 4 _ rfl
  have k5 : w.cell? ⟨sb, 5, none⟩ = some (.int .i64 0) := hs 5 _ rfl
  have k6 : w.cell? ⟨sb, 6, none⟩ = some (.int .i64 0) := hs 6 _ rfl
  have k7 : w.cell? ⟨sb, 7, none⟩ = some (.int .i64 1) := hs 7 _ rfl
  have HS := Lib.hid hsim
  have HPK := Lib.hid hpk
  clear hsim hc hkk hpk hq hs hN hR hk
  go_enter Try.func47, Try.ntmps47
  go_wp2_with fail
  refine HPK.out.mono ?_
  rintro e w1 ⟨rfl, rfl⟩
  clear HPK
  go_wp2_with fail
  refine HS.out.mono ?_
  rintro e w2 ⟨rfl, hb⟩
  clear HS
  go_wp2
  go_ret
  exact ⟨rfl, hb⟩

end Go.Proofs.Ytobnglgnoflbnaa
