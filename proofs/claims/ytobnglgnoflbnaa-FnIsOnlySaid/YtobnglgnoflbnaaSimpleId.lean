/- spec.simple, spec.Matches at a selector of an id. -/
import Derived.Test.YtobnglgnoflbnaaSpecAttr
namespace Go.Proofs.Ytobnglgnoflbnaa
open Go.RowKit
set_option linter.unusedVariables false
set_option linter.unusedSimpArgs false

def truthI (b : Bool) : Int := if b then 1 else 0
def TruthPost (b : Bool) (w : World) (e : Ending) (w' : World) : Prop := e = .returned (.int .i64 (truthI b)) ∧ w = w'
def TruthPostB (b : Bool) (w : World) (e : Ending) (w' : World) : Prop := e = .returned (.int .i64 (truthI b)) ∧ Hid (Below w.heap.size w w')

set_option maxRecDepth 100000 in
theorem truth_any (b : Bool) (w : World) : Calls Try.prog 120 #[.bool b] w (TruthPost b w) := by
  cases b
  · go_enter Try.func120, Try.ntmps120
    go_wp2
    go_ret
    exact ⟨rfl, rfl⟩
  · go_enter Try.func120, Try.ntmps120
    go_wp2
    go_ret
    exact ⟨rfl, rfl⟩

/-- The selector of an id, as data: its eight cells. -/
def idSel (id : ByteArray) : Array Value := #[.int .i64 4, .int .i64 0, .string ByteArray.empty, .string id, .int .i64 0, .int .i64 0, .int .i64 0, .int .i64 1]

set_option maxRecDepth 100000 in
set_option maxHeartbeats 2000000 in
theorem simpleId_any (a : Option Addr) (len cap : Nat) (ts : List NodeD) (hR : RightT ts len) (w : World) (hN : Nodes w a len ts) (x : Nat) (hx : x < len) (hk : kd ts x = 3) (id : ByteArray) :
    Calls Try.prog 89 #[.slice a len cap, .int .i64 (x : Int), .agg (idSel id)] w (TruthPostB (hasKV (ts.getD x default).attrs ⟨#[105, 100]⟩ id (ts.getD x default).attrs.length) w) := by
  obtain ⟨b, off, rfl, hc⟩ := hN.at (by omega)
  have c := hc x hx
  have hap := ((hR.node x hx).attrs hk).2
  have hxI : (x : Int) < (len : Int) := by omega
  obtain ⟨n, hn⟩ : ∃ n, ts.getD x default = n := ⟨_, rfl⟩
  rw [hn] at c hap ⊢
  have hb0 : Below w.heap.size w (w.alloc (.cells #[.int .i64 4, .int .i64 0, .string ByteArray.empty, .string id, .int .i64 0, .int .i64 0, .int .i64 0, .int .i64 1] 27)) := (Below.refl _ _).alloc (Nat.le_refl _) _
  have s0 : ∀ i u, (idSel id)[i]? = some u → (w.alloc (.cells #[.int .i64 4, .int .i64 0, .string ByteArray.empty, .string id, .int .i64 0, .int .i64 0, .int .i64 0, .int .i64 1] 27)).cell? ⟨w.heap.size, i, none⟩ = some u := fun i u h => cell_alloc_new' _ _ _ rfl h
  obtain ⟨w0, hw0⟩ : ∃ w0, w.alloc (.cells #[.int .i64 4, .int .i64 0, .string ByteArray.empty, .string id, .int .i64 0, .int .i64 0, .int .i64 0, .int .i64 1] 27) = w0 := ⟨_, rfl⟩
  rw [hw0] at hb0 s0
  have cn := c.below hb0
  have c0 := cn.kind
  have c1 := cn.tag
  have c2 := cn.text
  have c3 := cn.attrs
  have c4 := cn.size
  have k0 : w0.cell? ⟨w.heap.size, 0, none⟩ = some (.int .i64 4) := s0 0 _ rfl
  have k3 : w0.cell? ⟨w.heap.size, 3, none⟩ = some (.string id) := s0 3 _ rfl
  have hattr := fun (o : Obj) => attr_any n.kind n.size n.tag n.text n.aa n.al n.ac n.attrs ⟨#[105, 100]⟩ (w0.alloc o) (cn.at_.below ((Below.refl _ _).alloc (Nat.le_refl _) o)) hap
  have hbo : ∀ o, Below w.heap.size w (w0.alloc o) := fun o => hb0.alloc hb0.size o
  obtain ⟨q, hq⟩ : ∃ q, hasKV n.attrs ⟨#[105, 100]⟩ id n.attrs.length = q := ⟨_, rfl⟩
  rw [hq]
  have HQ := Lib.hid hq
  have HATTR := Lib.hid hattr
  have HBO := Lib.hid hbo
  have HW0 := Lib.hid s0
  have hsz : w.heap.size < w0.heap.size := World.block_lt_of_cell? _ _ k0
  clear hN hc c hR hap hn hattr hbo hq hk cn hb0 s0
  unfold idSel
  go_enter Try.func89, Try.ntmps89
  go_wp2_with fail
  refine (HATTR.out _).mono ?_
  rintro e w1 ⟨s, is, rfl, hs, hb⟩
  have hb1 := fun (o : Obj) (h : Below (w0.alloc o).heap.size (w0.alloc o) w1) => (HBO.out o).trans (h.mono (HBO.out o).size)
  have hfin := Lib.hid (hb1 _ hb.out)
  have k3' : w1.cell? ⟨w.heap.size, 3, none⟩ = some (.string id) := cell_below hb.out (cell_alloc_old k3 _)
  have hr := hs.out id
  rw [HQ.out] at hr
  clear hb1 hb HATTR
  cases is
  · obtain rfl : false = q := by simpa using hr
    clear hr
    go_wp2_with fail
    refine (truth_any _ _).mono ?_
    rintro e w2 ⟨rfl, rfl⟩
    go_wp2
    go_ret
    exact ⟨rfl, hfin⟩
  · have hr2 : (s.toList == id.toList) = q := by simpa using hr
    clear hr
    go_wp2_with fail
    refine (truth_any _ _).mono ?_
    rintro e w2 ⟨rfl, rfl⟩
    go_wp2
    go_ret
    exact ⟨by rw [← hr2]; rfl, hfin⟩

end Go.Proofs.Ytobnglgnoflbnaa
