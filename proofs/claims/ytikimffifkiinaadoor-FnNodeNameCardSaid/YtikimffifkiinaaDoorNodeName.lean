/- goquery.nodeName; the table of the nodes' names. -/
import Derived.Test.YtikimffifkiinaaDoorChosen
import Derived.BigQuiet
namespace Go.Proofs.YtikimffifkiinaaDoor
open Go.RowKit
set_option linter.unusedVariables false
set_option linter.unusedSimpArgs false

def sError : ByteArray := ⟨#[35, 101, 114, 114, 111, 114]⟩
def sText : ByteArray := ⟨#[35, 116, 101, 120, 116]⟩
def sDocument : ByteArray := ⟨#[35, 100, 111, 99, 117, 109, 101, 110, 116]⟩
def sComment : ByteArray := ⟨#[35, 99, 111, 109, 109, 101, 110, 116]⟩

/-- The table of the names in memory. -/
structure TabAt (w : World) (tb off cap : Nat) : Prop where
  head : w.cell? ⟨0, 0, none⟩ = some (.slice (some ⟨tb, off, none⟩) 5 cap)
  c1 : w.cell? ⟨tb, off + 1, none⟩ = some (.string sText)
  c2 : w.cell? ⟨tb, off + 2, none⟩ = some (.string sDocument)
  c4 : w.cell? ⟨tb, off + 4, none⟩ = some (.string sComment)

theorem TabAt.below {w w' : World} {tb off cap : Nat} (h : TabAt w tb off cap) (hb : Below w.heap.size w w') : TabAt w' tb off cap :=
  ⟨cell_below hb h.head, cell_below hb h.c1, cell_below hb h.c2, cell_below hb h.c4⟩

/-- What a node is called. -/
def nameOf (n : NodeD) : ByteArray := if n.kind = 1 then sDocument else if n.kind = 4 then sText else if n.kind = 5 then sComment else dataOf n

def NamedPost (z : ByteArray) (w : World) (e : Ending) (w' : World) : Prop := e = .returned (.string z) ∧ ∃ d, w' = w.drewN d

set_option maxRecDepth 100000 in
set_option maxHeartbeats 2000000 in
theorem nodeName_any (w : World) (b tb off cap : Nat) (r : NRec) (n : NodeD) (hn : World.nodeAt w b r) (hty : r.ty = tyOf n.kind) (hd : r.data = dataOf n) (ht : TabAt w tb off cap)
    (hk : n.kind = 1 ∨ n.kind = 2 ∨ n.kind = 3 ∨ n.kind = 4 ∨ n.kind = 5) :
    Calls Tryd.prog 31 #[.pointer (some ⟨b, 0, none⟩)] w (NamedPost (nameOf n) w) := by
  have k5 := hn.ty
  have k7 := hn.data
  rw [hty] at k5
  rw [hd] at k7
  obtain ⟨z, hz⟩ : ∃ z, dataOf n = z := ⟨_, rfl⟩
  rw [hz] at k7
  have t0 := ht.head
  have t1 := ht.c1
  have t2 := ht.c2
  have t4 := ht.c4
  clear hn hty hd ht
  rcases hk with h | h | h | h | h
  · rw [show nameOf n = sDocument by unfold nameOf; rw [if_pos h]]
    rw [h, show tyOf 1 = 2 from rfl] at k5
    clear h hz
    go_enter Tryd.func31, Tryd.ntmps31
    go_wp2
    go_quiet (fail)
    go_wp2
    go_quiet (fail)
    go_wp2
    go_ret
    exact ⟨rfl, _, by first | rfl | (rw [World.drewN_drewN]) | simp⟩
  · rw [show nameOf n = z by unfold nameOf; rw [if_neg (by omega), if_neg (by omega), if_neg (by omega), hz]]
    rw [h, show tyOf 2 = 5 from rfl] at k5
    clear h hz
    go_enter Tryd.func31, Tryd.ntmps31
    go_wp2
    go_ret
    exact ⟨rfl, 0, rfl⟩
  · rw [show nameOf n = z by unfold nameOf; rw [if_neg (by omega), if_neg (by omega), if_neg (by omega), hz]]
    rw [h, show tyOf 3 = 3 from rfl] at k5
    clear h hz
    go_enter Tryd.func31, Tryd.ntmps31
    go_wp2
    go_ret
    exact ⟨rfl, 0, rfl⟩
  · rw [show nameOf n = sText by unfold nameOf; rw [if_neg (by omega), if_pos h]]
    rw [h, show tyOf 4 = 1 from rfl] at k5
    clear h hz
    go_enter Tryd.func31, Tryd.ntmps31
    go_wp2
    go_quiet (fail)
    go_wp2
    go_quiet (fail)
    go_wp2
    go_ret
    exact ⟨rfl, _, by first | rfl | (rw [World.drewN_drewN]) | simp⟩
  · rw [show nameOf n = sComment by unfold nameOf; rw [if_neg (by omega), if_neg (by omega), if_pos h]]
    rw [h, show tyOf 5 = 4 from rfl] at k5
    clear h hz
    go_enter Tryd.func31, Tryd.ntmps31
    go_wp2
    go_quiet (fail)
    go_wp2
    go_quiet (fail)
    go_wp2
    go_ret
    exact ⟨rfl, _, by first | rfl | (rw [World.drewN_drewN]) | simp⟩

end Go.Proofs.YtikimffifkiinaaDoor
