/- goquery.Text$1: the parts of a text, collected. -/
import Derived.Test.YtikimffifkiinaaKeep
import Derived.Test.YtikimffifkiinaaTrim
import Derived.Test.YtikimffifkiinaaCells
import Derived.Test.YtikimffifkiinaaImplRight
import Derived.Deep.LoopGhost
import Derived.Laws.EntriesVeiled
namespace Go.Proofs.Ytikimffifkiinaa
open Go.RowKit
set_option linter.unusedVariables false
set_option linter.unusedSimpArgs false

/-- Whether a text node counts, by its parent's name. -/
def wanted (ts : List NodeD) (name : Option ByteArray) (i : Nat) : Bool := match name with | none => true | some nm => kept ts nm i
/-- What a node adds. -/
def part (ts : List NodeD) (trim : Bool) (name : Option ByteArray) (i : Nat) : List ByteArray :=
  if (ts.getD i default).kind = 4 ∧ wanted ts name i = true then
    (if trim then (if bareL (ts.getD i default).text.data.toList = [] then [] else [⟨(bareL (ts.getD i default).text.data.toList).toArray⟩]) else [(ts.getD i default).text])
  else []
/-- What the nodes from a place on add. -/
def parts (ts : List NodeD) (trim : Bool) (name : Option ByteArray) (a : Nat) : Nat → List ByteArray
  | 0 => []
  | k + 1 => parts ts trim name a k ++ part ts trim name (a + k)

theorem parts_add (ts : List NodeD) (trim : Bool) (name : Option ByteArray) (a m : Nat) : ∀ n, parts ts trim name a (m + n) = parts ts trim name a m ++ parts ts trim name (a + m) n
  | 0 => by simp [parts]
  | n + 1 => by
    have := parts_add ts trim name a m n
    rw [show m + (n + 1) = (m + n) + 1 by omega]
    simp only [parts]
    rw [this, List.append_assoc, Nat.add_assoc]

theorem parts_length (ts : List NodeD) (trim : Bool) (name : Option ByteArray) (a : Nat) : ∀ k, (parts ts trim name a k).length ≤ k
  | 0 => Nat.zero_le _
  | k + 1 => by
    have h1 := parts_length ts trim name a k
    have h2 : (part ts trim name (a + k)).length ≤ 1 := by
      unfold part
      split
      · split
        · split <;> simp
        · simp
      · simp
    rw [parts, List.length_append]
    omega

def keepV (name : Option ByteArray) (gb : Nat) : Value := match name with | none => .nilFunc | some _ => .func (.func 22) #[] #[.pointer (some ⟨gb, 0, none⟩)]

/-- The closure's state: the options' box at m, the parts at m + 1, the closure itself at m + 2. -/
structure CloAt (w : World) (m ob : Nat) (ps : List ByteArray) : Prop where
  box : w.cell? ⟨m, 0, none⟩ = some (.pointer (some ⟨ob, 0, none⟩))
  fn : w.cell? ⟨m + 2, 0, none⟩ = some (.func (.func 38) #[] #[.pointer (some ⟨m, 0, none⟩), .pointer (some ⟨m + 1, 0, none⟩), .pointer (some ⟨m + 2, 0, none⟩)])
  row : ∃ v, World.objAt w (m + 1) #[v] 72 ∧ w.ownsRow (m + 3) 9 1 v ps.length (ps.map .string)

/-- The options. -/
structure OptsAt (w : World) (ob gb : Nat) (sep : ByteArray) (trim : Bool) (name : Option ByteArray) : Prop where
  sep : w.cell? ⟨ob, 0, none⟩ = some (.string sep)
  trim : w.cell? ⟨ob, 1, none⟩ = some (.bool trim)
  keep : w.cell? ⟨ob, 2, none⟩ = some (keepV name gb)
  name : ∀ nm, name = some nm → w.cell? ⟨gb, 0, none⟩ = some (.string nm)

def CloPost (m ob : Nat) (ps : List ByteArray) (w : World) (e : Ending) (w' : World) : Prop := e = .returned (.tuple #[]) ∧ CloAt w' m ob ps ∧ Below m w w'

theorem Try.infoStr : (Try.prog.info? 9).map (fun i => (i.zero, i.size, i.bytes)) = some (some (.string ByteArray.empty), 1, 16) := by kernel_rfl

theorem rowSlice {w : World} {B : Nat} {e : TypeId} {size : Nat} {v : Value} {n : Nat} {xs : List Value} (h : w.ownsRow B e size v n xs) : ∃ a c, v = .slice a n c := by
  rcases h.2 with ⟨rfl, rfl⟩ | ⟨g, cap, cur, rfl, _⟩
  · exact ⟨_, _, rfl⟩
  · exact ⟨_, _, rfl⟩

theorem clo_step {w w1 : World} {m ob : Nat} {ps : List ByteArray} {t : ByteArray} {va : Option Addr} {vc : Nat} {v' : Value} (hm : m + 3 ≤ w.heap.size) (hc : CloAt w m ob ps) (hobj : World.objAt w (m + 1) #[.slice va ps.length vc] 72)
    (hown : w.ownsRow (m + 3) 9 1 (.slice va ps.length vc) ps.length (ps.map .string)) (hgrow : (w.alloc (.cells #[.string t] 9)).grownBy w1 (Value.slice va ps.length vc).ownBlock)
    (hown2 : w1.ownsRow (m + 3) 9 1 v' (ps.length + 1) (ps.map .string ++ [.string t])) :
    World.objAt w1 (m + 1) #[.slice va ps.length vc] 72 ∧ CloAt (w1.setCell ⟨m + 1, 0, none⟩ v') m ob (ps ++ [t]) ∧ Below m w (w1.setCell ⟨m + 1, 0, none⟩ v') := by
  have hb0 : Below (m + 3) w (w.alloc (.cells #[.string t] 9)) := ((Below.refl _ _).alloc (Nat.le_refl _) _).mono hm
  have hb1 : Below (m + 3) w w1 := hb0.grown hgrow (Nat.le_trans hm hb0.size) (fun q hq => (World.ownsRow.lt hown q hq).1)
  have hobj1 := hobj.below hb1 (by omega)
  have hset := hobj1.set 0 v'
  refine ⟨hobj1, ⟨?_, ?_, v', hset, ?_⟩, (hb1.mono (by omega)).setCell (by simp) _⟩
  · rw [World.cell?_setCell_other _ _ _ _ (by intro h; cases h <;> omega)]
    exact (hb1.cell (p := ⟨m, 0, none⟩) (by simp)).trans hc.box
  · rw [World.cell?_setCell_other _ _ _ _ (by intro h; cases h <;> omega)]
    exact (hb1.cell (p := ⟨m + 2, 0, none⟩) (by simp)).trans hc.fn
  · have := ownsRow_setCell_below hown2 (a := ⟨m + 1, 0, none⟩) (by simp) v'
    simpa using this

theorem neqNilNil (w : World) : (binOp .neq 50 .nilFunc .nilFunc).run Try.prog w = .ok (.bool false) w := by kernel_rfl
theorem neqFuncNil (f : Fn) (a c : Array Value) (w : World) : (binOp .neq 50 (.func f a c) .nilFunc).run Try.prog w = .ok (.bool true) w := by kernel_rfl

set_option maxRecDepth 100000 in
set_option maxHeartbeats 4000000 in
/-- A text node that counts as it is. -/
theorem leafAll_any (m ob gb xb : Nat) (sep t : ByteArray) (ps : List ByteArray) (w : World) (hm : m + 3 ≤ w.heap.size) (hc : CloAt w m ob ps) (ho : OptsAt w ob gb sep false none) (c5 : w.cell? ⟨xb, 5, none⟩ = some (.int .u32 1)) (c7 : w.cell? ⟨xb, 7, none⟩ = some (.string t)) (hn : ps.length ≤ 100000) :
    Calls Try.prog 38 #[.pointer (some ⟨xb, 0, none⟩), .pointer (some ⟨m, 0, none⟩), .pointer (some ⟨m + 1, 0, none⟩), .pointer (some ⟨m + 2, 0, none⟩)] w (CloPost m ob (ps ++ [t]) w) := by
  obtain ⟨i0, hi, hz0, hz1, hz2⟩ := info_parts Try.infoStr
  have d1 := hc.box
  obtain ⟨v, hobj, hown⟩ := hc.row
  have d2 := hobj.cell (i := 0) (v := v) rfl
  have d3 := hobj.free 0
  have o1 := ho.trim
  have o2 := ho.keep
  simp only [keepV] at o2
  have hq := neqNilNil w
  obtain ⟨va, vc, rfl⟩ := rowSlice hown
  have HC := Lib.hid hc
  have HOBJ := Lib.hid hobj
  have HOWN := Lib.hid hown
  clear hc hobj hown ho
  go_enter Try.func38, Try.ntmps38
  have hown' := HOWN.out
  go_wp2_with (at_builtin; refine wpList_append_own _ rfl _ _ 72 rfl (m + 3) 9 i0 (.string ByteArray.empty) 1 16 Try.underlying72 hi hz0 hz1 hz2 rfl (by decide) _ _ _ rfl (hown'.alloc _) ⟨w.heap.size, 0, none⟩ 1 1 [.string t] rfl rfl ?c1 ?c2 ?c3 ?c4 ?c5 ?_)
  case c1 =>
    intro j u hj
    match j, hj with
    | 0, hj => simp at hj; subst hj; simp [Addr.add]
  case c2 => intro u hu; simp at hu; subst hu; rfl
  case c3 => unfold maxLen; omega
  case c4 => omega
  case c5 => first | omega | (simp; omega)
  intro v' w1 hown2 hgrow _
  obtain ⟨va', vc', rfl⟩ := rowSlice hown2
  have hst := clo_step hm HC.out HOBJ.out HOWN.out hgrow hown2
  have s2 := hst.1.cell (i := 0) (v := .slice va ps.length vc) rfl
  have s3 := hst.1.free 0
  have HST := Lib.hid hst.2
  clear hst hgrow hown2 hown' d2 d3 hq
  go_wp2
  go_end0
  exact ⟨rfl, HST.out.1, HST.out.2⟩

theorem ownsRow_low {w w' : World} {B : Nat} {e : TypeId} {size : Nat} {v : Value} {n : Nat} {xs : List Value} (h : w.ownsRow B e size v n xs) (hb : Below w.heap.size w w') : w'.ownsRow B e size v n xs := by
  have hl := World.ownsRow.lt h
  obtain ⟨h1, h2⟩ := h
  refine ⟨h1, ?_⟩
  rcases h2 with h2 | ⟨g, cap, cur, hv, hg, hh, r⟩
  · exact Or.inl h2
  · exact Or.inr ⟨g, cap, cur, hv, hg, by rw [hb.block g (hl g (by rw [hv]; rfl)).2]; exact hh, r⟩

theorem CloAt.below {w w' : World} {m ob : Nat} {ps : List ByteArray} (h : CloAt w m ob ps) (hb : Below w.heap.size w w') : CloAt w' m ob ps := by
  obtain ⟨v, h1, h2⟩ := h.row
  exact ⟨cell_below hb h.box, cell_below hb h.fn, v, h1.below hb h1.lt, ownsRow_low h2 hb⟩

end Go.Proofs.Ytikimffifkiinaa
