/- appendWithoutDuplicates, from nothing, of nodes that stand once. -/
import Derived.Test.YtikimffifkiinaaThese
namespace Go.Proofs.Ytikimffifkiinaa
open Go.RowKit
set_option linter.unusedVariables false
set_option linter.unusedSimpArgs false

/-- Each stands once. -/
def Once (l : List Nat) : Prop := ∀ i j, i < l.length → j < l.length → l.getD i 0 = l.getD j 0 → i = j

theorem Once.notin {l : List Nat} (h : Once l) {k : Nat} (hk : k < l.length) : l.getD k 0 ∉ l.take k := by
  intro hm
  obtain ⟨i, hi, he⟩ := List.getElem_of_mem hm
  simp at hi
  have h2 : l.getD i 0 = l.getD k 0 := by
    rw [← he, List.getElem_take]
    rw [List.getD_eq_getElem?_getD, List.getElem?_eq_getElem (by omega)]
    rfl
  have := h i k (by omega) hk h2
  omega

/-- A slice as a walk wants it: its parts, its cells. -/
theorem ptrs_open {w : World} {v : Value} {l : List Nat} (h : PtrsOf w v l) : ∃ a cap b off, v = .slice a l.length cap ∧ l.length ≤ 9223372036854775807 ∧ (0 < l.length → a = some ⟨b, off, none⟩) ∧ ∀ i, i < l.length → w.cell? ⟨b, off + i, none⟩ = some (.pointer (some ⟨l.getD i 0, 0, none⟩)) := by
  obtain ⟨a, cap, rfl, hm⟩ := h.nil
  have hl : (l.map ptrV).length = l.length := by simp
  rw [hl] at hm h ⊢
  by_cases h0 : 0 < l.length
  · obtain ⟨b, off, cap', he, _, hc⟩ := h.at (by simpa using h0)
    simp at he
    exact ⟨a, cap, b, off, rfl, hm, fun _ => he.1, ptr_cells hc⟩
  · exact ⟨a, cap, 0, 0, rfl, hm, fun h => absurd h h0, fun i hi => by omega⟩

def BoolPost (b : Bool) (w : World) (e : Ending) (w' : World) : Prop := e = .returned (.bool b) ∧ w = w'

theorem isIn_no (v : Value) (l : List Nat) (p : Nat) (w : World) (h : PtrsOf w v l) (hal : ∀ i, i < l.length → Alive w (l.getD i 0)) (hp : Alive w p) (hn : p ∉ l) :
    Calls Try.prog 69 #[v, .pointer (some ⟨p, 0, none⟩)] w (BoolPost false w) := by
  have hi := index_any v l p w h hal hp
  rw [findI_none hn] at hi
  have HI := Lib.hid hi
  clear h hal hp hn hi
  go_enter Try.func69, Try.ntmps69
  go_wp2_with fail
  refine HI.out.mono ?_
  rintro e w1 ⟨rfl, rfl⟩
  go_wp2
  go_ret
  exact ⟨rfl, rfl⟩

theorem map_nil_eql (w : World) : (binOp .eql 116 (.map none) (.map none)).run Try.prog w = .ok (.bool true) w := by
  have h : ∀ d : Nat, (Op.equalIn (d + 1) 116 (.map none) (.map none)).run Try.prog w = .ok true w := fun d => by
    simp [Op.equalIn, run_underlying Try.underlying116]
  simp only [binOp]
  simp [Op.equal, Op.maxDepth, h 9999]

def OwnPtrsPost (l : List Nat) (w : World) (e : Ending) (w' : World) : Prop := ∃ v, e = .returned v ∧ Hid (OwnPtrs w' w.heap.size v l) ∧ Hid (Below w.heap.size w w')

set_option maxRecDepth 100000 in
set_option maxHeartbeats 1000000 in
theorem noDup_any (v : Value) (l : List Nat) (w : World) (h : PtrsOf w v l) (hal : ∀ i, i < l.length → Alive w (l.getD i 0)) (hon : Once l) (hn : l.length ≤ 200) :
    Calls Try.prog 65 #[.slice none 0 0, v, .map none] w (OwnPtrsPost l w) := by
  obtain ⟨a, cap, b, off, rfl, hm, ha, hc⟩ := ptrs_open h
  have HA := Lib.hid ha
  have HC := Lib.hid hc
  have HAL := Lib.hid hal
  have HON := Lib.hid hon
  clear h ha hc hal hon
  have g0 : decide ((l.length : Int) < 1000) = true := by simp; omega
  have g00 : decide ((0 : Int) + (l.length : Int) < 1000) = true := by simp; omega
  have hmap := map_nil_eql w
  obtain ⟨i0, hi, hz0, hz1, hz2⟩ := info_parts Try.infoPtr
  go_enter Try.func65, Try.ntmps65
  go_wp2
  go_loopw [0, 25] (fun x i wr => ∃ (k : Nat) (done : List Nat), i = .int .i64 k ∧ k ≤ l.length ∧ done.length = k ∧ l.take k = done ∧ OwnPtrs wr w.heap.size x done ∧ Below w.heap.size w wr)
    (fun _ i _ => l.length - (intOf i).toNat)
  case atStart => exact ⟨0, [], by go_num, by omega, rfl, rfl, World.ownsRow_nil _ _ _ _, Below.refl _ _⟩
  case round =>
    obtain ⟨k, done, rfl, hk, hdl, hdone, hown, hbel⟩ := hrel
    have HDONE := Lib.hid hdone
    have HOWN := Lib.hid hown
    have HBEL := Lib.hid hbel
    clear hdone hown hbel
    by_cases hlt : k < l.length
    · obtain rfl := HA.out (by omega)
      have ck := cell_below HBEL.out (HC.out k hlt)
      have hni := HON.out.notin hlt
      have hidx := fun hq => isIn_no u0 done (l.getD k 0) wr HOWN.out.ptrs (fun i hi => by
        have hd := HDONE.out
        have hg : done.getD i 0 = l.getD i 0 := by
          rw [← hd, List.getD_eq_getElem?_getD, List.getD_eq_getElem?_getD, List.getElem?_take_of_lt (by omega)]
        rw [hg]
        exact (HAL.out i (by omega)).below HBEL.out) ((HAL.out k hlt).below HBEL.out) hq
      rw [HDONE.out] at hni
      have hidx := hidx hni
      have htk := take_snoc hlt
      obtain ⟨x, hxx⟩ : ∃ x, l.getD k 0 = x := ⟨_, rfl⟩
      rw [hxx] at ck htk hidx
      have hown' : wr.ownsRow w.heap.size 53 1 u0 done.length (done.map ptrV) := HOWN.out
      have HTK := Lib.hid htk
      have HIDX := Lib.hid hidx
      clear htk hxx hidx hni
      go_wp2_with fail
      refine HIDX.out.mono ?_
      rintro e w1 ⟨rfl, rfl⟩
      go_wp2_with (at_builtin; refine wpList_append_own _ rfl _ _ 46 rfl w.heap.size 53 i0 (.pointer none) 1 8 Try.underlying46 hi hz0 hz1 hz2 rfl (by decide) _ _ _ rfl (hown'.alloc _) ⟨wr.heap.size, 0, none⟩ 1 1 [.pointer (some ⟨x, 0, none⟩)] rfl rfl ?c1 ?c2 ?c3 ?c4 ?c5 ?_)
      case c1 =>
        intro j u hj
        match j, hj with
        | 0, hj => simp at hj; subst hj; simp [Addr.add]
      case c2 => intro u hu; simp at hu; subst hu; rfl
      case c3 => unfold maxLen; omega
      case c4 => omega
      case c5 => have := HBEL.out.size; simp; omega
      intro v' w1 hown2 hgrow _
      have hbel2 : Below w.heap.size w w1 := (HBEL.out.alloc HBEL.out.size _).grown hgrow (by have := HBEL.out.size; simp; omega) (fun q hq => (World.ownsRow.lt hown' q hq).1)
      rw [← hdl] at hown2
      have hsn := ownPtrs_snoc (k := x) hown2
      have H1 := Lib.hid (And.intro hsn hbel2)
      clear hown2 hgrow hbel2 hsn hown' ck HIDX
      go_wp2
      go_roundw
      case rel =>
        exact ⟨k + 1, done ++ [x], by go_num, by omega, by simp; omega, by rw [HTK.out, HDONE.out], H1.out.1, H1.out.2⟩
      case measure => simp [intOf]; omega
    · obtain rfl : k = l.length := by omega
      have hdone := HDONE.out
      rw [List.take_length] at hdone
      have HO : Hid (OwnPtrs wr w.heap.size u0 l) := by rw [hdone]; exact HOWN
      clear hdone hlt HDONE
      go_wp2
      go_ret
      exact ⟨_, rfl, HO, HBEL⟩

end Go.Proofs.Ytikimffifkiinaa
