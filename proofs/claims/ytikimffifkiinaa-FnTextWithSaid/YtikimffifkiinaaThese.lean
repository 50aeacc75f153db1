/- impl.these, appendWithoutDuplicates, placeOf, placesOf. -/
import Derived.Test.YtikimffifkiinaaPtrs
import Derived.BigGuardPart
namespace Go.Proofs.Ytikimffifkiinaa
open Go.RowKit
set_option linter.unusedVariables false
set_option linter.unusedSimpArgs false

theorem take_snoc {l : List Nat} {k : Nat} (h : k < l.length) : l.take (k + 1) = l.take k ++ [l.getD k 0] := by
  rw [List.take_add_one, List.getD_eq_getElem?_getD, List.getElem?_eq_getElem h]
  rfl

def ThesePost (l : List Nat) (w : World) (e : Ending) (w' : World) : Prop := ∃ v, e = .returned (.tuple #[v, .bool true]) ∧ Hid (OwnPtrs w' w.heap.size v l) ∧ Hid (Below w.heap.size w w')

set_option maxRecDepth 100000 in
set_option maxHeartbeats 1000000 in
theorem these_any (bl len lcap : Nat) (nb : Nat → Nat) (v : Value) (l : List Nat) (w : World) (hrow : ∀ i, i < len → w.cell? ⟨bl, i, none⟩ = some (.pointer (some ⟨nb i, 0, none⟩))) (hlen : len ≤ 200) (h : ReadsAs w v (l.map intV)) (hin : ∀ i ∈ l, i < len) (hn : l.length ≤ 200) :
    Calls Try.prog 50 #[.slice (some ⟨bl, 0, none⟩) len lcap, v] w (ThesePost (l.map nb) w) := by
  obtain ⟨a, cap, rfl, hm⟩ := h.nil
  have hl : (l.map intV).length = l.length := by simp
  rw [hl] at hm h ⊢
  have hcell : ∃ b off, (0 < l.length → a = some ⟨b, off, none⟩) ∧ ∀ i, i < l.length → w.cell? ⟨b, off + i, none⟩ = some (.int .i64 ((l.getD i 0 : Nat) : Int)) := by
    by_cases h0 : 0 < l.length
    · obtain ⟨b, off, cap', he, _, hc⟩ := h.at (by simpa using h0)
      simp at he
      exact ⟨b, off, fun _ => he.1, int_cells hc⟩
    · exact ⟨0, 0, fun h => absurd h h0, fun i hi => by omega⟩
  obtain ⟨b, off, ha, hc⟩ := hcell
  have HA := Lib.hid ha
  have HC := Lib.hid hc
  have HR := Lib.hid hrow
  have HIN := Lib.hid hin
  clear h hl ha hc hrow hin
  obtain ⟨i0, hi, hz0, hz1, hz2⟩ := info_parts Try.infoPtr
  go_enter Try.func50, Try.ntmps50
  go_wp2
  go_loopw [6, 11] (fun x i wr => ∃ (k : Nat) (done : List Nat), i = .int .i64 k ∧ k ≤ l.length ∧ done.length = k ∧ (l.take k).map nb = done ∧ OwnPtrs wr w.heap.size x done ∧ Below w.heap.size w wr)
    (fun _ i _ => l.length - (intOf i).toNat)
  case atStart => exact ⟨0, [], by go_num, by omega, rfl, rfl, World.ownsRow_nil _ _ _ _, Below.refl _ _⟩
  case round =>
    obtain ⟨k, done, rfl, hk, hdl, hdone, hown, hbel⟩ := hrel
    have HDONE := Lib.hid hdone
    clear hdone
    have HOWN := Lib.hid hown
    have HBEL := Lib.hid hbel
    clear hown hbel
    by_cases hlt : k < l.length
    · obtain rfl := HA.out (by omega)
      have ck := cell_below HBEL.out (HC.out k hlt)
      have hx := HIN.out _ (getD_mem' (d := 0) hlt)
      have cx := cell_below HBEL.out (HR.out _ hx)
      have htk := take_snoc hlt
      obtain ⟨x, hxx⟩ : ∃ x, l.getD k 0 = x := ⟨_, rfl⟩
      rw [hxx] at ck hx cx htk
      have g1 : decide ((x : Int) < 0) = false := by simp
      have g2 : decide ((len : Int) ≤ (x : Int)) = false := by simp [hx]
      have hxI : (x : Int) < (len : Int) := by omega
      have hown' : wr.ownsRow w.heap.size 53 1 u6 done.length (done.map ptrV) := HOWN.out
      have HTK := Lib.hid htk
      have HXX := Lib.hid hxx
      clear htk hxx
      go_wp2_with (at_builtin; refine wpList_append_own _ rfl _ _ 46 rfl w.heap.size 53 i0 (.pointer none) 1 8 Try.underlying46 hi hz0 hz1 hz2 rfl (by decide) _ _ _ rfl (hown'.alloc _) ⟨wr.heap.size, 0, none⟩ 1 1 [.pointer (some ⟨nb x, 0, none⟩)] rfl rfl ?c1 ?c2 ?c3 ?c4 ?c5 ?_)
      case c2 => rfl
      case c3 => unfold maxLen; omega
      case c4 => omega
      case c5 => have := HBEL.out.size; simp; omega
      intro v' w1 hown2 hgrow _
      have hbel2 : Below w.heap.size w w1 := (HBEL.out.alloc HBEL.out.size _).grown hgrow (by have := HBEL.out.size; simp; omega) (fun q hq => (World.ownsRow.lt hown' q hq).1)
      rw [← hdl] at hown2
      have hsn := ownPtrs_snoc (k := nb x) hown2
      have H1 := Lib.hid (And.intro hsn hbel2)
      clear hown2 hgrow hbel2 hsn hown' ck cx
      go_wp2
      go_roundw
      case rel =>
        exact ⟨k + 1, done ++ [nb x], by go_num, by omega, by simp; omega, by rw [HTK.out, List.map_append, HDONE.out]; rfl, H1.out.1, H1.out.2⟩
      case measure => simp [intOf]; omega
    · obtain rfl : k = l.length := by omega
      have hdone := HDONE.out
      rw [List.take_length] at hdone
      have HO : Hid (OwnPtrs wr w.heap.size u6 (l.map nb)) := by rw [hdone]; exact HOWN
      clear hdone hlt HDONE
      go_wp2
      go_ret2
      exact ⟨_, rfl, HO, HBEL⟩

end Go.Proofs.Ytikimffifkiinaa
