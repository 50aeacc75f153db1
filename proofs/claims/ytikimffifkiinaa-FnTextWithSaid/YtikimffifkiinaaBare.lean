/- spec.space, spec.bare. -/
import Derived.Test.YtikimffifkiinaaBase
import Derived.BigGuardPart
import Derived.Laws.Strings
namespace Go.Proofs.Ytikimffifkiinaa
open Go.RowKit
set_option linter.unusedVariables false
set_option linter.unusedSimpArgs false

/-- White space, as ASCII has it (without the vertical tab). -/
def spaceI (x : Int) : Bool := x == 32 || x == 9 || x == 10 || x == 13 || x == 12
def spaceB (b : UInt8) : Bool := spaceI (b.toNat : Int)

def BoolIs (r : Bool) (w : World) (e : Ending) (w' : World) : Prop := e = .returned (.bool r) ∧ w = w'

set_option maxRecDepth 100000 in
theorem space_any (x : Int) (w : World) : Calls Try.prog 34 #[.int .u8 x] w (BoolIs (spaceI x) w) := by
  unfold spaceI
  cases h1 : (x == 32)
  · cases h2 : (x == 9)
    · cases h3 : (x == 10)
      · cases h4 : (x == 13)
        · cases h5 : (x == 12)
          all_goals
            go_enter Try.func34, Try.ntmps34
            go_wp2
            go_ret
            exact ⟨rfl, rfl⟩
        · go_enter Try.func34, Try.ntmps34
          go_wp2
          go_ret
          exact ⟨rfl, rfl⟩
      · go_enter Try.func34, Try.ntmps34
        go_wp2
        go_ret
        exact ⟨rfl, rfl⟩
    · go_enter Try.func34, Try.ntmps34
      go_wp2
      go_ret
      exact ⟨rfl, rfl⟩
  · go_enter Try.func34, Try.ntmps34
    go_wp2
    go_ret
    exact ⟨rfl, rfl⟩

/-- A text without white space at its ends. -/
def bareL (l : List UInt8) : List UInt8 := ((l.dropWhile spaceB).reverse.dropWhile spaceB).reverse

def strSize : Value → Nat
  | .string s => s.size
  | _ => 0

def BarePost (s : ByteArray) (w : World) (e : Ending) (w' : World) : Prop := ∃ r : ByteArray, e = .returned (.string r) ∧ r.data.toList = bareL s.data.toList ∧ r.size ≤ s.size ∧ w = w'

theorem size_pos {z : ByteArray} (hE : z.toList.isEmpty = false) : 0 < z.size := by
  rcases Nat.eq_zero_or_pos z.size with h | h
  · exfalso
    rw [ByteArray.toList_eq] at hE
    have : z.data.toList.length = 0 := by rw [Array.length_toList]; exact h
    rw [List.eq_nil_of_length_eq_zero this] at hE
    cases hE
  · exact h

theorem nil_of {z : ByteArray} (hE : z.toList.isEmpty = true) : z.data.toList = [] := by
  rw [ByteArray.toList_eq] at hE
  exact List.isEmpty_iff.1 hE

theorem size_list (z : ByteArray) : z.size = z.data.toList.length := by rw [Array.length_toList]; rfl

theorem extract_list (z : ByteArray) (i j : Nat) : (z.extract i j).data.toList = (z.data.toList.drop i).take (j - i) := by
  rw [ByteArray.data_extract, Array.toList_extract, List.extract_eq_take_drop]

/-- The first byte, and the rest. -/
theorem cons_of {z : ByteArray} (h : 0 < z.size) : z.data.toList = z[0] :: (z.extract 1 z.size).data.toList := by
  rw [extract_list]
  have hl := size_list z
  have h1 : z.data.toList = z.data.toList[0]'(by omega) :: z.data.toList.drop 1 := by
    conv => lhs; rw [← List.drop_zero (l := z.data.toList)]
    rw [List.drop_eq_getElem_cons (by omega)]
  rw [List.take_of_length_le (by rw [List.length_drop]; omega)]
  exact h1

theorem snoc_of {z : ByteArray} (h : z.size - 1 < z.size) : z.data.toList = (z.extract 0 (z.size - 1)).data.toList ++ [z[z.size - 1]] := by
  rw [extract_list]
  have hl := size_list z
  have h1 : z.data.toList = z.data.toList.take (z.size - 1 + 1) := by rw [List.take_of_length_le (by omega)]
  conv => lhs; rw [h1, List.take_add_one, List.getElem?_eq_getElem (by omega)]
  rw [List.drop_zero, Nat.sub_zero]
  rfl

theorem extract_size1 (z : ByteArray) : (z.extract 1 z.size).size = z.size - 1 := by
  rw [size_list, extract_list, List.length_take, List.length_drop, ← size_list]
  omega

theorem extract_size0 (z : ByteArray) : (z.extract 0 (z.size - 1)).size = z.size - 1 := by
  rw [size_list, extract_list, List.length_take, List.length_drop, ← size_list]
  omega

theorem drop_exit {z s : ByteArray} (H : z.data.toList.dropWhile spaceB = s.data.toList.dropWhile spaceB) (h : z.toList.isEmpty = true ∨ ∃ hp : 0 < z.size, spaceB z[0] = false) : z.data.toList = s.data.toList.dropWhile spaceB := by
  rw [← H]
  rcases h with h | ⟨hp, h⟩
  · rw [nil_of h]; rfl
  · rw [cons_of hp, List.dropWhile_cons, h]; rfl

theorem bare_end {y z s : ByteArray} (H1 : z.data.toList = s.data.toList.dropWhile spaceB) (H2 : y.data.toList.reverse.dropWhile spaceB = z.data.toList.reverse.dropWhile spaceB) (h : y.toList.isEmpty = true ∨ ∃ hp : y.size - 1 < y.size, spaceB (y[y.size - 1]) = false) : y.data.toList = bareL s.data.toList := by
  unfold bareL
  rw [← H1, ← H2]
  rcases h with h | ⟨hp, h⟩
  · rw [nil_of h]; rfl
  · rw [snoc_of hp, List.reverse_append, List.reverse_singleton, List.singleton_append, List.dropWhile_cons, h]
    simp

set_option maxRecDepth 100000 in
set_option maxHeartbeats 1000000 in
theorem bare_any (s : ByteArray) (w : World) (hs : s.size ≤ 4611686018427387904) :
    Calls Try.prog 17 #[.string s] w (BarePost s w) := by
  go_enter Try.func17, Try.ntmps17
  go_wp2
  go_loopw [0] (fun v wr => ∃ z : ByteArray, v = .string z ∧ z.size ≤ s.size ∧ Hid (z.data.toList.dropWhile spaceB = s.data.toList.dropWhile spaceB) ∧ w = wr) (fun v _ => strSize v)
  case atStart => exact ⟨s, rfl, Nat.le_refl _, Lib.hid rfl, rfl⟩
  case round =>
    obtain ⟨z, rfl, hz, HZ, rfl⟩ := hrel
    cases hE : z.toList.isEmpty
    · have hpos := size_pos hE
      go_wp2_with fail
      refine (space_any _ w).mono ?_
      rintro e w2 ⟨rfl, rfl⟩
      have hsp : spaceI (z[0].toNat : Int) = spaceB z[0] := rfl
      cases hb : spaceI (z[0].toNat : Int)
      · have HEX := Lib.hid (drop_exit HZ.out (.inr ⟨hpos, hb⟩))
        clear hsp hb hE
        go_wp2
        go_loopw [0] (fun v wr => ∃ y : ByteArray, v = .string y ∧ y.size ≤ z.size ∧ Hid (y.data.toList.reverse.dropWhile spaceB = z.data.toList.reverse.dropWhile spaceB) ∧ w = wr) (fun v _ => strSize v)
        case atStart => exact ⟨z, rfl, Nat.le_refl _, Lib.hid rfl, rfl⟩
        case round =>
          obtain ⟨y, rfl, hy, HY, rfl⟩ := hrel
          cases hE2 : y.toList.isEmpty
          · have hpos2 := size_pos hE2
            have hidx : y.size - 1 < y.size := by omega
            have hlastI : (0 : Int) ≤ (y.size : Int) - 1 := by omega
            have h1I : (1 : Int) ≤ (y.size : Int) := by omega
            have hlastI2 : (y.size : Int) - 1 < (y.size : Int) := by omega
            go_wp2_with fail
            refine (space_any _ w).mono ?_
            rintro e w2 ⟨rfl, rfl⟩
            have hsp2 : spaceI (y[y.size - 1].toNat : Int) = spaceB y[y.size - 1] := rfl
            cases hb2 : spaceI (y[y.size - 1].toNat : Int)
            · have HEND := Lib.hid (bare_end HEX.out HY.out (.inr ⟨hidx, hb2⟩))
              clear hsp2 hb2 hE2
              go_wp2
              go_ret
              exact ⟨y, rfl, HEND.out, by omega, rfl⟩
            · have HCO2 := Lib.hid (snoc_of hidx)
              have HSP2 := Lib.hid (hsp2.symm.trans hb2)
              have HSZ2 := Lib.hid (extract_size0 y)
              clear hsp2 hb2 hE2
              go_wp2
              refine ⟨?rel, ?measure⟩
              case rel =>
                refine ⟨_, rfl, by rw [HSZ2.out]; omega, Lib.hid ?_, by first | rfl | trivial⟩
                rw [← HY.out, HCO2.out, List.reverse_append, List.reverse_singleton, List.singleton_append, List.dropWhile_cons, HSP2.out]
                rfl
              case measure => simp only [strSize]; rw [HSZ2.out]; omega
          · go_wp2
            go_ret
            exact ⟨y, rfl, bare_end HEX.out HY.out (.inl hE2), by omega, rfl⟩
      · have hcons := cons_of hpos
        have HCO := Lib.hid hcons
        have HSP := Lib.hid (hsp.symm.trans hb)
        clear hcons hsp hb
        have HSZ := Lib.hid (extract_size1 z)
        clear hE
        go_wp2
        refine ⟨?rel, ?measure⟩
        case rel =>
          refine ⟨_, rfl, by rw [HSZ.out]; omega, Lib.hid ?_, by first | rfl | trivial⟩
          rw [← HZ.out, HCO.out, List.dropWhile_cons, HSP.out]
          rfl
        case measure => simp only [strSize]; rw [HSZ.out]; omega
    · have HEX := Lib.hid (drop_exit HZ.out (.inl hE))
      go_wp2
      go_loopw [0] (fun v wr => ∃ y : ByteArray, v = .string y ∧ y.size ≤ z.size ∧ Hid (y.data.toList.reverse.dropWhile spaceB = z.data.toList.reverse.dropWhile spaceB) ∧ w = wr) (fun v _ => strSize v)
      case atStart => exact ⟨z, rfl, Nat.le_refl _, Lib.hid rfl, rfl⟩
      case round =>
        obtain ⟨y, rfl, hy, HY, rfl⟩ := hrel
        cases hE2 : y.toList.isEmpty
        · have hpos2 := size_pos hE2
          have hidx : y.size - 1 < y.size := by omega
          have hlastI : (0 : Int) ≤ (y.size : Int) - 1 := by omega
          have h1I : (1 : Int) ≤ (y.size : Int) := by omega
          have hlastI2 : (y.size : Int) - 1 < (y.size : Int) := by omega
          go_wp2_with fail
          refine (space_any _ w).mono ?_
          rintro e w2 ⟨rfl, rfl⟩
          have hsp2 : spaceI (y[y.size - 1].toNat : Int) = spaceB y[y.size - 1] := rfl
          cases hb2 : spaceI (y[y.size - 1].toNat : Int)
          · have HEND := Lib.hid (bare_end HEX.out HY.out (.inr ⟨hidx, hb2⟩))
            clear hsp2 hb2 hE2
            go_wp2
            go_ret
            exact ⟨y, rfl, HEND.out, by omega, rfl⟩
          · have HCO2 := Lib.hid (snoc_of hidx)
            have HSP2 := Lib.hid (hsp2.symm.trans hb2)
            have HSZ2 := Lib.hid (extract_size0 y)
            clear hsp2 hb2 hE2
            go_wp2
            refine ⟨?rel, ?measure⟩
            case rel =>
              refine ⟨_, rfl, by rw [HSZ2.out]; omega, Lib.hid ?_, by first | rfl | trivial⟩
              rw [← HY.out, HCO2.out, List.reverse_append, List.reverse_singleton, List.singleton_append, List.dropWhile_cons, HSP2.out]
              rfl
            case measure => simp only [strSize]; rw [HSZ2.out]; omega
        · go_wp2
          go_ret
          exact ⟨y, rfl, bare_end HEX.out HY.out (.inl hE2), by omega, rfl⟩

end Go.Proofs.Ytikimffifkiinaa
