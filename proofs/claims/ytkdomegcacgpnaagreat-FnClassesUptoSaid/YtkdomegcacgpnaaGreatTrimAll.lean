/- spec.space; texts without the white space at their ends. goquery.zzIsSpace, zzTrimSpace: of ASCII without vertical tabs. -/
import Derived.Test.YtkdomegcacgpnaaGreatBaseAll
import Derived.BigGuardPart
import Derived.Laws.Strings
import Derived.Lib.OthersKept
namespace Go.Proofs.YtkdomegcacgpnaaGreat
open Go.RowKit
set_option linter.unusedVariables false
set_option linter.unusedSimpArgs false

/-- White space, as ASCII has it (without the vertical tab). -/
def spaceI (x : Int) : Bool := x == 32 || x == 9 || x == 10 || x == 13 || x == 12
def spaceB (b : UInt8) : Bool := spaceI (b.toNat : Int)

def BoolIs (r : Bool) (w : World) (e : Ending) (w' : World) : Prop := e = .returned (.bool r) ∧ w = w'

set_option maxRecDepth 100000 in
theorem space_any (x : Int) (w : World) : Calls Tryz.prog 54 #[.int .u8 x] w (BoolIs (spaceI x) w) := by
  unfold spaceI
  cases h1 : (x == 32)
  · cases h2 : (x == 9)
    · cases h3 : (x == 10)
      · cases h4 : (x == 13)
        · cases h5 : (x == 12)
          all_goals
            go_enter Tryz.func54, Tryz.ntmps54
            go_wp2
            go_ret
            exact ⟨rfl, rfl⟩
        · go_enter Tryz.func54, Tryz.ntmps54
          go_wp2
          go_ret
          exact ⟨rfl, rfl⟩
      · go_enter Tryz.func54, Tryz.ntmps54
        go_wp2
        go_ret
        exact ⟨rfl, rfl⟩
    · go_enter Tryz.func54, Tryz.ntmps54
      go_wp2
      go_ret
      exact ⟨rfl, rfl⟩
  · go_enter Tryz.func54, Tryz.ntmps54
    go_wp2
    go_ret
    exact ⟨rfl, rfl⟩

/-- A text without white space at its ends. -/
def bareL (l : List UInt8) : List UInt8 := ((l.dropWhile spaceB).reverse.dropWhile spaceB).reverse

def strSize : Value → Nat
  | .string s => s.size
  | _ => 0

def BarePost (s : ByteArray) (w : World) (e : Ending) (w' : World) : Prop := ∃ r : ByteArray, e = .returned (.string r) ∧ r.data.toList = bareL s.data.toList ∧ r.size ≤ s.size ∧ w = w'

theorem size_pos {z : ByteArray} (hE : z.toList.isEmpty = false) : 0 < z.size := by
  rcases Nat.eq_zero_or_pos z.size with h | h
  · exfalso
    rw [ByteArray.toList_eq] at hE
    have : z.data.toList.length = 0 := by rw [Array.length_toList]; exact h
    rw [List.eq_nil_of_length_eq_zero this] at hE
    cases hE
  · exact h

theorem nil_of {z : ByteArray} (hE : z.toList.isEmpty = true) : z.data.toList = [] := by
  rw [ByteArray.toList_eq] at hE
  exact List.isEmpty_iff.1 hE

theorem size_list (z : ByteArray) : z.size = z.data.toList.length := by rw [Array.length_toList]; rfl

theorem extract_list (z : ByteArray) (i j : Nat) : (z.extract i j).data.toList = (z.data.toList.drop i).take (j - i) := by
  rw [ByteArray.data_extract, Array.toList_extract, List.extract_eq_take_drop]

/-- The first byte, and the rest. -/
theorem cons_of {z : ByteArray} (h : 0 < z.size) : z.data.toList = z[0] :: (z.extract 1 z.size).data.toList := by
  rw [extract_list]
  have hl := size_list z
  have h1 : z.data.toList = z.data.toList[0]'(by omega) :: z.data.toList.drop 1 := by
    conv => lhs; rw [← List.drop_zero (l := z.data.toList)]
    rw [List.drop_eq_getElem_cons (by omega)]
  rw [List.take_of_length_le (by rw [List.length_drop]; omega)]
  exact h1

theorem snoc_of {z : ByteArray} (h : z.size - 1 < z.size) : z.data.toList = (z.extract 0 (z.size - 1)).data.toList ++ [z[z.size - 1]] := by
  rw [extract_list]
  have hl := size_list z
  have h1 : z.data.toList = z.data.toList.take (z.size - 1 + 1) := by rw [List.take_of_length_le (by omega)]
  conv => lhs; rw [h1, List.take_add_one, List.getElem?_eq_getElem (by omega)]
  rw [List.drop_zero, Nat.sub_zero]
  rfl

theorem extract_size1 (z : ByteArray) : (z.extract 1 z.size).size = z.size - 1 := by
  rw [size_list, extract_list, List.length_take, List.length_drop, ← size_list]
  omega

theorem extract_size0 (z : ByteArray) : (z.extract 0 (z.size - 1)).size = z.size - 1 := by
  rw [size_list, extract_list, List.length_take, List.length_drop, ← size_list]
  omega

theorem drop_exit {z s : ByteArray} (H : z.data.toList.dropWhile spaceB = s.data.toList.dropWhile spaceB) (h : z.toList.isEmpty = true ∨ ∃ hp : 0 < z.size, spaceB z[0] = false) : z.data.toList = s.data.toList.dropWhile spaceB := by
  rw [← H]
  rcases h with h | ⟨hp, h⟩
  · rw [nil_of h]; rfl
  · rw [cons_of hp, List.dropWhile_cons, h]; rfl

theorem bare_end {y z s : ByteArray} (H1 : z.data.toList = s.data.toList.dropWhile spaceB) (H2 : y.data.toList.reverse.dropWhile spaceB = z.data.toList.reverse.dropWhile spaceB) (h : y.toList.isEmpty = true ∨ ∃ hp : y.size - 1 < y.size, spaceB (y[y.size - 1]) = false) : y.data.toList = bareL s.data.toList := by
  unfold bareL
  rw [← H1, ← H2]
  rcases h with h | ⟨hp, h⟩
  · rw [nil_of h]; rfl
  · rw [snoc_of hp, List.reverse_append, List.reverse_singleton, List.singleton_append, List.dropWhile_cons, h]
    simp

end Go.Proofs.YtkdomegcacgpnaaGreat

namespace Go.Proofs.YtkdomegcacgpnaaGreat
open Go.RowKit
set_option linter.unusedVariables false
set_option linter.unusedSimpArgs false

set_option maxRecDepth 100000 in
set_option maxHeartbeats 1000000 in
theorem isSpace_any (x : Int) (w : World) (h0 : 0 ≤ x) (h1 : x < 128) (h2 : x ≠ 11) : Calls Tryz.prog 120 #[.int .i32 x] w (BoolIs (spaceI x) w) := by
  by_cases h : x = 9 ∨ x = 10 ∨ x = 12 ∨ x = 13 ∨ x = 32
  · rcases h with rfl | rfl | rfl | rfl | rfl
    all_goals
      go_enter Tryz.func120, Tryz.ntmps120
      go_wp2
      go_ret
      exact ⟨rfl, rfl⟩
  · have hs : spaceI x = false := by
      unfold spaceI
      simp only [Bool.or_eq_false_iff, beq_eq_false_iff_ne]
      omega
    rw [hs]
    have e1 : (x == 9) = false := by simp; omega
    have e2 : (x == 10) = false := by simp; omega
    have e3 : (x == 11) = false := by simp; omega
    have e4 : (x == 12) = false := by simp; omega
    have e5 : (x == 13) = false := by simp; omega
    have e6 : (x == 32) = false := by simp; omega
    have e7 : (x == 133) = false := by simp; omega
    have e8 : (x == 160) = false := by simp; omega
    have e9 : (x == 5760) = false := by simp; omega
    have e10 : (x == 8232) = false := by simp; omega
    have e11 : (x == 8233) = false := by simp; omega
    have e12 : (x == 8239) = false := by simp; omega
    have e13 : (x == 8287) = false := by simp; omega
    have e14 : (x == 12288) = false := by simp; omega
    have e15 : decide ((8192 : Int) ≤ x) = false := by simp; omega
    clear hs h
    go_enter Tryz.func120, Tryz.ntmps120
    go_wp2
    go_ret
    exact ⟨rfl, rfl⟩

/-- Where the first and the last byte stand that are no white space, among the first bytes. -/
def Ends (l : List UInt8) (pos f t : Nat) : Prop :=
  (t = 0 ∧ f = l.length ∧ ∀ j, j < pos → spaceB (l.getD j 0) = true) ∨
  (f < t ∧ t ≤ pos ∧ (∀ j, j < f → spaceB (l.getD j 0) = true) ∧ spaceB (l.getD f 0) = false ∧ spaceB (l.getD (t - 1) 0) = false ∧ ∀ j, t ≤ j → j < pos → spaceB (l.getD j 0) = true)

theorem ends_space {l : List UInt8} {pos f t : Nat} (h : Ends l pos f t) (hs : spaceB (l.getD pos 0) = true) : Ends l (pos + 1) f t := by
  rcases h with ⟨h1, h2, h3⟩ | ⟨h1, h2, h3, h4, h5, h6⟩
  · refine .inl ⟨h1, h2, fun j hj => ?_⟩
    rcases Nat.lt_or_ge j pos with h | h
    · exact h3 j h
    · obtain rfl : j = pos := by omega
      exact hs
  · refine .inr ⟨h1, by omega, h3, h4, h5, fun j hj1 hj2 => ?_⟩
    rcases Nat.lt_or_ge j pos with h | h
    · exact h6 j hj1 h
    · obtain rfl : j = pos := by omega
      exact hs

theorem ends_not {l : List UInt8} {pos f t : Nat} (hp : pos < l.length) (h : Ends l pos f t) (hs : spaceB (l.getD pos 0) = false) : Ends l (pos + 1) (min f pos) (pos + 1) := by
  rcases h with ⟨h1, h2, h3⟩ | ⟨h1, h2, h3, h4, h5, h6⟩
  · have : min f pos = pos := by omega
    rw [this]
    exact .inr ⟨by omega, by omega, h3, hs, hs, fun j h1 h2 => by omega⟩
  · have : min f pos = f := by omega
    rw [this]
    exact .inr ⟨by omega, by omega, h3, h4, hs, fun j h1 h2 => by omega⟩

theorem getD_of {l : List UInt8} {j : Nat} (h : j < l.length) : l.getD j 0 = l[j] := by rw [List.getD_eq_getElem?_getD, List.getElem?_eq_getElem h]; rfl

theorem all_mem {l : List UInt8} {p : UInt8 → Bool} (h : ∀ j, j < l.length → p (l.getD j 0) = true) : ∀ a ∈ l, p a = true := by
  intro a ha
  obtain ⟨j, hj, rfl⟩ := List.mem_iff_getElem.1 ha
  have := h j hj
  rwa [getD_of hj] at this

theorem bareL_none {l : List UInt8} {f : Nat} (h : ∀ j, j < l.length → spaceB (l.getD j 0) = true) : bareL l = [] := by
  have h1 := List.dropWhile_append_of_pos (l₂ := []) (all_mem h)
  rw [List.append_nil] at h1
  unfold bareL
  rw [h1]
  rfl

theorem bareL_mid {l : List UInt8} {f t : Nat} (hf : f < t) (ht : t ≤ l.length) (h3 : ∀ j, j < f → spaceB (l.getD j 0) = true) (h4 : spaceB (l.getD f 0) = false) (h5 : spaceB (l.getD (t - 1) 0) = false) (h6 : ∀ j, t ≤ j → j < l.length → spaceB (l.getD j 0) = true) :
    bareL l = (l.drop f).take (t - f) := by
  have ha : ∀ a ∈ l.take f, spaceB a = true := all_mem (fun j hj => by
    rw [List.length_take] at hj
    rw [List.getD_eq_getElem?_getD, List.getElem?_take, if_pos (by omega), ← List.getD_eq_getElem?_getD]
    exact h3 j (by omega))
  have hc : ∀ a ∈ (l.drop t).reverse, spaceB a = true := by
    intro a hm
    rw [List.mem_reverse] at hm
    revert a
    exact all_mem (fun j hj => by
      rw [List.length_drop] at hj
      rw [List.getD_eq_getElem?_getD, List.getElem?_drop, ← List.getD_eq_getElem?_getD]
      exact h6 (t + j) (by omega) (by omega))
  have hd : l.dropWhile spaceB = l.drop f := by
    conv => lhs; rw [← List.take_append_drop f l]
    rw [List.dropWhile_append_of_pos ha, List.drop_eq_getElem_cons (by omega), List.dropWhile_cons]
    rw [getD_of (by omega)] at h4
    rw [h4]
    rfl
  unfold bareL
  rw [hd]
  have hsplit : l.drop f = (l.drop f).take (t - f) ++ l.drop t := by
    conv => lhs; rw [← List.take_append_drop (t - f) (l.drop f)]
    rw [List.drop_drop, show f + (t - f) = t by omega]
  conv => lhs; rw [hsplit]
  rw [List.reverse_append, List.dropWhile_append_of_pos hc]
  have hlast : (l.drop f).take (t - f) = (l.drop f).take (t - f - 1) ++ [l[t - 1]'(by omega)] := by
    rw [show t - f = (t - f - 1) + 1 by omega, List.take_add_one, List.getElem?_drop, show f + (t - f - 1) = t - 1 by omega, List.getElem?_eq_getElem (by omega)]
    rfl
  rw [getD_of (by omega)] at h5
  have hrev : ((l.drop f).take (t - f)).reverse.dropWhile spaceB = ((l.drop f).take (t - f)).reverse := by
    rw [hlast, List.reverse_append, List.reverse_singleton, List.singleton_append, List.dropWhile_cons, h5]
    rfl
  rw [hrev, List.reverse_reverse]

def TrimPost (s : ByteArray) (w : World) (e : Ending) (w' : World) : Prop := ∃ r : ByteArray, e = .returned (.string r) ∧ r.data.toList = bareL s.data.toList ∧ r.size ≤ s.size ∧ Below w.heap.size w w'

set_option maxRecDepth 100000 in
set_option maxHeartbeats 4000000 in
theorem trim_any (s : ByteArray) (w : World) (hs : s.size ≤ 4611686018427387904) (ha : ∀ i (h : i < s.size), (s[i]'h).toNat < 128 ∧ (s[i]'h).toNat ≠ 11) :
    Calls Tryz.prog 73 #[.string s] w (TrimPost s w) := by
  have hk0 : (w.iter s 0).heap[w.heap.size]? = some (.stringIter s 0) := World.iter_heap w s 0
  have hb0 : Below w.heap.size w (w.iter s 0) := (Below.refl _ w).alloc (Nat.le_refl _) _
  have HA := Lib.hid ha
  clear ha
  obtain ⟨l, hl⟩ : ∃ l, s.data.toList = l := ⟨_, rfl⟩
  have hll : l.length = s.size := by rw [← hl, ← size_list]
  have HL := Lib.hid hl
  clear hl
  go_enter Tryz.func73, Tryz.ntmps73
  go_wp2
  go_loopw [3, 4] (fun vf vt wr => ∃ pos f t : Nat, pos ≤ s.size ∧ f ≤ s.size ∧ t ≤ pos ∧ vf = .int .i64 (f : Int) ∧ vt = .int .i64 (t : Int) ∧ Hid (Ends l pos f t) ∧ wr.heap[w.heap.size]? = some (.stringIter s pos) ∧ Below w.heap.size w wr)
    (fun _ _ wr => s.size - wr.iterPos w.heap.size)
  case atStart => exact ⟨0, s.size, 0, by omega, by omega, by omega, by go_num, by go_num, Lib.hid (.inl ⟨rfl, hll.symm, fun j hj => by omega⟩), hk0, hb0⟩
  case round =>
    obtain ⟨pos, f, t, hps, hfs, hts, rfl, rfl, HE, hk, hbel⟩ := hrel
    clear hk0 hb0
    have hmu : wr.iterPos w.heap.size = pos := by simp [World.iterPos, hk]
    by_cases hp : pos < s.size
    · have h128 := (HA.out pos hp).1
      have hnext : ∀ ty, (Instr.next (.pointer (some ⟨w.heap.size, 0, none⟩)) true ty).run Tryz.prog wr = _ := fun ty => Lib.run_next_ascii_at wr w.heap.size s pos ty hk hp h128
      have hk1 := Lib.iterAt_heap wr w.heap.size s pos (pos + 1) hk
      have hb1 : Below w.heap.size w (wr.iterAt w.heap.size s (pos + 1)) := Lib.below_iterAt hbel (by omega) s (pos + 1)
      generalize wr.iterAt w.heap.size s (pos + 1) = W1 at hnext hk1 hb1
      have hch : l.getD pos 0 = s[pos] := by rw [getD_of (by omega)]; have := HL.out; subst this; rfl
      have hsp := isSpace_any (s[pos].toNat : Int) W1 (by omega) (by omega) (by have := (HA.out pos hp).2; omega)
      rw [show spaceI (s[pos].toNat : Int) = spaceB (l.getD pos 0) by rw [hch]; rfl] at hsp
      have hmu2 : W1.iterPos w.heap.size = pos + 1 := by simp [World.iterPos, hk1]
      have HSP := Lib.hid hsp
      have HK := Lib.hid (And.intro hk1 hb1)
      have HMU := Lib.hid (And.intro hmu hmu2)
      cases hb : spaceB (l.getD pos 0)
      · have HE2 := Lib.hid (ends_not (by omega) HE.out hb)
        rw [hb] at HSP
        clear hk1 hb1 hsp hmu hmu2 hb hk hbel hch h128
        go_wp2_with fail
        refine HSP.out.mono ?_
        rintro e w2 ⟨rfl, rfl⟩
        by_cases hm : pos < f
        · have hmI : (pos : Int) < (f : Int) := by omega
          rw [show min f pos = pos by omega] at HE2
          go_wp2
          go_loopw [4] (fun v wr => v = .int .i64 ((pos + 1 : Nat) : Int) ∧ W1 = wr) (fun _ _ => 0)
          case atStart => exact ⟨by go_num, by first | rfl | trivial⟩
          case round =>
            obtain ⟨rfl, rfl⟩ := hrel
            by_cases hq : pos + 1 < s.size
            · have hq1 := (HA.out (pos + 1) hq).1
              have hqI : (((pos + 1 : Nat) : Int)) < (s.size : Int) := by omega
              have hqd : decide ((128 : Int) ≤ ((s[pos + 1]'hq).toNat : Int)) = false := by simp; omega
              go_wp2
              refine ⟨?rel, ?measure⟩
              case rel => exact ⟨pos + 1, pos, pos + 1, by omega, by omega, by omega, rfl, rfl, HE2, HK.out.1, HK.out.2⟩
              case measure => rw [HMU.out.1, HMU.out.2]; omega
            · have hqI : ¬ (((pos + 1 : Nat) : Int)) < (s.size : Int) := by omega
              go_wp2
              refine ⟨?rel, ?measure⟩
              case rel => exact ⟨pos + 1, pos, pos + 1, by omega, by omega, by omega, rfl, rfl, HE2, HK.out.1, HK.out.2⟩
              case measure => rw [HMU.out.1, HMU.out.2]; omega
        · have hmI : ¬ (pos : Int) < (f : Int) := by omega
          rw [show min f pos = f by omega] at HE2
          go_wp2
          go_loopw [4] (fun v wr => v = .int .i64 ((pos + 1 : Nat) : Int) ∧ W1 = wr) (fun _ _ => 0)
          case atStart => exact ⟨by go_num, by first | rfl | trivial⟩
          case round =>
            obtain ⟨rfl, rfl⟩ := hrel
            by_cases hq : pos + 1 < s.size
            · have hq1 := (HA.out (pos + 1) hq).1
              have hqI : (((pos + 1 : Nat) : Int)) < (s.size : Int) := by omega
              have hqd : decide ((128 : Int) ≤ ((s[pos + 1]'hq).toNat : Int)) = false := by simp; omega
              go_wp2
              refine ⟨?rel, ?measure⟩
              case rel => exact ⟨pos + 1, f, pos + 1, by omega, by omega, by omega, rfl, rfl, HE2, HK.out.1, HK.out.2⟩
              case measure => rw [HMU.out.1, HMU.out.2]; omega
            · have hqI : ¬ (((pos + 1 : Nat) : Int)) < (s.size : Int) := by omega
              go_wp2
              refine ⟨?rel, ?measure⟩
              case rel => exact ⟨pos + 1, f, pos + 1, by omega, by omega, by omega, rfl, rfl, HE2, HK.out.1, HK.out.2⟩
              case measure => rw [HMU.out.1, HMU.out.2]; omega
      · have HE2 := Lib.hid (ends_space HE.out hb)
        rw [hb] at HSP
        clear hk1 hb1 hsp hmu hmu2 hb hk hbel hch h128
        go_wp2_with fail
        refine HSP.out.mono ?_
        rintro e w2 ⟨rfl, rfl⟩
        go_wp2
        refine ⟨?rel, ?measure⟩
        case rel => exact ⟨pos + 1, f, t, by omega, by omega, by omega, rfl, rfl, HE2, HK.out.1, HK.out.2⟩
        case measure => rw [HMU.out.1, HMU.out.2]; omega
    · have hnext : ∀ ty, (Instr.next (.pointer (some ⟨w.heap.size, 0, none⟩)) true ty).run Tryz.prog wr = _ := fun ty => Lib.run_next_end_at wr w.heap.size s pos ty hk hp
      obtain rfl : pos = s.size := by omega
      have HB := Lib.hid hbel
      clear hbel hmu hk
      by_cases hle : t ≤ f
      · go_wp2
        go_ret
        refine ⟨_, rfl, ?_, Nat.zero_le _, HB.out⟩
        rcases HE.out with ⟨_, _, h3⟩ | ⟨h1, _⟩
        · rw [HL.out, bareL_none (f := f) (fun j hj => h3 j (by omega))]
        · omega
      · go_wp2
        go_ret
        refine ⟨_, rfl, ?_, ?_, HB.out⟩
        · rw [extract_list, HL.out]
          rcases HE.out with ⟨h1, _, _⟩ | ⟨h1, h2, h3, h4, h5, h6⟩
          · omega
          · exact (bareL_mid h1 (by omega) h3 h4 h5 (fun j a b => h6 j a (by omega))).symm
        · rw [size_list, extract_list, HL.out, List.length_take, List.length_drop]
          omega

end Go.Proofs.YtkdomegcacgpnaaGreat

