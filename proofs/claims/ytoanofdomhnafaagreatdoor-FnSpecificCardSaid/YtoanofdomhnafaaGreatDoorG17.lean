/- Parts of a proof: HexNum, Pd, PdSmall, PdString. -/
import Derived.Test.YtoanofdomhnafaaGreatDoorG01
import Derived.Lib.ConvBytes
import Derived.Lib.AtoiErrMem
import Derived.Lib.AtoiAllMem
import Derived.Laws.Closers25
import Derived.Laws.Closers25b
import Derived.Laws.Strings3
import Derived.BigCall
import Derived.BigGuard
import Derived.Test.YtoanofdomhnafaaGreatDoorG00
import Derived.Laws.StructEq
import Derived.Test.YtoanofdomhnafaaGreatDoorG03
set_option linter.unusedVariables false
set_option linter.unusedSimpArgs false
namespace Go.Proofs.YtoanofdomhnafaaGreatDoor
open Go.RowKit
/-- What the first k digits of a text are worth. -/
theorem hexVal_lt (s : ByteArray) (st : Nat) : ∀ k, (∀ i, i < k → isHx (nx s (st + i)) = true) → hexVal s st k < 16 ^ k
  | 0, _ => by simp [hexVal]
  | k + 1, h => by
    have h1 := hexVal_lt s st k (fun i hi => h i (by omega))
    have h2 : hxv (nx s (st + k)) < 16 := by
      have := h k (by omega)
      simp only [isHx, decide_eq_true_eq] at this
      unfold hxv
      split
      · omega
      · split <;> omega
    simp only [hexVal, Nat.pow_succ]
    omega
def HexPost (s : ByteArray) (w : World) (e : Ending) (w' : World) : Prop := e = .returned (.tuple #[.int .u64 (hexVal s 0 s.size : Int), .nilIface]) ∧ Below w.heap.size w w'
theorem low_of (x y : Int) (h : (97 ≤ x ∧ x ≤ 102 ∧ y = x) ∨ (65 ≤ x ∧ x ≤ 70 ∧ y = x + 32)) : bits BinOp.or IntKind.u8 x 32 = y := by
  rcases h with ⟨h1, h2, h3⟩ | ⟨h1, h2, h3⟩
  all_goals rw [h3]
  all_goals clear h3
  · have : x = 97 ∨ x = 98 ∨ x = 99 ∨ x = 100 ∨ x = 101 ∨ x = 102 := by omega
    rcases this with rfl | rfl | rfl | rfl | rfl | rfl <;> decide
  · have : x = 65 ∨ x = 66 ∨ x = 67 ∨ x = 68 ∨ x = 69 ∨ x = 70 := by omega
    rcases this with rfl | rfl | rfl | rfl | rfl | rfl <;> decide
theorem lower_any (n : Int) (w : World) : Calls Tryz.prog 84 #[.int .u8 n] w (fun e w' => e = .returned (.int .u8 (bits BinOp.or IntKind.u8 n 32)) ∧ w' = w) := by
  go_enter Tryz.func84, Tryz.ntmps84
  go_wp2
  go_ret
  exact ⟨rfl, rfl⟩
theorem lower_is {x y : Int} (h : bits BinOp.or IntKind.u8 x 32 = y) (w : World) : Calls Tryz.prog 84 #[.int .u8 x] w (fun e w' => e = .returned (.int .u8 y) ∧ w' = w) :=
  (lower_any x w).mono fun e w' ⟨he, hw⟩ => ⟨by rw [he, h], hw⟩
set_option maxRecDepth 100000 in
set_option maxHeartbeats 8000000 in
theorem parseHex_any (s : ByteArray) (w : World) (h0 : 0 < s.size) (h6 : s.size ≤ 6) (hx : ∀ i, i < s.size → isHx (nx s i) = true) :
    Calls Tryz.prog 79 #[.string s, .int .i64 16, .int .i64 64] w (HexPost s w) := by
  have hemp : s.toList.isEmpty = false := by
    rw [← decide_eq_emptyBytes]
    exact decide_eq_false (fun h => by rw [h] at h0; simp at h0)
  have hcv := Lib.run_convert_string_bytes (P := Tryz.prog) w 9 68 5 s (u := .string) Tryz.underlying9 Tryz.underlying68 Tryz.underlying5
  have hB : ∀ j, j < s.size → (Lib.bytesWorld w 5 s).cell? ⟨w.heap.size, j, none⟩ = some (.int .u8 (nx s j)) := fun j hj => by
    rw [Lib.bytesWorld_cell w 5 s j hj, nx_lt hj]
    congr 3
    have : j < s.data.toList.length := by simpa using hj
    simp [List.getD, List.getElem?_eq_getElem this]
    rfl
  have hbel := Lib.bytesWorld_below w 5 s
  obtain ⟨W1, hW1⟩ : ∃ W1, W1 = Lib.bytesWorld w 5 s := ⟨_, rfl⟩
  rw [← hW1] at hcv hB hbel
  clear hW1
  have HBEL := Lib.hid hbel
  have HX := Lib.hid hx
  have HB := Lib.hid hB
  clear hbel hx hB
  have hmv : IntKind.u64.wrap (IntKind.u64.wrap 18446744073709551616 - 1) = 18446744073709551615 := by
    rw [IntKind.wrap_u64, IntKind.wrap_u64]
    decide
  go_enter Tryz.func79, Tryz.ntmps79
  go_wp2
  go_loop [12, 13, 101] (fun vu vn vi => ∃ (k : Nat) (a : Int), vu = .bool false ∧ vn = .int .u64 a ∧ vi = .int .i64 k ∧ k ≤ s.size ∧ Hid (a = (hexVal s 0 k : Int)))
    (fun _ _ vi => s.size - (intOf vi).toNat)
  case atStart => exact ⟨0, 0, rfl, rfl, rfl, by omega, Lib.hid rfl⟩
  case round =>
    obtain ⟨k, a, rfl, rfl, rfl, hk, hh⟩ := hrel
    by_cases hkn : k < s.size
    · have hc := HB.out k hkn
      have hxk := HX.out k hkn
      have hlt16 := hexVal_lt s 0 k (fun i hi => by rw [Nat.zero_add]; exact HX.out i (by omega))
      have hpow : (16 : Nat) ^ k ≤ 16 ^ 5 := Nat.pow_le_pow_right (by decide) (by omega)
      have a0 : 0 ≤ a := by rw [hh.out]; omega
      have a1 : a < 1048576 := by rw [hh.out]; omega
      clear hlt16 hpow
      have hstep : (hexVal s 0 (k + 1) : Int) = a * 16 + (hxv (nx s k) : Int) := by rw [hh.out]; simp [hexVal]
      obtain ⟨x, hxe⟩ : ∃ x, nx s k = x := ⟨_, rfl⟩
      rw [hxe] at hc hxk hstep
      have hx255 := nx_le s k
      rw [hxe] at hx255
      simp only [isHx, decide_eq_true_eq] at hxk
      have HST := Lib.hid hstep
      clear hstep hxe hh
      have h95 : (x == 95) = false := by simp; omega
      rcases hxk with ⟨h1, h2⟩ | hlet
      · have g1 : decide ((48 : Int) ≤ x) = true := by simp [h1]
        have g2 : decide (x ≤ (57 : Int)) = true := by simp [h2]
        have hval : (hxv x : Int) = x - 48 := by unfold hxv; rw [if_pos h2]; omega
        have HV := Lib.hid hval
        clear hval
        go_wp2
        go_round
        case rel => exact ⟨k + 1, a * 16 + (x - 48), rfl, rfl, by go_num, by omega, Lib.hid (by rw [HST.out, HV.out])⟩
        case measure => simp [intOf]; omega
      · obtain ⟨y, hy, hy1, hy2, hval⟩ : ∃ y : Int, bits BinOp.or IntKind.u8 x 32 = y ∧ 97 ≤ y ∧ y ≤ 102 ∧ (hxv x : Int) = y - 97 + 10 := by
          rcases hlet with ⟨h1, h2⟩ | ⟨h1, h2⟩
          · exact ⟨x, low_of x x (.inl ⟨h1, h2, rfl⟩), h1, h2, by unfold hxv; rw [if_neg (by omega), if_neg (by omega)]; omega⟩
          · exact ⟨x + 32, low_of x (x + 32) (.inr ⟨h1, h2, rfl⟩), by omega, by omega, by unfold hxv; rw [if_neg (by omega), if_pos h2]; omega⟩
        have g57 : 57 < x := by omega
        have g1 : decide ((48 : Int) ≤ x) = true := by simp; omega
        have g2 : decide (x ≤ (57 : Int)) = false := by simp; omega
        have g3 : decide ((97 : Int) ≤ y) = true := by simp [hy1]
        have g4 : decide (y ≤ (122 : Int)) = true := by simp; omega
        have HV := Lib.hid hval
        have HY := Lib.hid hy
        clear hval hy hlet
        go_wp2_with (go_at_call 84; refine (lower_is HY.out _).mono ?_; rintro e w' ⟨rfl, rfl⟩)
        go_round
        case rel => exact ⟨k + 1, a * 16 + (y - 97 + 10), rfl, rfl, by go_num, by omega, Lib.hid (by rw [HST.out, HV.out])⟩
        case measure => simp [intOf]; omega
    · have hkk : k = s.size := by omega
      subst hkk
      have HH := Lib.hid hh.out
      go_wp2
      go_ret2
      first | exact ⟨rfl, HBEL.out⟩ | exact ⟨by rw [HH.out]; rfl, HBEL.out⟩
variable {d : Int}
/-- A parser's cells. -/
def prs (d : Int) (s : ByteArray) (k : Nat) : Array Value := #[.string s, .int .i64 (k : Int), .int .i64 d, .bool false]
def Prs (d : Int) (w : World) (B : Nat) (s : ByteArray) (k : Nat) : Prop := World.objAt w B (prs d s k) 50
theorem Prs.drew {w : World} {B : Nat} {s : ByteArray} {k : Nat} (h : Prs d w B s k) (q : Nat) : Prs d (w.drewN q) B s k := by
  unfold Prs World.objAt at h ⊢
  rw [World.heap_drewN]
  exact h
theorem prs_new (w : World) (s : ByteArray) : Prs 0 (w.alloc (.cells #[.string s, .int .i64 0, .int .i64 0, .bool false] 50)) w.heap.size s 0 := objAt_alloc_new _ _ _
theorem Prs.at {w : World} {B : Nat} {s : ByteArray} {k : Nat} (h : Prs d w B s k) (m : Nat) : Prs d (w.setCell ⟨B, 1, none⟩ (.int .i64 (m : Int))) B s m := World.objAt.set h 1 _
/-- Two results, the second an error. -/
def Fails (e : Ending) : Prop := ∃ v t q, e = .returned (.tuple #[v, .iface t q])
theorem empty_of {s : ByteArray} (h : s.toList.isEmpty = true) : s = ByteArray.empty := by
  rw [← decide_eq_emptyBytes] at h
  exact of_decide_eq_true h
theorem not_empty_of {s : ByteArray} (h : s.toList.isEmpty = false) : s ≠ ByteArray.empty := by
  rw [← decide_eq_emptyBytes] at h
  exact of_decide_eq_false h
def IsBool (b : Bool) (w : World) (e : Ending) (w' : World) : Prop := e = .returned (.bool b) ∧ w' = w
theorem nameChar_is {n : Int} {b : Bool} (h : isNc n = b) (w : World) : Calls Tryz.prog 63 #[.int .u8 n] w (IsBool b w) :=
  (nameChar_any n w).mono fun e w' ⟨b', h', he, hw⟩ => ⟨by rw [he, h', h], hw.symm⟩
theorem hexDigit_is {n : Int} {b : Bool} (h : isHx n = b) (w : World) : Calls Tryz.prog 72 #[.int .u8 n] w (IsBool b w) :=
  (hexDigit_any n w).mono fun e w' ⟨b', h', he, hw⟩ => ⟨by rw [he, h', h], hw.symm⟩
def PuPost (v : Nat) (w : World) (e : Ending) (w' : World) : Prop := e = .returned (.tuple #[.int .u64 (v : Int), .nilIface]) ∧ Below w.heap.size w w'
theorem parseUint_is (s : ByteArray) (st j : Nat) (hj : j ≤ s.size) (h1 : st < j) (h6 : j ≤ st + 6) (hx : ∀ m, m < j - st → isHx (nx s (st + m)) = true) (w : World) :
    Calls Tryz.prog 73 #[.string (s.extract st j), .int .i64 16, .int .i64 64] w (PuPost (hexVal s st (j - st)) w) := by
  have hz : (s.extract st j).size = j - st := by rw [ByteArray.size_extract]; omega
  have hp := fun w' => parseHex_any (s.extract st j) w' (by omega) (by omega) (fun i hi => by rw [hz] at hi; rw [nx_extract (by omega) hj]; exact hx i hi)
  unfold HexPost at hp
  rw [hz, hexVal_extract hj _ (by omega)] at hp
  have HP := Lib.hid hp
  clear hp hz hx
  go_enter Tryz.func73, Tryz.ntmps73
  go_wp2_with (go_at_call 79; refine (HP.out _).mono ?_; rintro e w' ⟨rfl, hb⟩)
  go_ret2
  exact ⟨rfl, hb⟩
theorem hexN_mono (s : ByteArray) (st n : Nat) : ∀ d, hexN s st n ≤ hexN s st (n + d)
  | 0 => Nat.le_refl _
  | d + 1 => by
    have h1 := hexN_mono s st n d
    have h2 := hexN_le s st (n + d)
    rw [← Nat.add_assoc]
    simp only [hexN]
    split <;> omega
theorem ws_2 {s : ByteArray} {j : Nat} (hj : j < s.size) (h13 : ((s[j].toNat : Int) == 13) = true) (h1 : (j : Int) + 1 < (s.size : Int)) (h10 : ((s[j + 1]'(by omega)).toNat == (10 : Int)) = true) : wsSkip s j = j + 2 := by
  have e1 := nx_lt hj
  have e2 := nx_lt (show j + 1 < s.size by omega)
  have := of_decide_eq_true h13
  have := of_decide_eq_true h10
  unfold wsSkip
  rw [if_pos (by omega), if_pos (by omega)]
theorem ws_1a {s : ByteArray} {j : Nat} (hj : j < s.size) (h13 : ((s[j].toNat : Int) == 13) = true) (h1 : (j : Int) + 1 < (s.size : Int)) (h10 : ((s[j + 1]'(by omega)).toNat == (10 : Int)) = false) : wsSkip s j = j + 1 := by
  have e1 := nx_lt hj
  have e2 := nx_lt (show j + 1 < s.size by omega)
  have := of_decide_eq_true h13
  have := of_decide_eq_false h10
  unfold wsSkip
  rw [if_pos (by omega), if_neg (by omega)]
theorem ws_1b {s : ByteArray} {j : Nat} (hj : j < s.size) (h13 : ((s[j].toNat : Int) == 13) = true) (h1 : (s.size : Int) ≤ (j : Int) + 1) : wsSkip s j = j + 1 := by
  have e1 := nx_lt hj
  have e2 := nx_end (show s.size ≤ j + 1 by omega)
  have := of_decide_eq_true h13
  unfold wsSkip
  rw [if_pos (by omega), if_neg (by omega)]
theorem ws_1 {s : ByteArray} {j : Nat} (hj : j < s.size) (h : ((s[j].toNat : Int) == 32) = true ∨ ((s[j].toNat : Int) == 9) = true ∨ ((s[j].toNat : Int) == 10) = true ∨ ((s[j].toNat : Int) == 12) = true) : wsSkip s j = j + 1 := by
  have e1 := nx_lt hj
  have : nx s j = 32 ∨ nx s j = 9 ∨ nx s j = 10 ∨ nx s j = 12 := by
    rw [e1]
    rcases h with h | h | h | h
    · exact .inl (of_decide_eq_true h)
    · exact .inr (.inl (of_decide_eq_true h))
    · exact .inr (.inr (.inl (of_decide_eq_true h)))
    · exact .inr (.inr (.inr (of_decide_eq_true h)))
  unfold wsSkip
  rw [if_neg (by omega), if_pos this]
theorem ws_0 {s : ByteArray} {j : Nat} (hj : j < s.size) (h13 : ((s[j].toNat : Int) == 13) = false) (h2 : ((s[j].toNat : Int) == 32) = false) (h3 : ((s[j].toNat : Int) == 9) = false) (h4 : ((s[j].toNat : Int) == 10) = false) (h5 : ((s[j].toNat : Int) == 12) = false) : wsSkip s j = j := by
  have e1 := nx_lt hj
  have := of_decide_eq_false h13
  have := of_decide_eq_false h2
  have := of_decide_eq_false h3
  have := of_decide_eq_false h4
  have := of_decide_eq_false h5
  unfold wsSkip
  rw [if_neg (by omega), if_neg (by omega)]
theorem ws_end {s : ByteArray} {j : Nat} (hj : s.size ≤ j) : wsSkip s j = j := by
  have e1 := nx_end hj
  unfold wsSkip
  rw [if_neg (by omega), if_neg (by omega)]
/-- Only block B, and what is new, may differ. -/
structure Keep (B : Nat) (w w' : World) : Prop where
  below : Below B w w'
  rest : ∀ b, B < b → b < w.heap.size → w'.heap[b]? = w.heap[b]?
theorem Keep.refl (B : Nat) (w : World) : Keep B w w := ⟨Below.refl _ _, fun _ _ _ => rfl⟩
theorem Keep.trans {B : Nat} {a b c : World} (h : Keep B a b) (k : Keep B b c) : Keep B a c :=
  ⟨h.below.trans k.below, fun i h1 h2 => (k.rest i h1 (Nat.lt_of_lt_of_le h2 h.below.size)).trans (h.rest i h1 h2)⟩
theorem Keep.of {B : Nat} {w w' : World} (h : Below w.heap.size w w') (hB : B ≤ w.heap.size) : Keep B w w' :=
  ⟨h.mono hB, fun b _ hb => h.block b hb⟩
theorem keep_drewN {B : Nat} {a w : World} (h : Keep B a w) (n : Nat) : Keep B a (w.drewN n) :=
  ⟨below_drewN h.below n, fun b h1 h2 => by rw [World.heap_drewN]; exact h.rest b h1 h2⟩
theorem World.objAt.setKeep {w : World} {b : Nat} {cs : Array Value} {t : TypeId} (h : World.objAt w b cs t) (i : Nat) (v : Value) {a : World} (ha : Keep b a w) (hb : b ≤ b) : Keep b a (w.setCell ⟨b, i, none⟩ v) :=
  ⟨World.objAt.setBelow h i v ha.below hb, fun k h1 h2 => by
    rw [setCell_heap h]
    exact (Array.getElem?_setIfInBounds_ne (by omega)).trans (ha.rest k h1 h2)⟩
/-- An object behind is kept. -/
theorem World.objAt.keep {w w' : World} {B b : Nat} {cs : Array Value} {t : TypeId} (h : World.objAt w b cs t) (hk : Keep B w w') (hb : B < b) : World.objAt w' b cs t := by
  have hlt := World.objAt.lt h
  unfold World.objAt at h ⊢
  rw [hk.rest b hb hlt]
  exact h
/-- What parseEscape answers. -/
def EscPostK (d : Int) (s : ByteArray) (B i : Nat) (w : World) (e : Ending) (w' : World) : Prop :=
  Keep B w w' ∧ ((esc s i = none ∧ Fails e ∧ ∃ k, Prs d w' B s k) ∨ ∃ a j, esc s i = some (a, j) ∧ e = .returned (.tuple #[.string a, .nilIface]) ∧ Prs d w' B s j ∧ j ≤ s.size)
/-- parseEscape answers so, at every escape. -/
def EscAnswersK (d : Int) (s : ByteArray) (B : Nat) : Prop := ∀ i w, i < s.size → nx s i = 92 → Prs d w B s i → Calls Tryz.prog 64 #[.pointer (some ⟨B, 0, none⟩)] w (EscPostK d s B i w)
/-- What parseName answers. -/
def NamePostK (d : Int) (s : ByteArray) (B k0 : Nat) (w : World) (e : Ending) (w' : World) : Prop :=
  Keep B w w' ∧ (((pn s k0 ByteArray.empty = none ∨ ∃ j, pn s k0 ByteArray.empty = some (ByteArray.empty, j)) ∧ Fails e ∧ ∃ k, Prs d w' B s k) ∨
    ∃ out j, pn s k0 ByteArray.empty = some (out, j) ∧ out ≠ ByteArray.empty ∧ j ≤ s.size ∧ e = .returned (.tuple #[.string out, .nilIface]) ∧ Prs d w' B s j)
theorem prs_errK {w : World} {B : Nat} {s : ByteArray} {k : Nat} (h : Prs d w B s k) (o : Obj) : Keep B w (w.alloc o) ∧ Prs d (w.alloc o) B s k := by
  have hlt := World.objAt.lt h
  have hb : Below w.heap.size w (w.alloc o) := (Below.refl w.heap.size w).alloc (Nat.le_refl _) o
  exact ⟨Keep.of hb (Nat.le_of_lt hlt), World.objAt.below h hb hlt⟩
set_option maxRecDepth 100000 in
set_option maxHeartbeats 8000000 in
theorem parseName_ofK (s : ByteArray) (B k0 : Nat) (w : World) (hs : s.size ≤ 9000) (hk0 : k0 ≤ s.size) (h : Prs d w B s k0) (hesc : EscAnswersK d s B) :
    Calls Tryz.prog 53 #[.pointer (some ⟨B, 0, none⟩)] w (NamePostK d s B k0 w) := by
  have c1 : w.cell? ⟨B, 1, none⟩ = some (.int .i64 (k0 : Int)) := h.cell (i := 1) rfl
  have HW := Lib.hid h
  have HESC := Lib.hid hesc
  clear h hesc
  go_enter Tryz.func53, Tryz.ntmps53
  go_wp2
  go_step3
  go_wp2
  go_step3
  go_wp2
  go_loopw [2, 4] (fun r i wr => ∃ (k q : Nat) (out : ByteArray), r = .string out ∧ i = .int .i64 (k : Int) ∧ k ≤ s.size ∧ pn s k0 ByteArray.empty = pn s k out ∧ Prs d wr B s q ∧ Keep B w wr ∧ out.size ≤ 4 * k) (fun _ i _ => s.size - (intOf i).toNat)
  case atStart => exact ⟨k0, k0, ByteArray.empty, rfl, by go_num, hk0, rfl, HW.out, Keep.refl _ _, by simp⟩
  case round =>
    obtain ⟨k, q, out, rfl, rfl, hk, hpn, hp, hb, hos⟩ := hrel
    have c0 : wr.cell? ⟨B, 0, none⟩ = some (.string s) := hp.cell (i := 0) rfl
    have c1 : wr.cell? ⟨B, 1, none⟩ = some (.int .i64 (q : Int)) := hp.cell (i := 1) rfl
    have f1 : wr.frozen? ⟨B, 1, none⟩ = false := hp.free 1
    have HPN := Lib.hid hpn
    have HP := Lib.hid hp
    have HB := Lib.hid hb
    clear hpn hp hb
    by_cases hlt : k < s.size
    · have g0 : decide ((k : Int) < (s.size : Int)) = true := by simp [hlt]
      have g0n : decide (k < s.size) = true := by simp [hlt]
      obtain ⟨b, hbc⟩ : ∃ b, isNc (nx s k) = b := ⟨_, rfl⟩
      have hbc' : isNc (s[k].toNat : Int) = b := by rw [← nx_lt hlt]; exact hbc
      have HBC := Lib.hid (And.intro hbc hbc')
      clear hbc hbc'
      cases b
      · by_cases h92 : nx s k = 92
        · have g92 : ((s[k].toNat : Int) == 92) = true := by rw [← nx_lt hlt]; simp [h92]
          have hes := HESC.out k (wr.setCell ⟨B, 1, none⟩ (.int .i64 (k : Int))) hlt h92 (HP.out.at k)
          have HES := Lib.hid hes
          have H92 := Lib.hid h92
          clear hes h92
          go_wp2_with (go_at_call 63; refine (nameChar_is HBC.out.2 _).mono ?_; rintro e w2 ⟨rfl, rfl⟩)
          refine HES.out.mono ?_
          rintro e w3 ⟨hb3, ⟨he, ⟨v, ty, qq, rfl⟩, kk, hk3⟩ | ⟨a, j, he, rfl, hp3, hj⟩⟩
          · have HE := Lib.hid (And.intro he (And.intro hb3 hk3))
            clear he hb3 hk3
            go_wp2
            rw [Exit.noGoto_ret]
            go_ret2
            exact ⟨(World.objAt.setKeep HP.out 1 _ HB.out (Nat.le_refl _)).trans HE.out.2.1, .inl ⟨.inl (HPN.out.trans (pn_none hlt H92.out HE.out.1)), ⟨_, _, _, rfl⟩, kk, HE.out.2.2⟩⟩
          · have c1' : w3.cell? ⟨B, 1, none⟩ = some (.int .i64 (j : Int)) := hp3.cell (i := 1) rfl
            have hkj := esc_lt he
            have has := esc_size he
            have hcat : out.size + a.size ≤ 9223372036854775807 := by omega
            have HE := Lib.hid (And.intro he (And.intro hb3 hp3))
            clear he hb3 hp3
            go_wp2
            refine ⟨?rel, ?measure⟩
            case rel => exact ⟨j, j, out ++ a, rfl, by go_num, hj, HPN.out.trans (pn_some hlt H92.out HE.out.1), HE.out.2.2, (World.objAt.setKeep HP.out 1 _ HB.out (Nat.le_refl _)).trans HE.out.2.1, by rw [ByteArray.size_append]; omega⟩
            case measure => simp [intOf]; omega
        · have g92 : ((s[k].toNat : Int) == 92) = false := by rw [← nx_lt hlt]; simp [h92]
          have H92 := Lib.hid h92
          clear h92
          cases hoe : out.toList.isEmpty
          · have HOE := Lib.hid (not_empty_of hoe)
            go_wp2_with (go_at_call 63; refine (nameChar_is HBC.out.2 _).mono ?_; rintro e w2 ⟨rfl, rfl⟩)
            rw [Exit.noGoto_ret]
            go_ret2
            exact ⟨World.objAt.setKeep HP.out 1 _ HB.out (Nat.le_refl _), .inr ⟨out, k, HPN.out.trans (pn_stop HBC.out.1 H92.out), HOE.out, hk, rfl, HP.out.at k⟩⟩
          · have HOE := Lib.hid (empty_of hoe)
            go_wp2_with (first | (go_at_call 63; refine (nameChar_is HBC.out.2 _).mono ?_; rintro e w2 ⟨rfl, rfl⟩) | go_in)
            rw [Exit.noGoto_ret]
            go_ret2
            exact ⟨HB.out.trans (prs_errK HP.out _).1, .inl ⟨.inr ⟨k, by rw [HPN.out, (pn_stop HBC.out.1 H92.out), HOE.out]⟩, ⟨_, _, _, rfl⟩, q, (prs_errK HP.out _).2⟩⟩
      · go_wp2_with (go_at_call 63; refine (nameChar_is HBC.out.2 _).mono ?_; rintro e w2 ⟨rfl, rfl⟩)
        go_loopw [4] (fun i wr' => ∃ j : Nat, i = .int .i64 (j : Int) ∧ k ≤ j ∧ j ≤ s.size ∧ (∀ m, k ≤ m → m < j → isNc (nx s m) = true) ∧ Prs d wr' B s q ∧ Keep B w wr') (fun i _ => s.size - (intOf i).toNat)
        case atStart => exact ⟨k, by go_num, by omega, by omega, fun m h1 h2 => absurd h2 (by omega), HP.out, HB.out⟩
        case round =>
          obtain ⟨j, rfl, hkj, hj, hall, hp', hb'⟩ := hrel
          have c0' := World.objAt.cell hp' (i := 0) (v := .string s) rfl
          have HALL := Lib.hid hall
          have HP' := Lib.hid hp'
          have HB' := Lib.hid hb'
          clear hall hp' hb'
          by_cases hjl : j < s.size
          · have g1 : decide ((j : Int) < (s.size : Int)) = true := by simp [hjl]
            have g1n : decide (j < s.size) = true := by simp [hjl]
            obtain ⟨b, hbj⟩ : ∃ b, isNc (nx s j) = b := ⟨_, rfl⟩
            have hbj' : isNc (s[j].toNat : Int) = b := by rw [← nx_lt hjl]; exact hbj
            have HBJ := Lib.hid (And.intro hbj hbj')
            clear hbj hbj'
            cases b
            · have hkne : k < j := by
                rcases Nat.lt_or_ge k j with h | h
                · exact h
                · obtain rfl : k = j := by omega
                  have h1 := HBJ.out.1
                  rw [HBC.out.1] at h1
                  cases h1
              have hcat : out.size + (s.extract k j).size ≤ 9223372036854775807 := by rw [ByteArray.size_extract]; omega
              go_wp2_with (go_at_call 63; refine (nameChar_is HBJ.out.2 _).mono ?_; rintro e w2 ⟨rfl, rfl⟩)
              refine ⟨?rel, ?measure⟩
              case rel => exact ⟨j, q, out ++ s.extract k j, rfl, by go_num, by omega, HPN.out.trans (pn_run j (by omega) (by omega) HALL.out), HP'.out, HB'.out, by rw [ByteArray.size_append, ByteArray.size_extract]; omega⟩
              case measure => simp [intOf]; omega
            · go_wp2_with (go_at_call 63; refine (nameChar_is HBJ.out.2 _).mono ?_; rintro e w2 ⟨rfl, rfl⟩)
              go_roundw
              case rel => exact ⟨j + 1, by go_num, by omega, by omega, (fun m h1 h2 => by
                by_cases hm : m < j
                · exact HALL.out m h1 hm
                · obtain rfl : m = j := by omega
                  exact HBJ.out.1), HP'.out, HB'.out⟩
              case measure => simp [intOf]; omega
          · have g1 : decide ((j : Int) < (s.size : Int)) = false := by simp; omega
            have g1n : decide (j < s.size) = false := by simp; omega
            have hcat : out.size + (s.extract k j).size ≤ 9223372036854775807 := by rw [ByteArray.size_extract]; omega
            go_wp2_with fail
            refine ⟨?rel, ?measure⟩
            case rel => exact ⟨j, q, out ++ s.extract k j, rfl, by go_num, by omega, HPN.out.trans (pn_run j (by omega) (by omega) HALL.out), HP'.out, HB'.out, by rw [ByteArray.size_append, ByteArray.size_extract]; omega⟩
            case measure => simp [intOf]; omega
    · have g0 : decide ((k : Int) < (s.size : Int)) = false := by simp; omega
      have g0n : decide (k < s.size) = false := by simp; omega
      cases hoe : out.toList.isEmpty
      · have HOE := Lib.hid (not_empty_of hoe)
        go_wp2_with fail
        rw [Exit.noGoto_ret]
        go_ret2
        exact ⟨World.objAt.setKeep HP.out 1 _ HB.out (Nat.le_refl _), .inr ⟨out, k, HPN.out.trans (pn_end (show s.size ≤ k by omega)), HOE.out, hk, rfl, HP.out.at k⟩⟩
      · have HOE := Lib.hid (empty_of hoe)
        go_wp2
        rw [Exit.noGoto_ret]
        go_ret2
        exact ⟨HB.out.trans (prs_errK HP.out _).1, .inl ⟨.inr ⟨k, by rw [HPN.out, (pn_end (show s.size ≤ k by omega)), HOE.out]⟩, ⟨_, _, _, rfl⟩, q, (prs_errK HP.out _).2⟩⟩
theorem esc_finK {s : ByteArray} {B i j k v : Nat} {w w' : World} (hq : Prs d w' B s i ∧ Keep B w w') (he : esc s i = some (Utf8.encode (v : Int), wsSkip s j)) (hk : wsSkip s j = k) (hks : k ≤ s.size) :
    EscPostK d s B i w (.returned (.tuple #[.string (Utf8.encode (v : Int)), .nilIface])) (w'.setCell ⟨B, 1, none⟩ (.int .i64 (k : Int))) :=
  ⟨World.objAt.setKeep hq.1 1 _ hq.2 (Nat.le_refl _), .inr ⟨_, k, by rw [he, hk], rfl, hq.1.at k, hks⟩⟩
set_option maxRecDepth 100000 in
set_option maxHeartbeats 8000000 in
theorem parseEscape_anyK (s : ByteArray) (B : Nat) (hs : s.size ≤ 9000) : EscAnswersK d s B := by
  intro i w hi h92 hp
  have c0 : w.cell? ⟨B, 0, none⟩ = some (.string s) := World.objAt.cell hp (i := 0) rfl
  have c1 : w.cell? ⟨B, 1, none⟩ = some (.int .i64 (i : Int)) := World.objAt.cell hp (i := 1) rfl
  have f1 : w.frozen? ⟨B, 1, none⟩ = false := World.objAt.free hp 1
  have g92 : ((s[i].toNat : Int) != 92) = false := by rw [← nx_lt hi, h92]; decide
  have HP := Lib.hid hp
  clear hp h92
  by_cases h2 : s.size < i + 2
  · have g2 : decide ((s.size : Int) < (i : Int) + 2) = true := by simp; omega
    go_enter Tryz.func64, Tryz.ntmps64
    go_wp2_with fail
    go_quiet (fail)
    go_wp2
    go_ret2
    exact ⟨keep_drewN (Keep.refl B w) _ |>.trans (prs_errK (HP.out.drew _) _).1, .inl ⟨esc_short h2, ⟨_, _, _, rfl⟩, i, (prs_errK (HP.out.drew _) _).2⟩⟩
  have g2 : decide ((s.size : Int) < (i : Int) + 2) = false := by simp; omega
  have hi1 : i + 1 < s.size := by omega
  obtain ⟨x, hxe⟩ : ∃ x, nx s (i + 1) = x := ⟨_, rfl⟩
  have hxl : (s[i + 1].toNat : Int) = x := by rw [← nx_lt hi1]; exact hxe
  by_cases hnl : x = 13 ∨ x = 10 ∨ x = 12
  · have HX := Lib.hid hxe
    have hel : esc s i = none := esc_line h2 (by rw [hxe]; exact hnl)
    have HE := Lib.hid hel
    clear hel hxe
    rcases hnl with h | h | h
    all_goals subst h
    all_goals go_enter Tryz.func64, Tryz.ntmps64
    all_goals go_wp2_with fail
    all_goals go_quiet (fail)
    all_goals go_wp2
    all_goals go_ret2
    all_goals exact ⟨keep_drewN (Keep.refl B w) _ |>.trans (prs_errK (HP.out.drew _) _).1, .inl ⟨HE.out, ⟨_, _, _, rfl⟩, i, (prs_errK (HP.out.drew _) _).2⟩⟩
  have g13 : (x == 13) = false := by simp; omega
  have g10 : (x == 10) = false := by simp; omega
  have g12 : (x == 12) = false := by simp; omega
  have hnl' : ¬ (nx s (i + 1) = 13 ∨ nx s (i + 1) = 10 ∨ nx s (i + 1) = 12) := by rw [hxe]; exact hnl
  clear hnl
  cases hhx : isHx x
  · have hel := esc_lit h2 hnl' (by rw [hxe]; exact hhx)
    have HE := Lib.hid (And.intro hel hhx)
    clear hel hhx hnl' hxe
    go_enter Tryz.func64, Tryz.ntmps64
    go_wp2_with fail
    go_quiet (fail)
    go_wp2_with (go_at_call 72; refine (hexDigit_is HE.out.2 _).mono ?_; rintro e w2 ⟨rfl, rfl⟩)
    go_ret2
    exact ⟨World.objAt.setKeep (HP.out.drew _) 1 _ (keep_drewN (Keep.refl B w) _) (Nat.le_refl _), .inr ⟨_, _, HE.out.1, rfl, (HP.out.drew _).at (i + 2), by omega⟩⟩
  · have hx' : isHx (nx s (i + 1)) = true := by rw [hxe]; exact hhx
    have HC := Lib.hid (And.intro hnl' (And.intro hx' hhx))
    clear hnl' hx' hxe hhx
    go_enter Tryz.func64, Tryz.ntmps64
    go_wp2_with fail
    go_quiet (fail)
    go_wp2_with (go_at_call 72; refine (hexDigit_is HC.out.2.2 _).mono ?_; rintro e w2 ⟨rfl, rfl⟩)
    go_loopw [6] (fun v wr => ∃ j : Nat, v = .int .i64 (j : Int) ∧ i + 1 ≤ j ∧ j ≤ i + 7 ∧ j ≤ s.size ∧ (∀ m, m < j - (i + 1) → isHx (nx s (i + 1 + m)) = true) ∧ Prs d wr B s i ∧ Keep B w wr) (fun v _ => i + 7 - (intOf v).toNat)
    case atStart => exact ⟨i + 1, by go_num, by omega, by omega, by omega, fun m hm => absurd hm (by omega), HP.out.drew _, keep_drewN (Keep.refl B w) _⟩
    case round =>
      obtain ⟨j, rfl, hj1, hj7, hjs, hall, hp', hb'⟩ := hrel
      have c0' : wr.cell? ⟨B, 0, none⟩ = some (.string s) := World.objAt.cell hp' (i := 0) rfl
      have c1' : wr.cell? ⟨B, 1, none⟩ = some (.int .i64 (i : Int)) := World.objAt.cell hp' (i := 1) rfl
      have f1' : wr.frozen? ⟨B, 1, none⟩ = false := World.objAt.free hp' 1
      have HALL := Lib.hid hall
      have HP' := Lib.hid hp'
      have HB' := Lib.hid hb'
      clear hall hp' hb'
      by_cases h7 : j < i + 7
      · have g7 : decide ((j : Int) < (i : Int) + 1 + 6) = true := by simp; omega
        by_cases hjz : j < s.size
        · have gz : decide ((j : Int) < (s.size : Int)) = true := by simp [hjz]
          have gzn : decide (j < s.size) = true := by simp [hjz]
          obtain ⟨b, hbj⟩ : ∃ b, isHx (nx s j) = b := ⟨_, rfl⟩
          have hbj' : isHx (s[j].toNat : Int) = b := by rw [← nx_lt hjz]; exact hbj
          have HBJ := Lib.hid (And.intro hbj hbj')
          clear hbj hbj'
          cases b
          · skip
            have hN : hexN s (i + 1) 6 = j - (i + 1) := (by
              have h1 := hexN_of (s := s) (st := i + 1) (j - (i + 1)) HALL.out
              have h2 := hexN_stop h1 (by rw [show i + 1 + (j - (i + 1)) = j by omega]; exact HBJ.out.1) (6 - (j - (i + 1)))
              rwa [show j - (i + 1) + (6 - (j - (i + 1))) = 6 by omega] at h2)
            have hjl : i + 1 < j := by
              rcases Nat.lt_or_ge (i + 1) j with h | h
              · exact h
              · obtain rfl : j = i + 1 := by omega
                rw [Nat.sub_self] at hN
                have h1 := hexN_of (s := s) (st := i + 1) 1 (fun m hm => by rw [show i + 1 + m = i + 1 by omega]; exact HC.out.2.1)
                have h2 := hexN_mono s (i + 1) 1 5
                rw [h1, show 1 + 5 = 6 from rfl, hN] at h2
                omega
            have he := esc_hex (by omega) HC.out.1 HC.out.2.1 hN
            have hle : hexVal s (i + 1) (j - (i + 1)) < 16777216 := Nat.lt_of_lt_of_le (hexVal_lt s (i + 1) (j - (i + 1)) HALL.out) (by
              have : (16 : Nat) ^ (j - (i + 1)) ≤ 16 ^ 6 := Nat.pow_le_pow_right (by decide) (by omega)
              simpa using this)
            rw [show i + 1 + (j - (i + 1)) = j by omega] at he
            obtain ⟨v, hv⟩ : ∃ v, hexVal s (i + 1) (j - (i + 1)) = v := ⟨_, rfl⟩
            rw [hv] at he hle
            have hpu := fun w' => parseUint_is s (i + 1) j (by omega) hjl (by omega) HALL.out w'
            rw [hv] at hpu
            have HPU := Lib.hid hpu
            have HE := Lib.hid he
            clear hN hv hpu he
            go_wp2_with (first | (go_at_call 72; refine (hexDigit_is HBJ.out.2 _).mono ?_; rintro e w2 ⟨rfl, rfl⟩) | (go_at_call 73; refine (HPU.out _).mono ?_; rintro e w' ⟨rfl, hb⟩; have hp' : Prs d w' B s i := World.objAt.below HP'.out hb (World.objAt.lt HP'.out); have c0' : w'.cell? ⟨B, 0, none⟩ = some (.string s) := World.objAt.cell hp' (i := 0) rfl; have c1' : w'.cell? ⟨B, 1, none⟩ = some (.int .i64 (i : Int)) := World.objAt.cell hp' (i := 1) rfl; have f1' : w'.frozen? ⟨B, 1, none⟩ = false := World.objAt.free hp' 1; have HQ := Lib.hid (And.intro hp' (HB'.out.trans (Keep.of hb (Nat.le_of_lt (World.objAt.lt HP'.out))))); clear hp' hb))
            all_goals go_ret2
            all_goals first
              | exact esc_finK (k := j + 2) HQ.out HE.out (ws_2 (by assumption) (by assumption) (by assumption) (by assumption)) (by omega)
              | exact esc_finK (k := j + 1) HQ.out HE.out (ws_1a (by assumption) (by assumption) (by assumption) (by assumption)) (by omega)
              | exact esc_finK (k := j + 1) HQ.out HE.out (ws_1b (by assumption) (by assumption) (by assumption)) (by omega)
              | exact esc_finK (k := j + 1) HQ.out HE.out (ws_1 (by assumption) (.inl (by assumption))) (by omega)
              | exact esc_finK (k := j + 1) HQ.out HE.out (ws_1 (by assumption) (.inr (.inl (by assumption)))) (by omega)
              | exact esc_finK (k := j + 1) HQ.out HE.out (ws_1 (by assumption) (.inr (.inr (.inl (by assumption))))) (by omega)
              | exact esc_finK (k := j + 1) HQ.out HE.out (ws_1 (by assumption) (.inr (.inr (.inr (by assumption))))) (by omega)
              | exact esc_finK (k := j) HQ.out HE.out (ws_0 (by assumption) (by assumption) (by assumption) (by assumption) (by assumption) (by assumption)) (by omega)
              | exact esc_finK (k := j) HQ.out HE.out (ws_end (by omega)) (by omega)
          · go_wp2_with (go_at_call 72; refine (hexDigit_is HBJ.out.2 _).mono ?_; rintro e w2 ⟨rfl, rfl⟩)
            go_roundw
            case rel => exact ⟨j + 1, by go_num, by omega, by omega, by omega, (fun m hm => by
              by_cases hmj : m < j - (i + 1)
              · exact HALL.out m hmj
              · obtain rfl : m = j - (i + 1) := by omega
                rw [show i + 1 + (j - (i + 1)) = j by omega]
                exact HBJ.out.1), HP'.out, HB'.out⟩
            case measure => simp [intOf]; omega
        · have gz : decide ((j : Int) < (s.size : Int)) = false := by simp; omega
          have gzn : decide (j < s.size) = false := by simp; omega
          have hN : hexN s (i + 1) 6 = j - (i + 1) := (by
            have h1 := hexN_of (s := s) (st := i + 1) (j - (i + 1)) HALL.out
            have h2 := hexN_stop h1 (by rw [show i + 1 + (j - (i + 1)) = j by omega]; exact (by rw [nx_end (show s.size ≤ j by omega)]; decide)) (6 - (j - (i + 1)))
            rwa [show j - (i + 1) + (6 - (j - (i + 1))) = 6 by omega] at h2)
          have hjl : i + 1 < j := by
            rcases Nat.lt_or_ge (i + 1) j with h | h
            · exact h
            · obtain rfl : j = i + 1 := by omega
              rw [Nat.sub_self] at hN
              have h1 := hexN_of (s := s) (st := i + 1) 1 (fun m hm => by rw [show i + 1 + m = i + 1 by omega]; exact HC.out.2.1)
              have h2 := hexN_mono s (i + 1) 1 5
              rw [h1, show 1 + 5 = 6 from rfl, hN] at h2
              omega
          have he := esc_hex (by omega) HC.out.1 HC.out.2.1 hN
          have hle : hexVal s (i + 1) (j - (i + 1)) < 16777216 := Nat.lt_of_lt_of_le (hexVal_lt s (i + 1) (j - (i + 1)) HALL.out) (by
            have : (16 : Nat) ^ (j - (i + 1)) ≤ 16 ^ 6 := Nat.pow_le_pow_right (by decide) (by omega)
            simpa using this)
          rw [show i + 1 + (j - (i + 1)) = j by omega] at he
          obtain ⟨v, hv⟩ : ∃ v, hexVal s (i + 1) (j - (i + 1)) = v := ⟨_, rfl⟩
          rw [hv] at he hle
          have hpu := fun w' => parseUint_is s (i + 1) j (by omega) hjl (by omega) HALL.out w'
          rw [hv] at hpu
          have HPU := Lib.hid hpu
          have HE := Lib.hid he
          clear hN hv hpu he
          go_wp2_with (go_at_call 73; refine (HPU.out _).mono ?_; rintro e w' ⟨rfl, hb⟩; have hp' : Prs d w' B s i := World.objAt.below HP'.out hb (World.objAt.lt HP'.out); have c0' : w'.cell? ⟨B, 0, none⟩ = some (.string s) := World.objAt.cell hp' (i := 0) rfl; have c1' : w'.cell? ⟨B, 1, none⟩ = some (.int .i64 (i : Int)) := World.objAt.cell hp' (i := 1) rfl; have f1' : w'.frozen? ⟨B, 1, none⟩ = false := World.objAt.free hp' 1; have HQ := Lib.hid (And.intro hp' (HB'.out.trans (Keep.of hb (Nat.le_of_lt (World.objAt.lt HP'.out))))); clear hp' hb)
          all_goals go_ret2
          all_goals first
            | exact esc_finK (k := j + 2) HQ.out HE.out (ws_2 (by assumption) (by assumption) (by assumption) (by assumption)) (by omega)
            | exact esc_finK (k := j + 1) HQ.out HE.out (ws_1a (by assumption) (by assumption) (by assumption) (by assumption)) (by omega)
            | exact esc_finK (k := j + 1) HQ.out HE.out (ws_1b (by assumption) (by assumption) (by assumption)) (by omega)
            | exact esc_finK (k := j + 1) HQ.out HE.out (ws_1 (by assumption) (.inl (by assumption))) (by omega)
            | exact esc_finK (k := j + 1) HQ.out HE.out (ws_1 (by assumption) (.inr (.inl (by assumption)))) (by omega)
            | exact esc_finK (k := j + 1) HQ.out HE.out (ws_1 (by assumption) (.inr (.inr (.inl (by assumption))))) (by omega)
            | exact esc_finK (k := j + 1) HQ.out HE.out (ws_1 (by assumption) (.inr (.inr (.inr (by assumption))))) (by omega)
            | exact esc_finK (k := j) HQ.out HE.out (ws_0 (by assumption) (by assumption) (by assumption) (by assumption) (by assumption) (by assumption)) (by omega)
            | exact esc_finK (k := j) HQ.out HE.out (ws_end (by omega)) (by omega)
      · have g7 : decide ((j : Int) < (i : Int) + 1 + 6) = false := by simp; omega
        have hN : hexN s (i + 1) 6 = j - (i + 1) := (by
          have h1 := hexN_of (s := s) (st := i + 1) (j - (i + 1)) HALL.out
          rwa [show j - (i + 1) = 6 by omega] at h1 ⊢)
        have hjl : i + 1 < j := by
          rcases Nat.lt_or_ge (i + 1) j with h | h
          · exact h
          · obtain rfl : j = i + 1 := by omega
            rw [Nat.sub_self] at hN
            have h1 := hexN_of (s := s) (st := i + 1) 1 (fun m hm => by rw [show i + 1 + m = i + 1 by omega]; exact HC.out.2.1)
            have h2 := hexN_mono s (i + 1) 1 5
            rw [h1, show 1 + 5 = 6 from rfl, hN] at h2
            omega
        have he := esc_hex (by omega) HC.out.1 HC.out.2.1 hN
        have hle : hexVal s (i + 1) (j - (i + 1)) < 16777216 := Nat.lt_of_lt_of_le (hexVal_lt s (i + 1) (j - (i + 1)) HALL.out) (by
          have : (16 : Nat) ^ (j - (i + 1)) ≤ 16 ^ 6 := Nat.pow_le_pow_right (by decide) (by omega)
          simpa using this)
        rw [show i + 1 + (j - (i + 1)) = j by omega] at he
        obtain ⟨v, hv⟩ : ∃ v, hexVal s (i + 1) (j - (i + 1)) = v := ⟨_, rfl⟩
        rw [hv] at he hle
        have hpu := fun w' => parseUint_is s (i + 1) j (by omega) hjl (by omega) HALL.out w'
        rw [hv] at hpu
        have HPU := Lib.hid hpu
        have HE := Lib.hid he
        clear hN hv hpu he
        go_wp2_with (go_at_call 73; refine (HPU.out _).mono ?_; rintro e w' ⟨rfl, hb⟩; have hp' : Prs d w' B s i := World.objAt.below HP'.out hb (World.objAt.lt HP'.out); have c0' : w'.cell? ⟨B, 0, none⟩ = some (.string s) := World.objAt.cell hp' (i := 0) rfl; have c1' : w'.cell? ⟨B, 1, none⟩ = some (.int .i64 (i : Int)) := World.objAt.cell hp' (i := 1) rfl; have f1' : w'.frozen? ⟨B, 1, none⟩ = false := World.objAt.free hp' 1; have HQ := Lib.hid (And.intro hp' (HB'.out.trans (Keep.of hb (Nat.le_of_lt (World.objAt.lt HP'.out))))); clear hp' hb)
        all_goals go_ret2
        all_goals first
          | exact esc_finK (k := j + 2) HQ.out HE.out (ws_2 (by assumption) (by assumption) (by assumption) (by assumption)) (by omega)
          | exact esc_finK (k := j + 1) HQ.out HE.out (ws_1a (by assumption) (by assumption) (by assumption) (by assumption)) (by omega)
          | exact esc_finK (k := j + 1) HQ.out HE.out (ws_1b (by assumption) (by assumption) (by assumption)) (by omega)
          | exact esc_finK (k := j + 1) HQ.out HE.out (ws_1 (by assumption) (.inl (by assumption))) (by omega)
          | exact esc_finK (k := j + 1) HQ.out HE.out (ws_1 (by assumption) (.inr (.inl (by assumption)))) (by omega)
          | exact esc_finK (k := j + 1) HQ.out HE.out (ws_1 (by assumption) (.inr (.inr (.inl (by assumption))))) (by omega)
          | exact esc_finK (k := j + 1) HQ.out HE.out (ws_1 (by assumption) (.inr (.inr (.inr (by assumption))))) (by omega)
          | exact esc_finK (k := j) HQ.out HE.out (ws_0 (by assumption) (by assumption) (by assumption) (by assumption) (by assumption) (by assumption)) (by omega)
          | exact esc_finK (k := j) HQ.out HE.out (ws_end (by omega)) (by omega)
variable {d : Int}
/-- Nothing to skip. -/
def NoWs (s : ByteArray) (i : Nat) : Prop := nx s i ≠ 32 ∧ nx s i ≠ 9 ∧ nx s i ≠ 13 ∧ nx s i ≠ 10 ∧ nx s i ≠ 12 ∧ nx s i ≠ 47
/-- n spaces are skipped. -/
def SkipPost (d : Int) (s : ByteArray) (B i n : Nat) (w : World) (e : Ending) (w' : World) : Prop :=
  e = .returned (.bool (decide (0 < n))) ∧ Hid (Prs d w' B s (i + n)) ∧ Hid (Keep B w w')
set_option maxRecDepth 100000 in
set_option maxHeartbeats 8000000 in
theorem skipWs_any (s : ByteArray) (B i n : Nat) (w : World) (hs : s.size ≤ 9000) (h : Prs d w B s i) (hin : i + n ≤ s.size) (hsp : ∀ j, j < n → nx s (i + j) = 32) (hno : NoWs s (i + n)) :
    Calls Tryz.prog 32 #[.pointer (some ⟨B, 0, none⟩)] w (SkipPost d s B i n w) := by
  have c1 : w.cell? ⟨B, 1, none⟩ = some (.int .i64 (i : Int)) := World.objAt.cell h (i := 1) rfl
  have HW := Lib.hid h
  have HSP := Lib.hid hsp
  have HNO := Lib.hid hno
  clear h hsp hno
  go_enter Tryz.func32, Tryz.ntmps32
  go_wp2
  go_loopw [3] (fun v wr => ∃ k : Nat, v = .int .i64 ((i + k : Nat) : Int) ∧ k ≤ n ∧ Hid (Prs d wr B s i) ∧ Hid (Keep B w wr)) (fun v _ => i + n - (intOf v).toNat)
  case atStart => exact ⟨0, by go_num, by omega, HW, Lib.hid (Keep.refl _ _)⟩
  case round =>
    obtain ⟨k, rfl, hk, HP, HB⟩ := hrel
    have hp := HP.out
    have c0 : wr.cell? ⟨B, 0, none⟩ = some (.string s) := World.objAt.cell hp (i := 0) rfl
    have c1 : wr.cell? ⟨B, 1, none⟩ = some (.int .i64 (i : Int)) := World.objAt.cell hp (i := 1) rfl
    have f1 : wr.frozen? ⟨B, 1, none⟩ = false := World.objAt.free hp 1
    clear hp
    obtain ⟨p, hpk⟩ : ∃ p, i + k = p := ⟨_, rfl⟩
    have HPK := Lib.hid hpk
    rw [hpk]
    by_cases hlt : p < s.size
    · have g0 : decide ((p : Int) < (s.size : Int)) = true := by simp [hlt]
      have g0n : decide (p < s.size) = true := by simp [hlt]
      have gle : decide ((s.size : Int) ≤ (p : Int)) = false := by simp; omega
      obtain ⟨x, hx⟩ : ∃ x, (s[p].toNat : Int) = x := ⟨_, rfl⟩
      have hxn : nx s p = x := by rw [nx_lt hlt, hx]
      by_cases hkn : k < n
      · have h32 : x = 32 := by rw [← hxn, ← hpk]; exact HSP.out k hkn
        have g1 : (x == 32) = true := by simp [h32]
        clear h32 hxn hpk
        go_wp2_with fail
        refine ⟨?rel, ?measure⟩
        case rel => exact ⟨k + 1, by have := HPK.out; go_num, by omega, HP, HB⟩
        case measure => have := HPK.out; simp [intOf]; omega
      · obtain rfl : k = n := by omega
        obtain ⟨n1, n2, n3, n4, n5, n6⟩ := HNO.out
        rw [hpk, hxn] at n1 n2 n3 n4 n5 n6
        have g1 : (x == 32) = false := by simp [n1]
        have g2 : (x == 9) = false := by simp [n2]
        have g3 : (x == 13) = false := by simp [n3]
        have g4 : (x == 10) = false := by simp [n4]
        have g5 : (x == 12) = false := by simp [n5]
        have g6 : (x == 47) = false := by simp [n6]
        clear n1 n2 n3 n4 n5 n6 hxn hpk
        rcases Nat.eq_zero_or_pos k with h0 | h0
        · have hgt : decide ((i : Int) < (p : Int)) = false := by have := HPK.out; simp; omega
          have hgtn : decide (i < p) = false := by have := HPK.out; simp; omega
          have hpi : p = i := by have := HPK.out; omega
          have HR := Lib.hid (show SkipPost d s B i k w (.returned (.bool false)) wr from ⟨by rw [h0]; rfl, by rw [h0]; exact HP, HB⟩)
          clear h0 hpi
          go_wp2
          go_ret
          exact HR.out
        · have hgt : decide ((i : Int) < (p : Int)) = true := by have := HPK.out; simp; omega
          have hgtn : decide (i < p) = true := by have := HPK.out; simp; omega
          have HD := Lib.hid (show decide (0 < k) = true by simpa using h0)
          clear h0
          go_wp2
          go_ret
          exact ⟨by rw [HD.out]; rfl, Lib.hid (by have h5 := HP.out.at p; rw [HPK.out]; exact h5), Lib.hid (World.objAt.setKeep HP.out 1 _ HB.out (Nat.le_refl _))⟩
    · have hps : p = s.size := by omega
      have g0 : decide ((p : Int) < (s.size : Int)) = false := by simp; omega
      have g0n : decide (p < s.size) = false := by simp; omega
      have gle : decide ((s.size : Int) ≤ (p : Int)) = true := by simp; omega
      have hkn : k = n := by omega
      have HKN := Lib.hid hkn
      clear hkn hps hpk
      rcases Nat.eq_zero_or_pos k with h0 | h0
      · have hgt : decide ((i : Int) < (p : Int)) = false := by have := HPK.out; simp; omega
        have hgtn : decide (i < p) = false := by have := HPK.out; simp; omega
        have HR := Lib.hid (show SkipPost d s B i n w (.returned (.bool false)) wr from ⟨by rw [← HKN.out, h0]; rfl, by rw [← HKN.out, h0]; exact HP, HB⟩)
        clear h0
        go_wp2
        go_ret
        exact HR.out
      · have hgt : decide ((i : Int) < (p : Int)) = true := by have := HPK.out; simp; omega
        have hgtn : decide (i < p) = true := by have := HPK.out; simp; omega
        have HD := Lib.hid (show decide (0 < n) = true by rw [← HKN.out]; simpa using h0)
        clear h0
        go_wp2
        go_ret
        exact ⟨by rw [HD.out]; rfl, Lib.hid (by have h5 := HP.out.at p; rw [← HKN.out, HPK.out]; exact h5), Lib.hid (World.objAt.setKeep HP.out 1 _ HB.out (Nat.le_refl _))⟩
/-- A sign is consumed. -/
def TookPost (d : Int) (s : ByteArray) (B j : Nat) (w : World) (e : Ending) (w' : World) : Prop :=
  e = .returned (.bool true) ∧ Hid (Prs d w' B s j) ∧ Hid (Keep B w w')
set_option maxRecDepth 100000 in
set_option maxHeartbeats 8000000 in
theorem openParen_any (s : ByteArray) (B i : Nat) (w : World) (hs : s.size ≤ 9000) (h : Prs d w B s i) (hi : i < s.size) (h40 : nx s i = 40) (hno : NoWs s (i + 1)) :
    Calls Tryz.prog 55 #[.pointer (some ⟨B, 0, none⟩)] w (TookPost d s B (i + 1) w) := by
  have c0 : w.cell? ⟨B, 0, none⟩ = some (.string s) := World.objAt.cell h (i := 0) rfl
  have c1 : w.cell? ⟨B, 1, none⟩ = some (.int .i64 (i : Int)) := World.objAt.cell h (i := 1) rfl
  have f1 : w.frozen? ⟨B, 1, none⟩ = false := World.objAt.free h 1
  have g0 : decide ((i : Int) < (s.size : Int)) = true := by simp [hi]
  have g0n : decide (i < s.size) = true := by simp [hi]
  have gle : decide ((s.size : Int) ≤ (i : Int)) = false := by simp; omega
  have g1 : ((s[i].toNat : Int) == 40) = true := by rw [← nx_lt hi, h40]; rfl
  have HW := Lib.hid h
  have HNO := Lib.hid hno
  have hsk : ∀ w', Prs d w' B s (i + 1) → Calls Tryz.prog 32 #[.pointer (some ⟨B, 0, none⟩)] w' (SkipPost d s B (i + 1) 0 w') := fun w' h' => skipWs_any s B (i + 1) 0 w' hs h' (by omega) (fun j hj => absurd hj (by omega)) hno
  have HSK := Lib.hid hsk
  clear h hno h40 hsk
  go_enter Tryz.func55, Tryz.ntmps55
  go_wp2_with fail
  go_quiet (fail)
  go_wp2_with fail
  refine (HSK.out _ ((HW.out.drew _).at (i + 1))).mono ?_
  rintro e w2 ⟨rfl, hp2, hk2⟩
  have HK2 := Lib.hid ((World.objAt.setKeep (HW.out.drew nq) 1 (.int .i64 ((i + 1 : Nat) : Int)) (keep_drewN (Keep.refl B w) nq) (Nat.le_refl _)).trans hk2.out)
  clear hk2
  go_wp2_with fail
  go_ret
  exact ⟨rfl, hp2, HK2⟩
set_option maxRecDepth 100000 in
set_option maxHeartbeats 8000000 in
theorem closeParen_any (s : ByteArray) (B i : Nat) (w : World) (hs : s.size ≤ 9000) (h : Prs d w B s i) (hi : i < s.size) (h41 : nx s i = 41) :
    Calls Tryz.prog 57 #[.pointer (some ⟨B, 0, none⟩)] w (TookPost d s B (i + 1) w) := by
  have c1 : w.cell? ⟨B, 1, none⟩ = some (.int .i64 (i : Int)) := World.objAt.cell h (i := 1) rfl
  have g0 : decide ((i : Int) < (s.size : Int)) = true := by simp [hi]
  have g0n : decide (i < s.size) = true := by simp [hi]
  have gle : decide ((s.size : Int) ≤ (i : Int)) = false := by simp; omega
  have g1 : ((s[i].toNat : Int) == 41) = true := by rw [← nx_lt hi, h41]; rfl
  have HSK := Lib.hid (skipWs_any s B i 0 w hs h (by omega) (fun j hj => absurd hj (by omega)) (by unfold NoWs; rw [Nat.add_zero, h41]; decide))
  clear h h41
  go_enter Tryz.func57, Tryz.ntmps57
  go_wp2_with fail
  refine HSK.out.mono ?_
  rintro e w2 ⟨rfl, hp2, hk2⟩
  have hp := hp2.out
  rw [Nat.add_zero] at hp
  have c0 : w2.cell? ⟨B, 0, none⟩ = some (.string s) := World.objAt.cell hp (i := 0) rfl
  have c1 : w2.cell? ⟨B, 1, none⟩ = some (.int .i64 (i : Int)) := World.objAt.cell hp (i := 1) rfl
  have f1 : w2.frozen? ⟨B, 1, none⟩ = false := World.objAt.free hp 1
  have HP := Lib.hid hp
  clear hp hp2 HSK
  go_wp2_with fail
  go_quiet (fail)
  go_wp2_with fail
  go_ret
  exact ⟨rfl, Lib.hid ((HP.out.drew _).at (i + 1)), Lib.hid (World.objAt.setKeep (HP.out.drew _) 1 _ (keep_drewN hk2.out _) (Nat.le_refl _))⟩
variable {d : Int}
theorem QRun.inv {s : ByteArray} {j k : Nat} (h : QRun s j k) : j < s.size ∧ ((nx s j = 34 ∧ j = k) ∨ (nx s j = 92 ∧ ¬ (nx s (j + 1) = 13 ∨ nx s (j + 1) = 10 ∨ nx s (j + 1) = 12) ∧ ∃ a j', esc s j = some (a, j') ∧ QRun s j' k) ∨ ((nx s j ≠ 34 ∧ nx s j ≠ 92 ∧ nx s j ≠ 13 ∧ nx s j ≠ 10 ∧ nx s j ≠ 12) ∧ QRun s (j + 1) k)) := by
  cases h with
  | stop h1 h2 => exact ⟨h1, .inl ⟨h2, rfl⟩⟩
  | back h1 h2 h3 h4 h5 => exact ⟨h1, .inr (.inl ⟨h2, h3, _, _, h4, h5⟩)⟩
  | plain h1 h2 h3 h4 h5 h6 h7 => exact ⟨h1, .inr (.inr ⟨⟨h2, h3, h4, h5, h6⟩, h7⟩)⟩
/-- A string is read; what it is, is not asked. -/
def StrRead (d : Int) (s : ByteArray) (B j : Nat) (w : World) (e : Ending) (w' : World) : Prop :=
  ∃ z, e = .returned (.tuple #[.string z, .nilIface]) ∧ z.size ≤ 40000 ∧ Hid (Prs d w' B s j) ∧ Hid (Keep B w w')
set_option maxRecDepth 100000 in
set_option maxHeartbeats 8000000 in
theorem parseString_any (s : ByteArray) (B i k : Nat) (w : World) (hs : s.size ≤ 9000) (h : Prs d w B s i) (h34 : nx s i = 34) (hq : QRun s (i + 1) k) :
    Calls Tryz.prog 54 #[.pointer (some ⟨B, 0, none⟩)] w (StrRead d s B (k + 1) w) := by
  have hqk := hq.lt
  have hi : i < s.size := by omega
  have c0 : w.cell? ⟨B, 0, none⟩ = some (.string s) := World.objAt.cell h (i := 0) rfl
  have c1 : w.cell? ⟨B, 1, none⟩ = some (.int .i64 (i : Int)) := World.objAt.cell h (i := 1) rfl
  have g2 : decide ((s.size : Int) < (i : Int) + 2) = false := by simp; omega
  have hx : (s[i].toNat : Int) = 34 := by rw [← nx_lt hi, h34]
  have HW := Lib.hid h
  have HQ := Lib.hid hq
  have hk1 := hqk.1
  have hk2 := hqk.2.1
  clear h hq h34 hqk
  go_enter Tryz.func54, Tryz.ntmps54
  go_wp2
  go_step3
  go_wp2
  go_step3
  go_wp2
  clear c0 c1 g2 hx
  go_loopw [2, 4] (fun r iv wr => ∃ (j q : Nat) (out : ByteArray), r = .string out ∧ iv = .int .i64 (j : Int) ∧ j ≤ s.size ∧ Hid (QRun s j k) ∧ Hid (Prs d wr B s q) ∧ Hid (Keep B w wr) ∧ out.size ≤ 4 * j) (fun _ iv _ => s.size - (intOf iv).toNat)
  case atStart => exact ⟨i + 1, i, ByteArray.empty, rfl, by go_num, by omega, HQ, HW, Lib.hid (Keep.refl _ _), by simp⟩
  case round =>
    obtain ⟨j, q, out, rfl, rfl, hj, HQJ, HP, HB, hos⟩ := hrel
    have hp := HP.out
    have c0 : wr.cell? ⟨B, 0, none⟩ = some (.string s) := World.objAt.cell hp (i := 0) rfl
    have c1 : wr.cell? ⟨B, 1, none⟩ = some (.int .i64 (q : Int)) := World.objAt.cell hp (i := 1) rfl
    have f1 : wr.frozen? ⟨B, 1, none⟩ = false := World.objAt.free hp 1
    clear hp
    obtain ⟨hlt, hcase⟩ := HQJ.out.inv
    have hjk := HQJ.out.lt.1
    have g0 : decide ((j : Int) < (s.size : Int)) = true := by simp [hlt]
    have g0n : decide (j < s.size) = true := by simp [hlt]
    have gge : decide ((j : Int) ≥ (s.size : Int)) = false := by simp; omega
    have gle : decide ((s.size : Int) ≤ (j : Int)) = false := by simp; omega
    have glen : decide (s.size ≤ j) = false := by simp; omega
    obtain ⟨x, hx⟩ : ∃ x, (s[j].toNat : Int) = x := ⟨_, rfl⟩
    have hxn : nx s j = x := by rw [nx_lt hlt, hx]
    rcases hcase with ⟨h34, hjk2⟩ | ⟨h92, hnl, a, j', he, hq'⟩ | ⟨⟨n1, n2, n3, n4, n5⟩, hq'⟩
    · have e1 : x = 34 := hxn.symm.trans h34
      have q1 : (x == 92) = false := by rw [e1]; rfl
      have q2 : (x == 34) = true := by rw [e1]; rfl
      have HJK := Lib.hid hjk2
      clear h34 hjk2 hxn e1
      go_wp2
      rw [Exit.noGoto_ret]
      go_ret2
      exact ⟨out, rfl, by omega, Lib.hid (by rw [← HJK.out]; exact HP.out.at (j + 1)), Lib.hid (World.objAt.setKeep HP.out 1 _ HB.out (Nat.le_refl _))⟩
    · have e1 : x = 92 := hxn.symm.trans h92
      have q1 : (x == 92) = true := by rw [e1]; rfl
      have hjj := esc_lt he
      have has := esc_size he
      have hj's := hq'.lt.2.1
      have hj'k := hq'.lt.1
      have hcat : out.size + a.size ≤ 9223372036854775807 := by omega
      have hesc := fun w' h' => parseEscape_anyK (d := d) s B hs j w' hlt h92 h'
      have HESC := Lib.hid hesc
      have HE := Lib.hid (And.intro he hq')
      have hn1 : j + 1 < s.size := by omega
      obtain ⟨y, hy⟩ : ∃ y, (s[j + 1].toNat : Int) = y := ⟨_, rfl⟩
      have hyn : nx s (j + 1) = y := by rw [nx_lt hn1, hy]
      rw [hyn] at hnl
      have y1 : (y == 13) = false := by simp; omega
      have y2 : (y == 10) = false := by simp; omega
      have y3 : (y == 12) = false := by simp; omega
      have gj1 : decide ((s.size : Int) > (j : Int) + 1) = true := by simp; omega
      have gj2 : decide ((j : Int) + 1 < (s.size : Int)) = true := by simp; omega
      clear h92 hnl hxn e1 hesc he hq' hyn
      go_wp2_with fail
      refine (HESC.out _ (HP.out.at j)).mono ?_
      rintro e w3 ⟨hb3, ⟨hf, _⟩ | ⟨a', j2, he2, rfl, hp3, hjs⟩⟩
      · exfalso
        rw [HE.out.1] at hf
        cases hf
      · rw [HE.out.1] at he2
        simp only [Option.some.injEq, Prod.mk.injEq] at he2
        obtain ⟨rfl, rfl⟩ := he2
        have c0' : w3.cell? ⟨B, 0, none⟩ = some (.string s) := World.objAt.cell hp3 (i := 0) rfl
        have c1' : w3.cell? ⟨B, 1, none⟩ = some (.int .i64 (j' : Int)) := World.objAt.cell hp3 (i := 1) rfl
        have HP3 := Lib.hid hp3
        have HB3 := Lib.hid ((World.objAt.setKeep HP.out 1 (.int .i64 (j : Int)) HB.out (Nat.le_refl _)).trans hb3)
        clear hp3 hb3
        go_wp2
        refine ⟨?rel, ?measure⟩
        case rel => exact ⟨j', j', out ++ a, rfl, by go_num, hjs, Lib.hid HE.out.2, HP3, HB3, by rw [ByteArray.size_append]; omega⟩
        case measure => simp [intOf]; omega
    · rw [hxn] at n1 n2 n3 n4 n5
      have q1 : (x == 92) = false := by simp [n2]
      have q2 : (x == 34) = false := by simp [n1]
      have q3 : (x == 13) = false := by simp [n3]
      have q4 : (x == 10) = false := by simp [n4]
      have q5 : (x == 12) = false := by simp [n5]
      have hq1 := hq'.lt.1
      have HQ' := Lib.hid hq'
      clear n1 n2 n3 n4 n5 hxn hq'
      go_wp2
      go_loopw [4] (fun iv wq => ∃ m : Nat, iv = .int .i64 (m : Int) ∧ j ≤ m ∧ m ≤ s.size ∧ (m = j ∨ (j < m ∧ Hid (QRun s m k))) ∧ Hid (Prs d wq B s q) ∧ Hid (Keep B w wq)) (fun iv _ => s.size - (intOf iv).toNat)
      case atStart => exact ⟨j, by go_num, by omega, by omega, .inl rfl, HP, HB⟩
      case round =>
        obtain ⟨m, rfl, hjm, hms, hmc, HPM, HBM⟩ := hrel
        have c0' : wr.cell? ⟨B, 0, none⟩ = some (.string s) := World.objAt.cell HPM.out (i := 0) rfl
        have hinv : m < s.size ∧ (((nx s m = 34 ∨ nx s m = 92) ∧ j < m ∧ QRun s m k) ∨ ((nx s m ≠ 34 ∧ nx s m ≠ 92 ∧ nx s m ≠ 13 ∧ nx s m ≠ 10 ∧ nx s m ≠ 12) ∧ QRun s (m + 1) k)) := by
          rcases hmc with rfl | ⟨h1, h2⟩
          · exact ⟨hlt, .inr ⟨by rw [nx_lt hlt, hx]; simp only [beq_eq_false_iff_ne, ne_eq] at q1 q2 q3 q4 q5; exact ⟨q2, q1, q3, q4, q5⟩, HQ'.out⟩⟩
          · obtain ⟨h3, h4⟩ := h2.out.inv
            refine ⟨h3, ?_⟩
            rcases h4 with ⟨h5, _⟩ | ⟨h5, _⟩ | h5
            · exact .inl ⟨.inl h5, h1, h2.out⟩
            · exact .inl ⟨.inr h5, h1, h2.out⟩
            · exact .inr h5
        obtain ⟨hml, hmc2⟩ := hinv
        have k0 : decide ((m : Int) < (s.size : Int)) = true := by simp [hml]
        have k0n : decide (m < s.size) = true := by simp [hml]
        obtain ⟨y, hy⟩ : ∃ y, (s[m].toNat : Int) = y := ⟨_, rfl⟩
        have hyn : nx s m = y := by rw [nx_lt hml, hy]
        rw [hyn] at hmc2
        clear hmc
        rcases hmc2 with ⟨hy2, hjm2, hqm⟩ | ⟨⟨m1, m2, m3, m4, m5⟩, hqm⟩
        · have HQM := Lib.hid hqm
          have hcat : out.size + (s.extract j m).size ≤ 9223372036854775807 := by rw [ByteArray.size_extract]; omega
          clear hqm hyn
          rcases hy2 with e1 | e1
          · have p1 : (y == 34) = true := by rw [e1]; rfl
            clear e1
            go_wp2
            refine ⟨?rel, ?measure⟩
            case rel => exact ⟨m, q, out ++ s.extract j m, rfl, by go_num, by omega, HQM, HPM, HBM, by rw [ByteArray.size_append, ByteArray.size_extract]; omega⟩
            case measure => simp [intOf]; omega
          · have p1 : (y == 34) = false := by rw [e1]; rfl
            have p2 : (y == 92) = true := by rw [e1]; rfl
            clear e1
            go_wp2
            refine ⟨?rel, ?measure⟩
            case rel => exact ⟨m, q, out ++ s.extract j m, rfl, by go_num, by omega, HQM, HPM, HBM, by rw [ByteArray.size_append, ByteArray.size_extract]; omega⟩
            case measure => simp [intOf]; omega
        · have p1 : (y == 34) = false := by simp [m1]
          have p2 : (y == 92) = false := by simp [m2]
          have p3 : (y == 13) = false := by simp [m3]
          have p4 : (y == 10) = false := by simp [m4]
          have p5 : (y == 12) = false := by simp [m5]
          have HQM := Lib.hid hqm
          clear m1 m2 m3 m4 m5 hyn hqm
          go_wp2
          go_roundw
          case rel => exact ⟨m + 1, by go_num, by omega, by omega, .inr ⟨by omega, HQM⟩, HPM, HBM⟩
          case measure => simp [intOf]; omega
end Go.Proofs.YtoanofdomhnafaaGreatDoor
