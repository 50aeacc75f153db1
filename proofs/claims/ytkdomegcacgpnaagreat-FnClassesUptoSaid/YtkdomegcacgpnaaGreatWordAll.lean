/- spec.WordsOf, of a long text. spec.Word, spec.Printable. (Printed by gen_u.py.) laws.zzFits8 (how many), printable names. (Printed by gen_u.py.) -/
import Derived.Test.YtkdomegcacgpnaaGreatAttrsAll
import Derived.Test.YtkdomegcacgpnaaGreatTrimAll
import Derived.Test.YtkdomegcacgpnaaGreatUClsText
namespace Go.Proofs.YtkdomegcacgpnaaGreat
open Go.RowKit
set_option linter.unusedVariables false
set_option linter.unusedSimpArgs false

set_option maxRecDepth 100000 in
set_option maxHeartbeats 2000000 in
theorem wordsOf_big (s : ByteArray) (w : World) (hs : s.size ≤ 8000000000000) : Calls Tryz.prog 23 #[.string s] w (WordsPost s w) := by
  obtain ⟨i0, hi, hz0, hz1, hz2⟩ := info_parts str_info'
  go_enter Tryz.func23, Tryz.ntmps23
  go_wp2
  go_loopw [3, 4, 5] (fun x f i wr => ∃ (k m : Nat) (ws : List ByteArray), i = .int .i64 (k : Int) ∧ f = .int .i64 (m : Int) ∧ k ≤ s.size + 1 ∧ m ≤ k ∧ ws.length ≤ k ∧ wst s k = (m, ws) ∧ OwnStrs wr w.heap.size x ws ∧ Below w.heap.size w wr)
    (fun _ _ i _ => s.size + 1 - (intOf i).toNat)
  case atStart => exact ⟨0, 0, [], by go_num, by go_num, by omega, by omega, by simp, rfl, World.ownsRow_nil _ _ _ _, Below.refl _ _⟩
  case round =>
    obtain ⟨k, m, ws, rfl, rfl, hk, hmk, hwl, hst, hown, hbel⟩ := hrel
    have HST := Lib.hid hst
    clear hst
    have HOWN := Lib.hid hown
    have HBEL := Lib.hid hbel
    clear hown hbel
    by_cases hle : k ≤ s.size
    · by_cases hlt : k < s.size
      · go_wp2_with fail
        refine (space_any _ _).mono ?_
        rintro e w2 ⟨rfl, rfl⟩
        obtain ⟨b, hbs⟩ : ∃ b, spaceI (s[k].toNat : Int) = b := ⟨_, rfl⟩
        rw [hbs]
        have HBS := Lib.hid (show b = isSp (s[k].toNat : Int) from hbs.symm)
        clear hbs
        cases b
        · go_wp2
          go_roundw
          case rel => exact ⟨k + 1, m, ws, by go_num, rfl, by omega, by omega, by omega, wst_word HST.out hlt HBS.out.symm, HOWN.out, HBEL.out⟩
          case measure => simp [intOf]; omega
        · skip
          by_cases hfm : m < k
          · have hfI : (m : Int) < (k : Int) := by omega
            have gf : decide ((m : Int) < (k : Int)) = true := decide_eq_true hfI
            have hown' : wr.ownsRow w.heap.size 9 1 u3 ws.length (ws.map .string) := HOWN.out
            go_wp2_with (at_builtin; refine wpList_append_own _ rfl _ _ 24 rfl w.heap.size 9 i0 (.string ByteArray.empty) 1 16 Tryz.underlying24 hi hz0 hz1 hz2 rfl (by decide) _ _ _ rfl (hown'.alloc _) ⟨wr.heap.size, 0, none⟩ 1 1 [.string (s.extract m k)] rfl rfl ?c1A ?c2A ?c3A ?c4A ?c5A ?_)
            case c1A =>
              intro j u hj
              match j, hj with
              | 0, hj => simp at hj; subst hj; simp [Addr.add]
            case c2A => first | rfl | (intro u hu; simp at hu; subst hu; rfl)
            case c3A => unfold maxLen; omega
            case c4A => omega
            case c5A => have := HBEL.out.size; simp; omega
            intro v' w3 hown3 hgrow _
            have hbel3 : Below w.heap.size w w3 := (HBEL.out.alloc HBEL.out.size _).grown hgrow (by have := HBEL.out.size; simp; omega) (fun q hq => (World.ownsRow.lt hown' q hq).1)
            have hsn : OwnStrs w3 w.heap.size v' (ws ++ [s.extract m k]) := by unfold OwnStrs; simpa using hown3
            have H3 := Lib.hid (And.intro hsn hbel3)
            clear hown3 hgrow hbel3 hsn hown'
            go_wp2
            go_roundw
            case rel => exact ⟨k + 1, k + 1, ws ++ [s.extract m k], by go_num, by go_num, by omega, by omega, by simp; omega, by rw [wst_cut HST.out hlt HBS.out.symm, if_pos hfm], H3.out.1, H3.out.2⟩
            case measure => simp [intOf]; omega
          · have gf : decide ((m : Int) < (k : Int)) = false := by simp; omega
            go_wp2
            go_roundw
            case rel => exact ⟨k + 1, k + 1, ws, by go_num, by go_num, by omega, by omega, by omega, by rw [wst_cut HST.out hlt HBS.out.symm, if_neg hfm], HOWN.out, HBEL.out⟩
            case measure => simp [intOf]; omega
      · obtain rfl : k = s.size := by omega
        clear hlt
        by_cases hfm : m < s.size
        · have hfI : (m : Int) < (s.size : Int) := by omega
          have gf : decide ((m : Int) < (s.size : Int)) = true := decide_eq_true hfI
          have hown' : wr.ownsRow w.heap.size 9 1 u3 ws.length (ws.map .string) := HOWN.out
          go_wp2_with (at_builtin; refine wpList_append_own _ rfl _ _ 24 rfl w.heap.size 9 i0 (.string ByteArray.empty) 1 16 Tryz.underlying24 hi hz0 hz1 hz2 rfl (by decide) _ _ _ rfl (hown'.alloc _) ⟨wr.heap.size, 0, none⟩ 1 1 [.string (s.extract m s.size)] rfl rfl ?c1B ?c2B ?c3B ?c4B ?c5B ?_)
          case c1B =>
            intro j u hj
            match j, hj with
            | 0, hj => simp at hj; subst hj; simp [Addr.add]
          case c2B => first | rfl | (intro u hu; simp at hu; subst hu; rfl)
          case c3B => unfold maxLen; omega
          case c4B => omega
          case c5B => have := HBEL.out.size; simp; omega
          intro v' w3 hown3 hgrow _
          have hbel3 : Below w.heap.size w w3 := (HBEL.out.alloc HBEL.out.size _).grown hgrow (by have := HBEL.out.size; simp; omega) (fun q hq => (World.ownsRow.lt hown' q hq).1)
          have hsn : OwnStrs w3 w.heap.size v' (ws ++ [s.extract m s.size]) := by unfold OwnStrs; simpa using hown3
          have H3 := Lib.hid (And.intro hsn hbel3)
          clear hown3 hgrow hbel3 hsn hown'
          go_wp2
          go_roundw
          case rel => exact ⟨s.size + 1, s.size + 1, ws ++ [s.extract m s.size], by go_num, by go_num, by omega, by omega, by simp; omega, by rw [wst_end HST.out, if_pos hfm], H3.out.1, H3.out.2⟩
          case measure => simp [intOf] <;> omega
        · have gf : decide ((m : Int) < (s.size : Int)) = false := by simp; omega
          go_wp2
          go_roundw
          case rel => exact ⟨s.size + 1, s.size + 1, ws, by go_num, by go_num, by omega, by omega, by omega, by rw [wst_end HST.out, if_neg hfm], HOWN.out, HBEL.out⟩
          case measure => simp [intOf] <;> omega
    · obtain rfl : k = s.size + 1 := by omega
      have hw : ws = wordsF s := by unfold wordsF; rw [HST.out]
      have HO : Hid (OwnStrs wr w.heap.size u3 (wordsF s)) := by rw [← hw]; exact HOWN
      clear hw
      go_wp2
      go_ret
      exact ⟨_, rfl, HO, HBEL⟩

end Go.Proofs.YtkdomegcacgpnaaGreat

namespace Go.Proofs.YtkdomegcacgpnaaGreat
open Go.RowKit
set_option linter.unusedVariables false
set_option linter.unusedSimpArgs false

/-- A yes that says something. -/
def Tells (P : Prop) (w : World) (e : Ending) (w' : World) : Prop := ∃ b : Bool, e = .returned (.bool b) ∧ Hid (b = true ↔ P) ∧ Hid (Below w.heap.size w w')

theorem wordsF_get {s : ByteArray} {x : ByteArray} {k : Nat} (hk : k < (wordsF s).length) (h : ((wordsF s).getD k ByteArray.empty).toList = x.toList) : x.data.toList ∈ wl s.data.toList := by
  rw [← wordsF_mem]
  have e : (wordsF s).getD k ByteArray.empty = x := by
    rw [ByteArray.toList_eq, ByteArray.toList_eq] at h
    have := congrArg ofL h
    rwa [ofL_of, ofL_of] at this
  rw [← e, List.getD_eq_getElem?_getD, List.getElem?_eq_getElem hk]
  exact List.getElem_mem hk

set_option maxRecDepth 100000 in
set_option maxHeartbeats 1000000 in
theorem word_any (s x : ByteArray) (w : World) (hs : s.size ≤ 8000000000000) :
    Calls Tryz.prog 11 #[.string s, .string x] w (Tells (x.data.toList ∈ wl s.data.toList) w) := by
  have hwl := wordsF_len s
  have HWO := Lib.hid (wordsOf_big s w hs)
  go_enter Tryz.func11, Tryz.ntmps11
  go_wp2_with fail
  refine HWO.out.mono ?_
  rintro e w1 ⟨v, rfl, ho, hb⟩
  obtain ⟨a, cap, rfl, hcap, hcells⟩ := ho.out.open
  have HC := Lib.hid hcells.2
  have HM := Lib.hid (fun (k : Nat) (hk : k < (wordsF s).length) => wordsF_get (x := x) hk)
  have HEQ := Lib.hid (wordsF_mem s x)
  clear ho hcells
  obtain ⟨ws, hws⟩ : ∃ ws, wordsF s = ws := ⟨_, rfl⟩
  rw [hws] at hwl HC hcap HM HEQ ⊢
  clear hws HWO
  go_wp2
  go_loop [6] (fun i => ∃ k : Nat, k ≤ ws.length ∧ i = .int .i64 (k : Int) ∧ ∀ j, j < k → (ws.getD j ByteArray.empty).toList ≠ x.toList) (fun i => ws.length - (intOf i).toNat)
  case atStart => exact ⟨0, by omega, by go_num, fun j h => by omega⟩
  case round =>
    obtain ⟨k, hk, rfl, hno⟩ := hrel
    have HNO := Lib.hid hno
    clear hno
    by_cases hlt : k < ws.length
    · obtain ⟨b, off, rfl, hc⟩ := HC.out (by omega)
      have ck := hc k hlt
      have hm := HM.out k hlt
      have hnn : (ws.getD k ByteArray.empty).toList ≠ x.toList → ∀ j, j < k + 1 → (ws.getD j ByteArray.empty).toList ≠ x.toList := fun h j hj => by
        by_cases e : j = k
        · rw [e]; exact h
        · exact HNO.out j (by omega)
      obtain ⟨y, hy⟩ : ∃ y, ws.getD k ByteArray.empty = y := ⟨_, rfl⟩
      rw [hy] at ck hm hnn
      have hkI : (k : Int) < (ws.length : Int) := by omega
      clear hc hy
      cases hq : (y.toList == x.toList)
      · have HNN := Lib.hid (hnn (by simpa using hq))
        clear hm hnn
        go_wp2
        go_round
        case rel => exact ⟨k + 1, by omega, by go_num, HNN.out⟩
        case measure => simp [intOf]; omega
      · have HMM := Lib.hid (hm (by simpa using hq))
        clear hm hnn
        go_wp2
        go_ret
        exact ⟨true, rfl, Lib.hid ⟨fun _ => HMM.out, fun _ => rfl⟩, hb⟩
    · obtain rfl : k = ws.length := by omega
      have hnm : ¬ x.data.toList ∈ wl s.data.toList := fun h => by
        rw [← HEQ.out] at h
        obtain ⟨j, hj, e⟩ := List.getElem_of_mem h
        refine HNO.out j hj ?_
        rw [List.getD_eq_getElem?_getD, List.getElem?_eq_getElem hj, ← e]
        rfl
      have HNM := Lib.hid hnm
      clear hnm hlt
      go_wp2
      go_ret
      exact ⟨false, rfl, Lib.hid ⟨fun h => (by cases h), fun h => absurd h HNM.out⟩, hb⟩

/-- Printable bytes. -/
def printB (b : UInt8) : Prop := 32 < b.toNat ∧ b.toNat ≤ 126
instance (b : UInt8) : Decidable (printB b) := by unfold printB; infer_instance
def printF (s : ByteArray) : Bool := decide (s.data.toList ≠ [] ∧ ∀ b ∈ s.data.toList, printB b)
theorem printF_no {s : ByteArray} {b : UInt8} (hb : b ∈ s.data.toList) (h : ¬ printB b) : printF s = false := decide_eq_false fun e => h (e.2 b hb)
theorem byte_mem {s : ByteArray} {k : Nat} (h : k < s.size) : s[k] ∈ s.data.toList := by
  rw [Array.mem_toList_iff]
  exact Array.getElem_mem (by exact h)

set_option maxRecDepth 100000 in
set_option maxHeartbeats 1000000 in
theorem printable_any (s : ByteArray) (w : World) (hs : s.size ≤ 9223372036854775807) :
    Calls Tryz.prog 111 #[.string s] w (BoolIs (printF s) w) := by
  go_enter Tryz.func111, Tryz.ntmps111
  go_wp2
  go_loop [3] (fun i => ∃ k : Nat, k ≤ s.size ∧ i = .int .i64 (k : Int) ∧ ∀ j (h : j < s.size), j < k → printB s[j]) (fun i => s.size - (intOf i).toNat)
  case atStart => exact ⟨0, by omega, by go_num, fun j _ h => by omega⟩
  case round =>
    obtain ⟨k, hk, rfl, hno⟩ := hrel
    have HNO := Lib.hid hno
    clear hno
    by_cases hlt : k < s.size
    · have hkI : (k : Int) < (s.size : Int) := by omega
      by_cases h1 : 32 < s[k].toNat
      · have e1 : decide ((s[k].toNat : Int) ≤ 32) = false := by simp; omega
        have e1n : decide (s[k].toNat ≤ 32) = false := by simp; omega
        by_cases h2 : s[k].toNat ≤ 126
        · have e2 : decide ((126 : Int) < (s[k].toNat : Int)) = false := by simp; omega
          have e2n : decide (126 < s[k].toNat) = false := by simp; omega
          have HNX := Lib.hid (show ∀ j (h : j < s.size), j < k + 1 → printB s[j] from fun j hj hjk => by
            by_cases e : j = k
            · subst e; exact ⟨h1, h2⟩
            · exact HNO.out j hj (by omega))
          clear h1 h2
          go_wp2
          go_round
          case rel => exact ⟨k + 1, by omega, by go_num, HNX.out⟩
          case measure => simp [intOf]; omega
        · have e2 : decide ((126 : Int) < (s[k].toNat : Int)) = true := by simp; omega
          have e2n : decide (126 < s[k].toNat) = true := by simp; omega
          have HP := Lib.hid (printF_no (byte_mem hlt) (fun e => h2 e.2))
          clear h1 h2
          go_wp2
          go_ret
          exact ⟨by rw [HP.out]; rfl, rfl⟩
      · have e1 : decide ((s[k].toNat : Int) ≤ 32) = true := by simp; omega
        have e1n : decide (s[k].toNat ≤ 32) = true := by simp; omega
        have HP := Lib.hid (printF_no (byte_mem hlt) (fun e => h1 e.1))
        clear h1
        go_wp2
        go_ret
        exact ⟨by rw [HP.out]; rfl, rfl⟩
    · obtain rfl : k = s.size := by omega
      have hall : ∀ b ∈ s.data.toList, printB b := fun b hb => by
        rw [Array.mem_toList_iff] at hb
        obtain ⟨j, hj, e⟩ := Array.getElem_of_mem hb
        rw [← e]
        exact HNO.out j hj hj
      have HALL := Lib.hid hall
      clear hall hlt
      cases hE : s.toList.isEmpty
      · have hne : s.data.toList ≠ [] := fun e => by
          have := size_pos hE
          rw [size_list, e] at this
          simp at this
        have hE2 : (s.toList != []) = true := by rw [bne, beq_eq_false_iff_ne.2 (by rw [ByteArray.toList_eq]; exact hne)]; rfl
        have HP := Lib.hid (show printF s = true from decide_eq_true ⟨hne, HALL.out⟩)
        clear hne
        go_wp2
        go_ret
        exact ⟨by rw [HP.out]; rfl, rfl⟩
      · have hE2 : (s.toList != []) = false := by rw [ByteArray.toList_eq, nil_of hE]; rfl
        have HP := Lib.hid (show printF s = false from decide_eq_false fun e => e.1 (nil_of hE))
        go_wp2
        go_ret
        exact ⟨by rw [HP.out]; rfl, rfl⟩

theorem take_name' {ws : List ByteArray} {j : Nat} (h : j < ws.length) : (ws.map (·.data.toList)).take (j + 1) = (ws.map (·.data.toList)).take j ++ [(ws.getD j ByteArray.empty).data.toList] := by
  rw [List.take_add_one, List.getD_eq_getElem?_getD, List.getElem?_map, List.getElem?_eq_getElem h]
  rfl

end Go.Proofs.YtkdomegcacgpnaaGreat

namespace Go.Proofs.YtkdomegcacgpnaaGreat
open Go.RowKit
set_option linter.unusedVariables false
set_option linter.unusedSimpArgs false

def FewSay (len : Nat) (b : Bool) : Prop := b = true → len ≤ 2147483647

set_option maxHeartbeats 400000 in
theorem fits8_few (a : Option Addr) (len cap : Nat) (ss : List ByteArray) (w : World) (h : Strs w a len ss) :
    Calls Tryz.prog 6 #[.slice a len cap] w (SomeBool (FewSay len) w) := by
  have hm := h.len.2
  by_cases q1 : (2147483647 : Int) < (len : Int)
  · have g1 : decide ((2147483647 : Int) < (len : Int)) = true := by simp [q1]
    have g1n : decide (2147483647 < len) = true := by simp; omega
    clear q1
    go_enter Tryz.func6, Tryz.ntmps6
    go_wp2
    go_ret
    exact ⟨false, (fun h => by cases h), rfl, rfl⟩
  have hle : len ≤ 2147483647 := by omega
  have g1 : decide ((2147483647 : Int) < (len : Int)) = false := by simp [q1]
  have g1n : decide (2147483647 < len) = false := by simp; omega
  clear q1
  go_enter Tryz.func6, Tryz.ntmps6
  go_wp2
  go_loop [10] (fun i => ∃ k : Nat, k ≤ len ∧ i = .int .i64 k) (fun i => len - (intOf i).toNat)
  case atStart => exact ⟨0, Nat.zero_le _, rfl⟩
  case round =>
    obtain ⟨k, hk, rfl⟩ := hrel
    by_cases hlt : k < len
    · obtain ⟨b, off, rfl, hc⟩ := h.at (by omega)
      have hck := hc k hlt
      go_wp2
      · go_ret
        exact ⟨_, (fun _ => hle), rfl, rfl⟩
      · go_round
        case rel => exact ⟨k + 1, by omega, by go_num⟩
        case measure => simp [intOf]; omega
    · go_wp2
      go_ret
      exact ⟨_, (fun _ => hle), rfl, rfl⟩

/-- A printable name of at most 2^20 bytes. -/
theorem name_ok {x : ByteArray} (h : printF x = true) (hz : x.size ≤ 1048576) : NameOk x.data.toList := by
  have h1 := of_decide_eq_true h
  refine ⟨h1.1, fun b hb => ?_, fun b hb => ?_, by rw [← size_list]; exact hz⟩
  · have := (h1.2 b hb)
    unfold printB at this
    unfold spaceB spaceI
    simp only [Bool.or_eq_false_iff, beq_eq_false_iff_ne]
    omega
  · have := (h1.2 b hb)
    unfold printB at this
    exact ⟨by omega, by omega, by omega⟩

end Go.Proofs.YtkdomegcacgpnaaGreat

