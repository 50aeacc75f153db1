/- spec.Word, spec.Printable, laws.joined7. -/
import Derived.Test.YtoleejaabiafcaaWordsBig
import Derived.Test.YtoleejaabiafcaaClsText
namespace Go.Proofs.Ytoleejaabiafcaa
open Go.RowKit
set_option linter.unusedVariables false
set_option linter.unusedSimpArgs false

/-- A yes that says something. -/
def Tells (P : Prop) (w : World) (e : Ending) (w' : World) : Prop := ∃ b : Bool, e = .returned (.bool b) ∧ Hid (b = true ↔ P) ∧ Hid (Below w.heap.size w w')

theorem wordsF_get {s : ByteArray} {x : ByteArray} {k : Nat} (hk : k < (wordsF s).length) (h : ((wordsF s).getD k ByteArray.empty).toList = x.toList) : x.data.toList ∈ wl s.data.toList := by
  rw [← wordsF_mem]
  have e : (wordsF s).getD k ByteArray.empty = x := by
    rw [ByteArray.toList_eq, ByteArray.toList_eq] at h
    have := congrArg ofL h
    rwa [ofL_of, ofL_of] at this
  rw [← e, List.getD_eq_getElem?_getD, List.getElem?_eq_getElem hk]
  exact List.getElem_mem hk

set_option maxRecDepth 100000 in
set_option maxHeartbeats 1000000 in
theorem word_any (s x : ByteArray) (w : World) (hs : s.size ≤ 1000000000000) :
    Calls Try.prog 34 #[.string s, .string x] w (Tells (x.data.toList ∈ wl s.data.toList) w) := by
  have hwl := wordsF_len s
  have HWO := Lib.hid (wordsOf_big s w hs)
  go_enter Try.func34, Try.ntmps34
  go_wp2_with fail
  refine HWO.out.mono ?_
  rintro e w1 ⟨v, rfl, ho, hb⟩
  obtain ⟨a, cap, rfl, hcap, hcells⟩ := ho.out.open
  have HC := Lib.hid hcells.2
  have HM := Lib.hid (fun (k : Nat) (hk : k < (wordsF s).length) => wordsF_get (x := x) hk)
  have HEQ := Lib.hid (wordsF_mem s x)
  clear ho hcells
  obtain ⟨ws, hws⟩ : ∃ ws, wordsF s = ws := ⟨_, rfl⟩
  rw [hws] at hwl HC hcap HM HEQ ⊢
  clear hws HWO
  go_wp2
  go_loop [6] (fun i => ∃ k : Nat, k ≤ ws.length ∧ i = .int .i64 (k : Int) ∧ ∀ j, j < k → (ws.getD j ByteArray.empty).toList ≠ x.toList) (fun i => ws.length - (intOf i).toNat)
  case atStart => exact ⟨0, by omega, by go_num, fun j h => by omega⟩
  case round =>
    obtain ⟨k, hk, rfl, hno⟩ := hrel
    have HNO := Lib.hid hno
    clear hno
    by_cases hlt : k < ws.length
    · obtain ⟨b, off, rfl, hc⟩ := HC.out (by omega)
      have ck := hc k hlt
      have hm := HM.out k hlt
      have hnn : (ws.getD k ByteArray.empty).toList ≠ x.toList → ∀ j, j < k + 1 → (ws.getD j ByteArray.empty).toList ≠ x.toList := fun h j hj => by
        by_cases e : j = k
        · rw [e]; exact h
        · exact HNO.out j (by omega)
      obtain ⟨y, hy⟩ : ∃ y, ws.getD k ByteArray.empty = y := ⟨_, rfl⟩
      rw [hy] at ck hm hnn
      have hkI : (k : Int) < (ws.length : Int) := by omega
      clear hc hy
      cases hq : (y.toList == x.toList)
      · have HNN := Lib.hid (hnn (by simpa using hq))
        clear hm hnn
        go_wp2
        go_round
        case rel => exact ⟨k + 1, by omega, by go_num, HNN.out⟩
        case measure => simp [intOf]; omega
      · have HMM := Lib.hid (hm (by simpa using hq))
        clear hm hnn
        go_wp2
        go_ret
        exact ⟨true, rfl, Lib.hid ⟨fun _ => HMM.out, fun _ => rfl⟩, hb⟩
    · obtain rfl : k = ws.length := by omega
      have hnm : ¬ x.data.toList ∈ wl s.data.toList := fun h => by
        rw [← HEQ.out] at h
        obtain ⟨j, hj, e⟩ := List.getElem_of_mem h
        refine HNO.out j hj ?_
        rw [List.getD_eq_getElem?_getD, List.getElem?_eq_getElem hj, ← e]
        rfl
      have HNM := Lib.hid hnm
      clear hnm hlt
      go_wp2
      go_ret
      exact ⟨false, rfl, Lib.hid ⟨fun h => (by cases h), fun h => absurd h HNM.out⟩, hb⟩

/-- Printable bytes. -/
def printB (b : UInt8) : Prop := 32 < b.toNat ∧ b.toNat ≤ 126
instance (b : UInt8) : Decidable (printB b) := by unfold printB; infer_instance
def printF (s : ByteArray) : Bool := decide (s.data.toList ≠ [] ∧ ∀ b ∈ s.data.toList, printB b)
theorem printF_no {s : ByteArray} {b : UInt8} (hb : b ∈ s.data.toList) (h : ¬ printB b) : printF s = false := decide_eq_false fun e => h (e.2 b hb)
theorem byte_mem {s : ByteArray} {k : Nat} (h : k < s.size) : s[k] ∈ s.data.toList := by
  rw [Array.mem_toList_iff]
  exact Array.getElem_mem (by exact h)

set_option maxRecDepth 100000 in
set_option maxHeartbeats 1000000 in
theorem printable_any (s : ByteArray) (w : World) (hs : s.size ≤ 9223372036854775807) :
    Calls Try.prog 63 #[.string s] w (BoolIs (printF s) w) := by
  go_enter Try.func63, Try.ntmps63
  go_wp2
  go_loop [3] (fun i => ∃ k : Nat, k ≤ s.size ∧ i = .int .i64 (k : Int) ∧ ∀ j (h : j < s.size), j < k → printB s[j]) (fun i => s.size - (intOf i).toNat)
  case atStart => exact ⟨0, by omega, by go_num, fun j _ h => by omega⟩
  case round =>
    obtain ⟨k, hk, rfl, hno⟩ := hrel
    have HNO := Lib.hid hno
    clear hno
    by_cases hlt : k < s.size
    · have hkI : (k : Int) < (s.size : Int) := by omega
      by_cases h1 : 32 < s[k].toNat
      · have e1 : decide ((s[k].toNat : Int) ≤ 32) = false := by simp; omega
        have e1n : decide (s[k].toNat ≤ 32) = false := by simp; omega
        by_cases h2 : s[k].toNat ≤ 126
        · have e2 : decide ((126 : Int) < (s[k].toNat : Int)) = false := by simp; omega
          have e2n : decide (126 < s[k].toNat) = false := by simp; omega
          have HNX := Lib.hid (show ∀ j (h : j < s.size), j < k + 1 → printB s[j] from fun j hj hjk => by
            by_cases e : j = k
            · subst e; exact ⟨h1, h2⟩
            · exact HNO.out j hj (by omega))
          clear h1 h2
          go_wp2
          go_round
          case rel => exact ⟨k + 1, by omega, by go_num, HNX.out⟩
          case measure => simp [intOf]; omega
        · have e2 : decide ((126 : Int) < (s[k].toNat : Int)) = true := by simp; omega
          have e2n : decide (126 < s[k].toNat) = true := by simp; omega
          have HP := Lib.hid (printF_no (byte_mem hlt) (fun e => h2 e.2))
          clear h1 h2
          go_wp2
          go_ret
          exact ⟨by rw [HP.out]; rfl, rfl⟩
      · have e1 : decide ((s[k].toNat : Int) ≤ 32) = true := by simp; omega
        have e1n : decide (s[k].toNat ≤ 32) = true := by simp; omega
        have HP := Lib.hid (printF_no (byte_mem hlt) (fun e => h1 e.1))
        clear h1
        go_wp2
        go_ret
        exact ⟨by rw [HP.out]; rfl, rfl⟩
    · obtain rfl : k = s.size := by omega
      have hall : ∀ b ∈ s.data.toList, printB b := fun b hb => by
        rw [Array.mem_toList_iff] at hb
        obtain ⟨j, hj, e⟩ := Array.getElem_of_mem hb
        rw [← e]
        exact HNO.out j hj hj
      have HALL := Lib.hid hall
      clear hall hlt
      cases hE : s.toList.isEmpty
      · have hne : s.data.toList ≠ [] := fun e => by
          have := size_pos hE
          rw [size_list, e] at this
          simp at this
        have hE2 : (s.toList != []) = true := by rw [bne, beq_eq_false_iff_ne.2 (by rw [ByteArray.toList_eq]; exact hne)]; rfl
        have HP := Lib.hid (show printF s = true from decide_eq_true ⟨hne, HALL.out⟩)
        clear hne
        go_wp2
        go_ret
        exact ⟨by rw [HP.out]; rfl, rfl⟩
      · have hE2 : (s.toList != []) = false := by rw [ByteArray.toList_eq, nil_of hE]; rfl
        have HP := Lib.hid (show printF s = false from decide_eq_false fun e => e.1 (nil_of hE))
        go_wp2
        go_ret
        exact ⟨by rw [HP.out]; rfl, rfl⟩

theorem take_name' {ws : List ByteArray} {j : Nat} (h : j < ws.length) : (ws.map (·.data.toList)).take (j + 1) = (ws.map (·.data.toList)).take j ++ [(ws.getD j ByteArray.empty).data.toList] := by
  rw [List.take_add_one, List.getD_eq_getElem?_getD, List.getElem?_map, List.getElem?_eq_getElem h]
  rfl

/-- The names joined with a blank ahead of each. -/
def JoinedPost (xs : List ByteArray) (n : Nat) (w : World) (e : Ending) (w' : World) : Prop := ∃ r : ByteArray, e = .returned (.string r) ∧ Hid (r.data.toList = Lib.joinTail [32] ((xs.take n).map (·.data.toList))) ∧ r.size ≤ 41 * n ∧ w = w'

set_option maxRecDepth 100000 in
set_option maxHeartbeats 1000000 in
theorem joined7_any (a : Option Addr) (xs : List ByteArray) (n c : Nat) (w : World) (h : StrCells w a n xs) (hn : n ≤ 2147483647) (hx : n ≤ xs.length) (hz : ∀ j, j < n → (xs.getD j ByteArray.empty).size ≤ 40) :
    Calls Try.prog 35 #[.slice a n c] w (JoinedPost xs n w) := by
  have HC := Lib.hid h.2
  have HZ := Lib.hid hz
  clear h hz
  go_enter Try.func35, Try.ntmps35
  go_wp2
  go_loop [3, 4] (fun ov i => ∃ (k : Nat) (r : ByteArray), k ≤ n ∧ ov = .string r ∧ i = .int .i64 (k : Int) ∧ Hid (r.data.toList = Lib.joinTail [32] ((xs.take k).map (·.data.toList))) ∧ r.size ≤ 41 * k) (fun _ i => n - (intOf i).toNat)
  case atStart => exact ⟨0, ⟨#[]⟩, by omega, rfl, by go_num, Lib.hid rfl, by decide⟩
  case round =>
    obtain ⟨k, r, hk, rfl, rfl, hr, hrz⟩ := hrel
    by_cases hlt : k < n
    · obtain ⟨b, off, rfl, hc⟩ := HC.out (by omega)
      have ck := hc k hlt
      have hz := HZ.out k hlt
      have hnext : Lib.joinTail [32] ((xs.take (k + 1)).map (·.data.toList)) = Lib.joinTail [32] ((xs.take k).map (·.data.toList)) ++ 32 :: (xs.getD k ByteArray.empty).data.toList := by
        rw [List.map_take, List.map_take, take_name' (by omega)]
        unfold Lib.joinTail
        rw [List.map_append, List.flatten_append]
        simp
      obtain ⟨y, hy⟩ : ∃ y, xs.getD k ByteArray.empty = y := ⟨_, rfl⟩
      rw [hy] at ck hz hnext
      have hkI : (k : Int) < (n : Int) := by omega
      have z1 : ¬ 9223372036854775807 < (ByteArray.mk #[32]).size + y.size := by have : (ByteArray.mk #[32]).size = 1 := rfl; omega
      have z2 : ¬ 9223372036854775807 < r.size + ((ByteArray.mk #[32]) ++ y).size := by
        have : (ByteArray.mk #[32]).size = 1 := rfl
        rw [ByteArray.size_append]; omega
      have HNX := Lib.hid (show (r ++ ((ByteArray.mk #[32]) ++ y)).data.toList = Lib.joinTail [32] ((xs.take (k + 1)).map (·.data.toList)) by
        rw [cat_list, cat_list, hr.out, hnext]; rfl)
      have HSZ := Lib.hid (show (r ++ ((ByteArray.mk #[32]) ++ y)).size ≤ 41 * (k + 1) by
        have : (ByteArray.mk #[32]).size = 1 := rfl
        rw [ByteArray.size_append, ByteArray.size_append]; omega)
      clear hc hy hr hnext
      go_wp2
      go_round
      case rel => exact ⟨k + 1, _, by omega, rfl, by go_num, HNX, HSZ.out⟩
      case measure => simp [intOf]; omega
    · obtain rfl : k = n := by omega
      go_wp2
      go_ret
      exact ⟨r, rfl, hr, hrz, rfl⟩

end Go.Proofs.Ytoleejaabiafcaa
