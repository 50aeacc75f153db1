/- spec.ascii, exactly; vertical tabs; a join that grows at its end. -/
import Derived.Test.YtikimffifkiinaaInside
import Derived.Test.YtikimffifkiinaaBare
import Derived.Lib.Join
namespace Go.Proofs.Ytikimffifkiinaa
open Go.RowKit
set_option linter.unusedVariables false
set_option linter.unusedSimpArgs false

def Ascii7 (s : ByteArray) : Prop := ∀ j (h : j < s.size), (s[j]'h).toNat < 128

set_option maxRecDepth 100000 in
set_option maxHeartbeats 1000000 in
theorem asciiX_any (s : ByteArray) (w : World) (hs : s.size ≤ maxLen) :
    Calls Try.prog 19 #[.string s] w (SomeBool (fun b => b = true → Ascii7 s) w) := by
  unfold maxLen at hs
  go_enter Try.func19, Try.ntmps19
  go_wp2
  go_loop [3] (fun i => ∃ k : Nat, k ≤ s.size ∧ i = .int .i64 k ∧ Hid (∀ j (h : j < s.size), j < k → (s[j]'h).toNat < 128)) (fun i => s.size - (intOf i).toNat)
  case atStart => exact ⟨0, by omega, rfl, Lib.hid (fun j h hj => by omega)⟩
  case round =>
    obtain ⟨k, hk, rfl, HK⟩ := hrel
    by_cases hlt : k < s.size
    · obtain ⟨y, hy⟩ : ∃ y : Int, ((s[k]'hlt).toNat : Int) = y := ⟨_, rfl⟩
      by_cases h128 : (128 : Int) ≤ ((s[k]'hlt).toNat : Int)
      · have d1 : decide ((128 : Int) ≤ ((s[k]'hlt).toNat : Int)) = true := by simpa using h128
        go_wp2
        go_ret
        exact ⟨false, (fun h => by cases h), rfl, rfl⟩
      · have d1 : decide ((128 : Int) ≤ ((s[k]'hlt).toNat : Int)) = false := by simpa using h128
        have hb : (s[k]'hlt).toNat < 128 := by omega
        have HB := Lib.hid hb
        clear hb h128 hy
        go_wp2
        go_round
        case rel => exact ⟨k + 1, by omega, by go_num, Lib.hid (fun j h hj => by
          rcases Nat.lt_or_ge j k with h1 | h1
          · exact HK.out j h h1
          · obtain rfl : j = k := by omega
            exact HB.out)⟩
        case measure => simp [intOf]; omega
    · obtain rfl : k = s.size := by omega
      go_wp2
      go_ret
      exact ⟨true, (fun _ j h => HK.out j h h), rfl, rfl⟩

theorem noVT {s : ByteArray} (h : ¬ Has s ⟨#[11]⟩) : ∀ j (hj : j < s.size), (s[j]'hj).toNat ≠ 11 := by
  intro j hj he
  apply h
  refine ⟨j, hj, ?_⟩
  unfold hasAt
  have h1 : s[j]'hj = 11 := UInt8.toNat_inj.1 he
  have h2 : (s.extract j (j + (⟨#[11]⟩ : ByteArray).size)).toList = [11] := by
    rw [ByteArray.toList_eq, extract_list]
    have hl := size_list s
    rw [List.drop_eq_getElem_cons (by omega)]
    show List.take (j + 1 - j) _ = _
    rw [show j + 1 - j = 1 by omega]
    have : s.data.toList[j]'(by omega) = s[j]'hj := rfl
    rw [List.take_succ_cons, List.take_zero, this, h1]
  rw [h2, ByteArray.toList_eq]
  rfl

theorem join_snoc (L : List (List UInt8)) (x sep : List UInt8) : Lib.join (L ++ [x]) sep = if L = [] then x else Lib.join L sep ++ sep ++ x := by
  cases L with
  | nil => simp [Lib.join_one]
  | cons a r =>
    rw [if_neg (by simp), List.cons_append, Lib.join_cons, Lib.join_cons]
    simp [Lib.joinTail]

end Go.Proofs.Ytikimffifkiinaa
