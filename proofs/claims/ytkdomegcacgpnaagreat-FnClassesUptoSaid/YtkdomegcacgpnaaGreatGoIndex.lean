/- goquery.zzIndex, zzContains. -/
import Derived.Test.YtkdomegcacgpnaaGreatWl
import Derived.BigGuardPart
namespace Go.Proofs.YtkdomegcacgpnaaGreat
open Go.RowKit
set_option linter.unusedVariables false
set_option linter.unusedSimpArgs false

/-- A part stands at a place of a text. -/
def standsAt (s p : ByteArray) (i : Nat) : Bool := (s.extract i (i + p.size)).toList == p.toList

theorem standsAt_list {s p : ByteArray} {i : Nat} (hi : i + p.size ≤ s.size) : standsAt s p i = true ↔ ∃ A B, A.length = i ∧ s.data.toList = A ++ p.data.toList ++ B := by
  unfold standsAt
  rw [beq_iff_eq, ByteArray.toList_eq, ByteArray.toList_eq, extract_list, show i + p.size - i = p.size by omega]
  have hl : s.data.toList.length = s.size := (size_list s).symm
  have hp : p.data.toList.length = p.size := (size_list p).symm
  constructor
  · intro h
    refine ⟨s.data.toList.take i, (s.data.toList.drop i).drop p.size, by rw [List.length_take]; omega, ?_⟩
    rw [← h, List.append_assoc, List.take_append_drop, List.take_append_drop]
  · rintro ⟨A, B, h1, h2⟩
    rw [h2, List.append_assoc, List.drop_left' h1, List.take_left' hp]

/-- A part stands in a text. -/
def InL (P L : List UInt8) : Prop := ∃ A B, L = A ++ P ++ B

def FoundPost (s p : ByteArray) (w : World) (e : Ending) (w' : World) : Prop := ∃ z : Int, e = .returned (.int .i64 z) ∧ ((z = -1 ∧ ¬ InL p.data.toList s.data.toList) ∨ ∃ A B, z = (A.length : Int) ∧ s.data.toList = A ++ p.data.toList ++ B) ∧ w = w'

set_option maxRecDepth 100000 in
set_option maxHeartbeats 1000000 in
theorem goIndex_any (s p : ByteArray) (w : World) (hs : s.size ≤ 4611686018427387904) (hp : p.size ≤ 3000000) :
    Calls Tryz.prog 126 #[.string s, .string p] w (FoundPost s p w) := by
  go_enter Tryz.func126, Tryz.ntmps126
  go_wp2
  go_loop [5] (fun i => ∃ k : Nat, k ≤ s.size + 1 ∧ i = .int .i64 k ∧ Hid (∀ j, j < k → j + p.size ≤ s.size → standsAt s p j = false)) (fun i => s.size + 1 - (intOf i).toNat)
  case atStart => exact ⟨0, by omega, rfl, Lib.hid (fun j hj => by omega)⟩
  case round =>
    obtain ⟨k, hk, rfl, HF⟩ := hrel
    by_cases hlt : k + p.size ≤ s.size
    · have hltI : decide ((k : Int) + (p.size : Int) ≤ (s.size : Int)) = true := by simp; omega
      cases hb : standsAt s p k
      · have HB := Lib.hid hb
        unfold standsAt at hb
        go_wp2
        go_round
        case rel => exact ⟨k + 1, by omega, by go_num, Lib.hid (fun j hj hj2 => by
          rcases Nat.lt_or_ge j k with h | h
          · exact HF.out j h hj2
          · obtain rfl : j = k := by omega
            exact HB.out)⟩
        case measure => simp [intOf]; omega
      · have HB := Lib.hid hb
        unfold standsAt at hb
        go_wp2
        go_ret
        obtain ⟨A, B, h1, h2⟩ := (standsAt_list hlt).1 HB.out
        exact ⟨_, rfl, .inr ⟨A, B, by rw [h1], h2⟩, rfl⟩
    · have hltI : decide ((k : Int) + (p.size : Int) ≤ (s.size : Int)) = false := by simp; omega
      go_wp2
      go_ret
      refine ⟨-1, rfl, .inl ⟨rfl, ?_⟩, rfl⟩
      rintro ⟨A, B, h⟩
      have hl := congrArg List.length h
      simp only [List.length_append, ← size_list] at hl
      have h1 : A.length + p.size ≤ s.size := by omega
      have h2 := (standsAt_list h1).2 ⟨A, B, rfl, h⟩
      rw [HF.out A.length (by omega) h1] at h2
      cases h2

def InPost (s p : ByteArray) (w : World) (e : Ending) (w' : World) : Prop := ∃ b : Bool, e = .returned (.bool b) ∧ (b = true ↔ InL p.data.toList s.data.toList) ∧ w = w'

set_option maxRecDepth 100000 in
theorem goContains_any (s p : ByteArray) (w : World) (hs : s.size ≤ 4611686018427387904) (hp : p.size ≤ 3000000) :
    Calls Tryz.prog 77 #[.string s, .string p] w (InPost s p w) := by
  have HI := Lib.hid (goIndex_any s p w hs hp)
  go_enter Tryz.func77, Tryz.ntmps77
  go_wp2_with fail
  refine HI.out.mono ?_
  rintro e w1 ⟨z, rfl, hz, rfl⟩
  rcases hz with ⟨rfl, hn⟩ | ⟨A, B, rfl, h⟩
  · have HN := Lib.hid hn
    clear hn
    go_wp2
    go_ret
    exact ⟨false, rfl, by simpa using HN.out, rfl⟩
  · have HN := Lib.hid (show InL p.data.toList s.data.toList from ⟨A, B, h⟩)
    clear h
    have hd : decide ((0 : Int) ≤ (A.length : Int)) = true := by simp
    go_wp2
    go_ret
    exact ⟨true, rfl, by simpa using HN.out, rfl⟩

end Go.Proofs.YtkdomegcacgpnaaGreat
