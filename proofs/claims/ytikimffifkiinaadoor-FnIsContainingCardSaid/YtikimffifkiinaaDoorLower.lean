/- spec.small, cascadia.zzToLower: of a text that spec.small leaves as it is. -/
import Derived.Test.YtikimffifkiinaaDoorBase
import Derived.BigGuardPart
import Derived.Lib.ConvBytes
import Derived.Lib.SmallJoins
import Derived.Laws.IdiomStrings
namespace Go.Proofs.YtikimffifkiinaaDoor
open Go.RowKit
set_option linter.unusedVariables false
set_option linter.unusedSimpArgs false

/-- A capital letter. -/
def capital (n : Nat) : Prop := 65 ≤ n ∧ n ≤ 90
/-- No byte is a capital letter. -/
def NoCap (l : List UInt8) : Prop := ∀ j, j < l.length → ¬ capital (l.getD j 0).toNat

theorem add_at (b o j : Nat) : (⟨b, o, none⟩ : Addr).add j = ⟨b, o + j, none⟩ := by unfold Addr.add; split <;> simp_all

theorem frozen_bytesWorld (w : World) (e : TypeId) (s : ByteArray) (j : Nat) (hj : j < s.size) : (Lib.bytesWorld w e s).frozen? ⟨w.heap.size, j, none⟩ = false := by
  have h := Lib.bytesWorld_at_new w e s
  have hsz : s.size ≤ (Lib.bytesCells w e s).size := by
    unfold Lib.bytesCells
    rw [Array.size_append, Array.size_map]
    exact Nat.le_add_right _ _
  simp only [World.frozen?, h]
  simp
  omega

def SameStr (s : ByteArray) (w : World) (e : Ending) (w' : World) : Prop := e = .returned (.string s) ∧ Below w.heap.size w w'

set_option maxRecDepth 100000 in
set_option maxHeartbeats 1000000 in
theorem toLower_any (s : ByteArray) (w : World) (hs : s.size ≤ 4611686018427387904) (hn : NoCap s.data.toList) :
    Calls Tryd.prog 49 #[.string s] w (SameStr s w) := by
  have hconv := Lib.run_convert_string_bytes (P := Tryd.prog) w 9 89 5 s Tryd.underlying9 Tryd.underlying89 Tryd.underlying5
  have hll : s.data.toList.length = s.size := by rw [Array.length_toList]; rfl
  have hcell := Lib.bytesWorld_cell w 5 s
  have hback := run_convert_bytes_back (P := Tryd.prog) (Lib.bytesWorld w 5 s) 89 9 5 ⟨w.heap.size, 0, none⟩ (grownCap w s.size 0 5) s.data.toList Tryd.underlying89 Tryd.underlying5 Tryd.underlying9 (fun j hj => by
    rw [add_at, Nat.zero_add, hcell j (by omega), List.getD_eq_getElem?_getD, List.getElem?_eq_getElem hj]
    rfl)
  rw [hll] at hback
  have hss : (⟨s.data.toList.toArray⟩ : ByteArray) = s := by cases s; simp
  rw [hss] at hback
  have hb : Below w.heap.size w (Lib.bytesWorld w 5 s) := Go.Joins.below_bytesWorld _ w _ s (Nat.le_refl _)
  obtain ⟨w1, hw1⟩ : ∃ w1, Lib.bytesWorld w 5 s = w1 := ⟨_, rfl⟩
  obtain ⟨cap, hcap⟩ : ∃ c, grownCap w s.size 0 5 = c := ⟨_, rfl⟩
  rw [hw1] at hconv hcell hback hb
  rw [hcap] at hconv hback
  have HC := Lib.hid hcell
  have HB := Lib.hid hb
  have HN := Lib.hid hn
  clear hcell hb hw1 hcap hn hss
  go_enter Tryd.func49, Tryd.ntmps49
  go_wp2
  go_loopw [10] (fun i wr => ∃ k : Nat, k ≤ s.size ∧ i = .int .i64 k ∧ w1 = wr) (fun i _ => s.size - (intOf i).toNat)
  case atStart => exact ⟨0, by omega, by go_num, rfl⟩
  case round =>
    obtain ⟨k, hk, rfl, rfl⟩ := hrel
    by_cases hlt : k < s.size
    · have ck := HC.out k hlt
      have hkI : (k : Int) < (s.size : Int) := by omega
      have hnc := HN.out k (by omega)
      unfold capital at hnc
      obtain ⟨x, hx⟩ : ∃ x, (s.data.toList.getD k 0).toNat = x := ⟨_, rfl⟩
      rw [hx] at ck hnc
      obtain ⟨y, hy⟩ : ∃ y : Int, (x : Int) = y := ⟨_, rfl⟩
      rw [hy] at ck
      by_cases h65 : 65 ≤ y
      · have d1 : decide ((65 : Int) ≤ y) = true := by simp; omega
        have d2 : decide (y ≤ (90 : Int)) = false := by simp; omega
        clear hx hy hnc h65
        go_wp2
        refine ⟨?rel, ?measure⟩
        case rel => exact ⟨k + 1, by omega, by go_num, by first | rfl | trivial⟩
        case measure => simp [intOf]; omega
      · have d1 : decide ((65 : Int) ≤ y) = false := by simp; omega
        clear hx hy hnc h65
        go_wp2
        refine ⟨?rel, ?measure⟩
        case rel => exact ⟨k + 1, by omega, by go_num, by first | rfl | trivial⟩
        case measure => simp [intOf]; omega
    · obtain rfl : k = s.size := by omega
      go_wp2
      go_ret
      exact ⟨rfl, HB.out⟩

end Go.Proofs.YtikimffifkiinaaDoor
