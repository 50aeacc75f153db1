/- spec.ReadText, spec.plainAttrs. -/
import Derived.Test.YtphppdbhofeagaaDoorEscaped
import Derived.Test.YtphppdbhofeagaaDoorValidStr
import Derived.Test.YtphppdbhofeagaaDoorPlainTag
namespace Go.Proofs.YtphppdbhofeagaaDoor
open Go.RowKit
set_option linter.unusedVariables false
set_option linter.unusedSimpArgs false

def ReadSays (s : ByteArray) (b : Bool) : Prop := b = true → NoCr s

set_option maxRecDepth 100000 in
set_option maxHeartbeats 4000000 in
theorem readText_any (s : ByteArray) (w : World) (hs : s.size ≤ maxLen) (hT : TabsAt w) :
    Calls Tryd.prog 21 #[.string s] w (SomeBoolB (ReadSays s) w) := by
  have hv := validStr_any s w hs hT
  have HV := Lib.hid hv
  clear hv hT
  unfold maxLen at hs
  go_enter Tryd.func21, Tryd.ntmps21
  go_wp2
  go_loopw [3] (fun iv wr => ∃ k : Nat, k ≤ s.size ∧ iv = .int .i64 (k : Int) ∧ Hid (∀ j (h : j < s.size), j < k → (s[j]'h).toNat ≠ 13) ∧ w = wr) (fun iv _ => s.size - (intOf iv).toNat)
  case atStart => exact ⟨0, by omega, by go_num, Lib.hid (fun j h hj => by omega), rfl⟩
  case round =>
    obtain ⟨k, hk, rfl, HL, rfl⟩ := hrel
    by_cases hlt : k < s.size
    · have hkI : (k : Int) < (s.size : Int) := by omega
      cases g0 : (((s[k]'hlt).toNat : Int) == 0)
      case true =>
        go_wp2
        go_ret
        exact ⟨_, (fun h => by cases h), rfl, Below.refl _ _⟩
      cases g1 : (((s[k]'hlt).toNat : Int) == 13)
      case true =>
        go_wp2
        go_ret
        exact ⟨_, (fun h => by cases h), rfl, Below.refl _ _⟩
      have H2 := Lib.hid (show ∀ j (h : j < s.size), j < k + 1 → (s[j]'h).toNat ≠ 13 from fun j h hj => by
        by_cases e : j = k
        · subst e; intro hc; rw [hc] at g1; simp at g1
        · exact HL.out j h (by omega))
      clear HL
      go_wp2
      refine ⟨?rel, ?measure⟩
      case rel => exact ⟨k + 1, by omega, by go_num, H2, by first | rfl | trivial⟩
      case measure => simp [intOf]; omega
    · obtain rfl : k = s.size := by omega
      go_wp2_with fail
      refine HV.out.mono ?_
      rintro e w2 ⟨b, _, rfl, hb⟩
      have HB := Lib.hid hb
      clear hb
      go_wp2
      go_ret
      exact ⟨b, (fun _ i h => HL.out i h h), rfl, HB.out⟩

/-- No value of an attribute holds a carriage return. -/
def NoCrs (l : List (ByteArray × ByteArray)) : Prop := ∀ j, j < l.length → NoCr (l.getD j default).2
def ValsSay (l : List (ByteArray × ByteArray)) (b : Bool) : Prop := b = true → NoCrs l

set_option maxRecDepth 100000 in
set_option maxHeartbeats 4000000 in
theorem plainAttrs_any (a : Option Addr) (len cap : Nat) (l : List (ByteArray × ByteArray)) (w : World) (h : AttrsAt w a len l) (hT : TabsAt w) :
    Calls Tryd.prog 12 #[.slice a len cap] w (SomeBoolB (ValsSay l) w) := by
  have hm := h.2.1
  have hl := h.1
  unfold maxLen at hm
  have HA := Lib.hid h
  have HT := Lib.hid hT
  clear h hT
  go_enter Tryd.func12, Tryd.ntmps12
  go_wp2
  go_loopw [3] (fun iv wr => ∃ k : Nat, k ≤ len ∧ iv = .int .i64 (k : Int) ∧ Hid (∀ j, j < k → NoCr (l.getD j default).2) ∧ Below w.heap.size w wr) (fun iv _ => len - (intOf iv).toNat)
  case atStart => exact ⟨0, by omega, by go_num, Lib.hid (fun j hj => by omega), Below.refl _ _⟩
  case round =>
    obtain ⟨k, hk, rfl, HL, hbel⟩ := hrel
    have HB := Lib.hid hbel
    have HA1 := Lib.hid (HA.out.below hbel)
    have HT1 := Lib.hid (HT.out.below hbel)
    clear hbel
    by_cases hlt : k < len
    · obtain ⟨q1, q2, q3, q4⟩ := HA1.out
      obtain ⟨b, off, rfl, hc⟩ := q4 (by omega)
      have cv := (hc k hlt).2
      have hs := (q3 _ (getD_mem' (d := default) (by omega : k < l.length))).2
      obtain ⟨val, hval⟩ : ∃ y, (l.getD k default).2 = y := ⟨_, rfl⟩
      rw [hval] at cv hs
      have hkI : (k : Int) < (len : Int) := by omega
      have HV := Lib.hid hval
      have HR := Lib.hid (readText_any val wr hs HT1.out)
      clear q1 q2 q3 q4 hc hval hs
      go_wp2_with fail
      refine HR.out.mono ?_
      rintro e w2 ⟨r, hr, rfl, hb2⟩
      have HR2 := Lib.hid (And.intro hr (HB.out.trans (hb2.mono HB.out.size)))
      clear hb2 hr
      cases r
      · go_wp2
        go_ret
        exact ⟨_, (fun h => by cases h), rfl, HR2.out.2⟩
      · have H2 := Lib.hid (show ∀ j, j < k + 1 → NoCr (l.getD j default).2 from fun j hj => by
          by_cases e : j = k
          · subst e; rw [HV.out]; exact HR2.out.1 rfl
          · exact HL.out j (by omega))
        go_wp2
        go_roundw
        case rel => exact ⟨k + 1, by omega, by go_num, H2, HR2.out.2⟩
        case measure => simp [intOf]; omega
    · obtain rfl : k = len := by omega
      go_wp2
      go_ret
      exact ⟨_, (fun _ j hj => HL.out j (by omega)), rfl, HB.out⟩

end Go.Proofs.YtphppdbhofeagaaDoor
