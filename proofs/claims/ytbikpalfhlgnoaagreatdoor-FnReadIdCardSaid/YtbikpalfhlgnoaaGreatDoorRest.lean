/- spec's reader.rest: what it takes is what the function pn takes. -/
import Derived.Test.YtbikpalfhlgnoaaGreatDoorEscapeSpec
namespace Go.Proofs.YtbikpalfhlgnoaaGreatDoor
open Go.RowKit
set_option linter.unusedVariables false
set_option linter.unusedSimpArgs false

/-- So far the name is read as the function pn says, where the text is sure and readable. -/
def SoFar (s : ByteArray) (k : Nat) (u : Bool) (out : ByteArray) : Prop := u = false → Valid s → pn s 0 ByteArray.empty = pn s k out ∧ (0 < k → 0 < out.size)

theorem soFar_byte {s : ByteArray} {k : Nat} {u : Bool} {out : ByteArray} (h : SoFar s k u out) (hk : k < s.size) (hn : isNc (nx s k) = true) : SoFar s (k + 1) u (out ++ s.extract k (k + 1)) := by
  intro hu hv
  exact ⟨(h hu hv).1.trans (pn_nc hk hn), fun _ => by rw [ByteArray.size_append, ByteArray.size_extract]; omega⟩

theorem soFar_escape {s : ByteArray} {k k' : Nat} {u u' : Bool} {out a : ByteArray} (h : SoFar s k u out) (he : escF s k = true)
    (hp : u' = false → u = false ∧ (0 < ptK s (k + 1) → 0 < a.size ∧ ∀ o, pn s k o = pn s k' (o ++ a))) : SoFar s k' u' (out ++ a) := by
  intro hu hv
  obtain ⟨h1, h2, h3⟩ := escF_parts he
  have hk := hv k h1 (by omega)
  obtain ⟨hu0, hq⟩ := hp hu
  obtain ⟨ha, ho⟩ := hq hk
  exact ⟨(h hu0 hv).1.trans (ho out), fun _ => by rw [ByteArray.size_append]; omega⟩

def RestPost (s : ByteArray) (B : Nat) (w : World) (e : Ending) (w' : World) : Prop :=
  ∃ (k : Nat) (u : Bool) (out : ByteArray), e = .returned (.string out) ∧ Rdr w' B s k false u false ∧ Below B w w' ∧ k ≤ s.size ∧ SoFar s k u out ∧ (k = s.size ∨ (isNc (nx s k) = false ∧ escF s k = false))

theorem nameByte_is {n : Int} {b : Bool} (h : isNc n = b) (w : World) : Calls Tryz.prog 16 #[.int .u8 n] w (IsBool b w) :=
  (nameByte_any n w).mono fun e w' ⟨b', h', he, hw⟩ => ⟨by rw [he, h', h], hw.symm⟩

set_option maxRecDepth 100000 in
set_option maxHeartbeats 8000000 in
theorem rest_any (s : ByteArray) (B : Nat) (w : World) (hs : s.size ≤ 1000) (h : Rdr w B s 0 false false false) :
    Calls Tryz.prog 11 #[.pointer (some ⟨B, 0, none⟩)] w (RestPost s B w) := by
  have HW := Lib.hid h
  clear h
  go_enter Tryz.func11, Tryz.ntmps11
  go_wp2
  go_loopw [3] (fun x wr => ∃ (k : Nat) (u : Bool) (out : ByteArray), x = .string out ∧ k ≤ s.size ∧ Rdr wr B s k false u false ∧ Below B w wr ∧ out.size ≤ 4 * k ∧ SoFar s k u out) (fun _ wr => s.size - (intOf ((wr.cell? ⟨B, 1, none⟩).getD undef)).toNat)
  case atStart => exact ⟨0, false, ByteArray.empty, rfl, by omega, HW.out, Below.refl _ _, by simp, fun _ _ => ⟨rfl, fun h => absurd h (by omega)⟩⟩
  case round =>
    obtain ⟨k, u, out, rfl, hk, hr, hb, hos, hso⟩ := hrel
    have c0 : wr.cell? ⟨B, 0, none⟩ = some (.string s) := hr.cell (i := 0) rfl
    have c1 : wr.cell? ⟨B, 1, none⟩ = some (.int .i64 (k : Int)) := hr.cell (i := 1) rfl
    have c2 : wr.cell? ⟨B, 2, none⟩ = some (.bool false) := hr.cell (i := 2) rfl
    have HR := Lib.hid hr
    have HB := Lib.hid hb
    have HSO := Lib.hid hso
    clear hr hb hso
    have hN := fun w' h' => next_any s k B false u false w' h'
    obtain ⟨x, hx⟩ : ∃ x, nx s k = x := ⟨_, rfl⟩
    rw [hx] at hN
    have HN := Lib.hid hN
    have HX := Lib.hid hx
    clear hN hx
    by_cases hlt : k < s.size
    · have g0 : decide ((k : Int) < (s.size : Int)) = true := by simp [hlt]
      have g0n : decide (k < s.size) = true := by simp [hlt]
      cases hnb : isNc x
      · have HNB := Lib.hid hnb
        clear hnb
        cases hef : escF s k
        · have hfo := fun w' h' => follows_any s k k B false u false w' (by omega) hk h'
          rw [hef] at hfo
          have HFO := Lib.hid hfo
          have HEF := Lib.hid hef
          clear hfo hef
          go_wp2_with fail
          go_quiet (fail)
          go_wp2_with (first
            | (go_at_call 12; refine (HN.out _ (by first | exact HR.out | exact HR.out.drew _)).mono ?_; rintro e w' ⟨rfl, m, rfl⟩)
            | (go_at_call 16; refine (nameByte_is HNB.out _).mono ?_; rintro e w' ⟨rfl, rfl⟩)
            | (go_at_call 17; refine (HFO.out _ (by first | exact HR.out | exact HR.out.drew _)).mono ?_; rintro e w' ⟨rfl, rfl⟩))
          go_ret
          exact ⟨k, u, out, rfl, HR.out.drew _, below_drewN HB.out _, hk, HSO.out, .inr ⟨by rw [HX.out]; exact HNB.out, HEF.out⟩⟩
        · have hfo := fun w' h' => follows_any s k k B false u false w' (by omega) hk h'
          rw [hef] at hfo
          have HFO := Lib.hid hfo
          have HEF := Lib.hid hef
          clear hfo hef
          go_wp2_with fail
          go_quiet (fail)
          go_wp2_with (first
            | (go_at_call 12; refine (HN.out _ (by first | exact HR.out | exact HR.out.drew _)).mono ?_; rintro e w' ⟨rfl, m, rfl⟩)
            | (go_at_call 16; refine (nameByte_is HNB.out _).mono ?_; rintro e w' ⟨rfl, rfl⟩)
            | (go_at_call 17; refine (HFO.out _ (by first | exact HR.out | exact HR.out.drew _)).mono ?_; rintro e w' ⟨rfl, rfl⟩))
          refine (escape_spec s B k u _ (by omega) HEF.out (by first | exact HR.out | exact HR.out.drew _)).mono ?_
          rintro e w3 ⟨a, k', u', rfl, hr3, hb3, hkk, hks, has, hp3⟩
          have HR3 := Lib.hid (And.intro hr3 ((below_drewN HB.out _).trans hb3))
          have HP3 := Lib.hid hp3
          clear hr3 hb3 hp3
          have hcat : out.size + a.size ≤ 9223372036854775807 := by omega
          go_wp2_with fail
          refine ⟨?rel, ?measure⟩
          case rel => exact ⟨k', u', out ++ a, rfl, hks, HR3.out.1, HR3.out.2, by rw [ByteArray.size_append]; omega, soFar_escape HSO.out HEF.out HP3.out⟩
          case measure =>
            refine Nat.lt_of_le_of_lt (Nat.le_of_eq (Rdr.left HR3.out.1)) (Nat.lt_of_lt_of_le ?_ (Nat.le_of_eq (Rdr.left HR.out).symm))
            omega
      · have HNB := Lib.hid hnb
        clear hnb
        go_wp2_with fail
        go_quiet (fail)
        go_wp2_with (first
          | (go_at_call 12; refine (HN.out _ (by first | exact HR.out | exact HR.out.drew _)).mono ?_; rintro e w' ⟨rfl, m, rfl⟩)
          | (go_at_call 16; refine (nameByte_is HNB.out _).mono ?_; rintro e w' ⟨rfl, rfl⟩))
        obtain ⟨wz, hwz⟩ : ∃ wz, wr.drewN (nq + m) = wz := ⟨_, rfl⟩
        have hrz : Rdr wz B s k false u false := by rw [← hwz]; exact HR.out.drew _
        have hbz : Below B w wz := by rw [← hwz]; exact below_drewN HB.out _
        rw [hwz]
        clear hwz c0 c1 c2
        have c0z : wz.cell? ⟨B, 0, none⟩ = some (.string s) := hrz.cell (i := 0) rfl
        have c1z : wz.cell? ⟨B, 1, none⟩ = some (.int .i64 (k : Int)) := hrz.cell (i := 1) rfl
        have f1z : wz.frozen? ⟨B, 1, none⟩ = false := hrz.free 1
        have HZ := Lib.hid (And.intro hrz hbz)
        clear hrz hbz
        have h1 : (s.extract k (k + 1)).size = 1 := by rw [ByteArray.size_extract]; omega
        have hcat : out.size + (s.extract k (k + 1)).size ≤ 9223372036854775807 := by omega
        have hcat2 : out.size + 1 ≤ 9223372036854775807 := by omega
        have z3 : (k : Int) + 1 ≤ (s.size : Int) := by omega
        have y3 : decide ((k : Int) + 1 ≤ (s.size : Int)) = true := decide_eq_true z3
        go_quiet (fail)
        go_wp2
        refine ⟨?rel, ?measure⟩
        case rel => exact ⟨k + 1, u, out ++ s.extract k (k + 1), rfl, by omega, (HZ.out.1.drew _).step, World.objAt.setBelow (HZ.out.1.drew _) 1 _ (below_drewN HZ.out.2 _) (Nat.le_refl _), by rw [ByteArray.size_append]; omega, soFar_byte HSO.out hlt (by rw [HX.out]; exact HNB.out)⟩
        case measure =>
          refine Nat.lt_of_le_of_lt (Nat.le_of_eq (Rdr.left (HZ.out.1.drew _).step)) (Nat.lt_of_lt_of_le ?_ (Nat.le_of_eq (Rdr.left HR.out).symm))
          omega
    · have g0 : decide ((k : Int) < (s.size : Int)) = false := by simp; omega
      have g0n : decide (k < s.size) = false := by simp; omega
      go_wp2_with fail
      go_quiet (fail)
      go_wp2_with fail
      go_ret
      exact ⟨k, u, out, rfl, HR.out.drew _, below_drewN HB.out _, hk, HSO.out, .inl (by omega)⟩

/-- spec.ReadName. -/
def SpecNamePost (s : ByteArray) (w : World) (e : Ending) (w' : World) : Prop :=
  ∃ (k : Nat) (u rd : Bool) (out : ByteArray), e = .returned (.tuple #[.string out, .int .i64 (k : Int), .bool (decide (0 < k) && (nx s k != 92)), .bool (!u && rd)]) ∧ Below w.heap.size w w' ∧ k ≤ s.size ∧
    (rd = true → Valid s) ∧ SoFar s k u out ∧ (k = s.size ∨ (isNc (nx s k) = false ∧ escF s k = false))

end Go.Proofs.YtbikpalfhlgnoaaGreatDoor
