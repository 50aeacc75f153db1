/- html.escape into a strings.Builder. -/
import Derived.Test.YtphppdbhofeagaaDoorIndexAny
import Derived.Test.YtphppdbhofeagaaDoorBuild
import Derived.Deep.LoopGhost
import Derived.BigGuardPart
namespace Go.Proofs.YtphppdbhofeagaaDoor
open Go.RowKit
set_option linter.unusedVariables false
set_option linter.unusedSimpArgs false

/-- The writer: a builder behind an interface. -/
abbrev wtr (b : Nat) : Value := .iface 53 (.pointer (some ⟨b, 0, none⟩))

theorem mtdStr (b : Nat) (w : World) : (method 241 53 (.pointer (some ⟨b, 0, none⟩)) "WriteString").run Tryd.prog w = .ok (91, .pointer (some ⟨b, 0, none⟩)) w := by kernel_rfl
theorem mtdByte (b : Nat) (w : World) : (method 241 53 (.pointer (some ⟨b, 0, none⟩)) "WriteByte").run Tryd.prog w = .ok (90, .pointer (some ⟨b, 0, none⟩)) w := by kernel_rfl

theorem nilStr (b : Nat) (w : World) : (nilAhead 241 53 (.pointer (some ⟨b, 0, none⟩)) "WriteString").run Tryd.prog w = .ok (some false) w := by kernel_rfl
theorem nilByte (b : Nat) (w : World) : (nilAhead 241 53 (.pointer (some ⟨b, 0, none⟩)) "WriteByte").run Tryd.prog w = .ok (some false) w := by kernel_rfl

theorem ofNat_of {b : UInt8} {n : Nat} (h : b.toNat = n) : b = UInt8.ofNat n := by rw [← h]; simp

/-- Written: these bytes stand in the builder, no error. -/
def Wrote (B b : Nat) (l : List UInt8) (w : World) (e : Ending) (w' : World) : Prop := e = .returned .nilIface ∧ IsB B b l w' ∧ Below B w w'

set_option maxRecDepth 100000 in
set_option maxHeartbeats 4000000 in
theorem escape_any (B b : Nat) (l : List UInt8) (s : ByteArray) (w : World) (h : IsB B b l w) (hs : s.size ≤ 100000000) (hlen : l.length ≤ 100000000000) (hBw : B ≤ w.heap.size) :
    Calls Tryd.prog 59 #[wtr b, .string s] w (Wrote B b (l ++ escL s.data.toList) w) := by
  have hmS := mtdStr b
  have hmB := mtdByte b
  have hnS := nilStr b
  have hnB := nilByte b
  have hix := indexAny_any s w hs
  have HIX := Lib.hid hix
  have HB := Lib.hid h
  clear hix h
  go_enter Tryd.func59, Tryd.ntmps59
  go_wp2_with fail
  refine HIX.out.mono ?_
  rintro e w1 ⟨r, rfl, hr, hb1⟩
  have HR := Lib.hid hr
  have HB1 := Lib.hid (HB.out.below hb1)
  have HBL := Lib.hid (hb1.mono hBw)
  clear hr hb1 HIX HB
  go_wp2
  go_loopg [1, 5] s.size (fun gk sv iv wr => ∃ (t : ByteArray) (r : Int) (done : List UInt8), gk = t.size ∧ sv = .string t ∧ iv = .int .i64 r ∧ t.size ≤ s.size ∧ done.length + 5 * t.size ≤ 5 * s.size ∧ Hid (IdxAt t.data.toList r) ∧ Hid (done ++ escL t.data.toList = escL s.data.toList) ∧ Hid (IsB B b (l ++ done) wr) ∧ Hid (Below B w wr))
  case atStart => exact ⟨s, r, [], rfl, rfl, rfl, Nat.le_refl _, by simp, HR, Lib.hid rfl, by rw [List.append_nil]; exact HB1, HBL⟩
  case round =>
    obtain ⟨t, r, done, rfl, rfl, rfl, hts, hdl, HI, HD, HBW, HBL⟩ := hrel
    clear HR HB1
    have hBr : B ≤ wr.heap.size := Nat.le_trans hBw HBL.out.size
    rcases HI.out with ⟨h1, hno⟩ | ⟨i, hi, h1, hno, hsp⟩
    · subst h1
      have hw := writeStr_any B b (l ++ done) t wr HBW.out (by rw [List.length_append]; omega) hBr
      have hall := noSp_all hno
      have HW := Lib.hid hw
      have HA := Lib.hid hall
      clear hw hall hno hdl hBr
      go_wp2_with fail
      refine HW.out.mono ?_
      rintro e w2 ⟨rfl, hb2, hbl2⟩
      have HB2 := Lib.hid hb2
      have HBL2 := Lib.hid (HBL.out.trans hbl2)
      clear hb2 hbl2 HW HBW
      go_wp2
      go_ret
      refine ⟨rfl, ?_, HBL2.out⟩
      have := HB2.out
      rwa [List.append_assoc, ← HA.out, HD.out] at this
    · subst h1
      have htl : t.data.toList.length = t.size := by rw [Array.length_toList]; rfl
      have hil : i < t.size := by omega
      have hget : t.data.toList.getD i 0 = t[i]'hil := by
        rw [List.getD_eq_getElem?_getD, List.getElem?_eq_getElem hi]
        rfl
      have hat := escL_at hi hno
      rw [hget] at hsp hat
      have hx1 : (t.extract 0 i).data.toList = t.data.toList.take i := by rw [xtr_list, List.drop_zero, Nat.sub_zero]
      have hx2 : (t.extract (i + 1) t.size).data.toList = t.data.toList.drop (i + 1) := by rw [xtr_list, List.take_of_length_le (by rw [List.length_drop, htl]; exact Nat.le_refl _)]
      have hz1 : (t.extract 0 i).size = i := by simp [ByteArray.size_extract]; omega
      have hz2 : (t.extract (i + 1) t.size).size = t.size - (i + 1) := by simp [ByteArray.size_extract]
      have hw := fun (w' : World) (hd : Below wr.heap.size wr w') => writeStr_any B b (l ++ done) (t.extract 0 i) w' (HBW.out.below hd) (by rw [List.length_append, hz1]; omega) (Nat.le_trans hBr hd.size)
      rw [hx1] at hw
      have hix := fun (w' : World) => indexAny_any (t.extract (i + 1) t.size) w' (by rw [hz2]; omega)
      have hwE := fun (x : ByteArray) (w' : World) (h1 : IsB B b (l ++ done ++ t.data.toList.take i) w') (h2 : B ≤ w'.heap.size) (h3 : x.size ≤ 10) => writeStr_any B b (l ++ done ++ t.data.toList.take i) x w' h1 (by rw [List.length_append, List.length_append, List.length_take]; omega) h2
      have HW := Lib.hid hw
      have HX := Lib.hid hix
      have HE := Lib.hid hwE
      have HAT := Lib.hid (And.intro hat (And.intro hx2 hz2))
      have HSZ := Lib.hid (And.intro htl hdl)
      clear hw hix hwE hat hx1 hx2 hz1 hno htl hdl hget hi
      go_wp2_with fail
      go_region_with (go_at_call 91; refine (HW.out _ (by first | exact Below.refl _ _ | exact (Below.refl _ _).drew)).mono ?_; rintro e w2 ⟨rfl, hb2, hbl2⟩)
      all_goals
        have HB2 := Lib.hid hb2
        have HBL2 := Lib.hid (HBL.out.trans ((Below.refl B wr).drew.trans hbl2))
        clear hb2 hbl2 HW HBW HI
        rcases special_is hsp with hc | hc | hc | hc | hc | hc
        all_goals
          clear hsp
          have HESC := Lib.hid (congrArg escB (ofNat_of hc))
          go_wp2_with fail
          refine (HE.out _ _ HB2.out (Nat.le_trans hBw HBL2.out.size) (by decide)).mono ?_
          rintro e w3 ⟨rfl, hb3, hbl3⟩
          have HB3 := Lib.hid hb3
          have HBL3 := Lib.hid (HBL2.out.trans hbl3)
          clear hb3 hbl3 HB2 HBL2 HE
          go_wp2_with fail
          refine (HX.out _).mono ?_
          rintro e w4 ⟨r2, rfl, hr2, hbl4⟩
          have HB4 := Lib.hid (HB3.out.below hbl4)
          have HBL4 := Lib.hid (HBL3.out.trans (hbl4.mono (Nat.le_trans hBw HBL3.out.size)))
          have HR2 := Lib.hid hr2
          clear hr2 hbl4 HB3 HBL3 HX
          go_wp2
          go_roundg (t.size - (i + 1))
          case measure => omega
          case rel =>
            have hl1 := escB_length (t[i]'hil)
            have hl2 := HSZ.out
            refine ⟨t.extract (i + 1) t.size, r2, done ++ t.data.toList.take i ++ escB (t[i]'hil), HAT.out.2.2.symm, rfl, rfl, by rw [HAT.out.2.2]; omega, ?_, HR2, Lib.hid ?_, Lib.hid ?_, HBL4⟩
            · rw [List.length_append, List.length_append, List.length_take, HAT.out.2.2]; omega
            · have := HD.out
              rw [HAT.out.1] at this
              rw [HAT.out.2.1, ← this]
              simp only [List.append_assoc]
            · have := HB4.out
              rw [HESC.out]
              simp only [List.append_assoc] at this ⊢
              exact this

end Go.Proofs.YtphppdbhofeagaaDoor
