/- impl.TextWith. -/
import Derived.Test.YtikimffifkiinaaTextAll
import Derived.Laws.EntriesVeiled
namespace Go.Proofs.Ytikimffifkiinaa
open Go.RowKit
set_option linter.unusedVariables false
set_option linter.unusedSimpArgs false

def nameOpt (p : ByteArray) : Option ByteArray := if p.toList.isEmpty = true then none else some p

def TextOkPost (ps : List ByteArray) (sep : ByteArray) (w : World) (e : Ending) (w' : World) : Prop := e = .returned (.tuple #[.string ⟨(Lib.join (ps.map (·.data.toList)) sep.data.toList).toArray⟩, .bool true]) ∧ Below w.heap.size w w'

set_option maxRecDepth 100000 in
set_option maxHeartbeats 4000000 in
theorem implText_any (W : World) (a : Option Addr) (len cap : Nat) (ts : List NodeD) (hR : RightT ts len) (hN : Nodes W a len ts) (v : Value) (l : List Nat) (r1 : ReadsAs W v (l.map intV)) (hl : ∀ i ∈ l, i < len) (hll : l.length ≤ 200)
    (hch : ∀ w, Below W.heap.size W w → Calls Try.prog 21 #[.slice a len cap, v] w (ChosenPost ts len l w))
    (sep : ByteArray) (trim : Bool) (p : ByteArray) (htr : ∀ i ∈ l, Trimmable ts i trim (nameOpt p)) (hlim : (Lib.join ((partsL ts trim (nameOpt p) l).map (·.data.toList)) sep.data.toList).length ≤ 140737488355328) :
    Calls Try.prog 9 #[.slice a len cap, v, .string sep, .bool trim, .string p] W (TextOkPost (partsL ts trim (nameOpt p) l) sep W) := by
  have hb0 : Below W.heap.size W (W.alloc (.cells #[.string p] 9)) := (Below.refl _ _).alloc (Nat.le_refl _) _
  have hcall := hch _ hb0
  have g0 := cell_alloc_new' W #[.string p] 9 (k := W.heap.size) (i := 0) (x := .string p) rfl rfl
  have HCALL := Lib.hid hcall
  have HB0 := Lib.hid hb0
  have HR := Lib.hid hR
  have HL := Lib.hid hl
  have HTR := Lib.hid htr
  have HLIM := Lib.hid hlim
  clear hcall hch hR hN r1 hl htr hlim hb0
  go_enter Try.func9, Try.ntmps9
  go_wp2_with fail
  refine HCALL.out.mono ?_
  rintro e w1 ⟨bl, nb, vv, s, v1, rfl, hF, hs, hb⟩
  have HB1 := Lib.hid (HB0.out.trans (hb.out.mono HB0.out.size))
  have g1 := cell_below hb.out g0
  clear hb g0 HCALL
  have g2 := cell_alloc_old g1 (.cells #[.string sep, .bool trim, .nilFunc] 52)
  have hne : W.heap.size < w1.heap.size := World.block_lt_of_cell? _ _ g1
  cases hE : p.toList.isEmpty
  · have hnm : nameOpt p = (some p) := by unfold nameOpt; rw [hE]; rfl
    have hb2 : Below w1.heap.size w1 (w1.alloc (.cells #[.string sep, .bool trim, .func (.func 22) #[] #[.pointer (some ⟨W.heap.size, 0, none⟩)]] 52)) := (Below.refl _ _).alloc (Nat.le_refl _) _
    have hopt : OptsAt (w1.alloc (.cells #[.string sep, .bool trim, .func (.func 22) #[] #[.pointer (some ⟨W.heap.size, 0, none⟩)]] 52)) w1.heap.size W.heap.size sep trim (some p) :=
      ⟨cell_alloc_new' w1 _ _ rfl rfl, cell_alloc_new' w1 _ _ rfl rfl, cell_alloc_new' w1 _ _ rfl rfl, fun nm h => by cases h; exact cell_alloc_old g1 _⟩
    have hcall := text_any s v1 l _ bl len nb vv ts (hs.out.below hb2) (hF.out.below hb2) HR.out HL.out hll w1.heap.size W.heap.size sep trim (some p) hopt (by rw [← hnm]; exact HTR.out) (by rw [← hnm]; exact HLIM.out)
    have HC := Lib.hid hcall
    have HB2 := Lib.hid ((HB1.out).trans (hb2.mono HB1.out.size))
    have HNM := Lib.hid hnm
    clear hcall hb2 hopt hnm hF hs
    go_wp2_with fail
    refine HC.out.mono ?_
    rintro e w3 ⟨rfl, hb3⟩
    have HB3 := Lib.hid (HB2.out.trans (hb3.mono HB2.out.size))
    clear hb3 HC
    rw [HNM.out]
    go_wp2
    go_ret2
    refine ⟨?_, HB3.out⟩
    first
      | rfl
      | (rw [HNM.out]; rfl)
      | (simp only [HNM.out]; rfl)
  · have hnm : nameOpt p = none := by unfold nameOpt; rw [hE]; rfl
    have hb2 : Below w1.heap.size w1 (w1.alloc (.cells #[.string sep, .bool trim, .nilFunc] 52)) := (Below.refl _ _).alloc (Nat.le_refl _) _
    have hopt : OptsAt (w1.alloc (.cells #[.string sep, .bool trim, .nilFunc] 52)) w1.heap.size W.heap.size sep trim none :=
      ⟨cell_alloc_new' w1 _ _ rfl rfl, cell_alloc_new' w1 _ _ rfl rfl, cell_alloc_new' w1 _ _ rfl rfl, fun nm h => by cases h⟩
    have hcall := text_any s v1 l _ bl len nb vv ts (hs.out.below hb2) (hF.out.below hb2) HR.out HL.out hll w1.heap.size W.heap.size sep trim none hopt (by rw [← hnm]; exact HTR.out) (by rw [← hnm]; exact HLIM.out)
    have HC := Lib.hid hcall
    have HB2 := Lib.hid ((HB1.out).trans (hb2.mono HB1.out.size))
    have HNM := Lib.hid hnm
    clear hcall hb2 hopt hnm hF hs
    go_wp2_with fail
    refine HC.out.mono ?_
    rintro e w3 ⟨rfl, hb3⟩
    have HB3 := Lib.hid (HB2.out.trans (hb3.mono HB2.out.size))
    clear hb3 HC
    rw [HNM.out]
    go_wp2
    go_ret2
    refine ⟨?_, HB3.out⟩
    first
      | rfl
      | (rw [HNM.out]; rfl)
      | (simp only [HNM.out]; rfl)

end Go.Proofs.Ytikimffifkiinaa
