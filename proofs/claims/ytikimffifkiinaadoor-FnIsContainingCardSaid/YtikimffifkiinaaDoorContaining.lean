/- cascadia.containsPseudoClassSelector.Match, IsContaining; impl.IsContaining, IsContainingOwn. -/
import Derived.Test.YtikimffifkiinaaDoorNodeText
import Derived.Test.YtikimffifkiinaaDoorSearch
import Derived.Test.YtikimffifkiinaaDoorLower
namespace Go.Proofs.YtikimffifkiinaaDoor
open Go.RowKit
set_option linter.unusedVariables false
set_option linter.unusedSimpArgs false

def IsPost (Q : Prop) (w : World) (e : Ending) (w' : World) : Prop := ∃ b : Bool, e = .returned (.bool b) ∧ (b = true ↔ Q) ∧ Below w.heap.size w w'

/-- The text that is asked. -/
def whole (ts : List NodeD) (x : Nat) (own : Bool) : ByteArray := if own then ⟨(txtL ts (kids (sz ts) x)).toArray⟩ else ⟨(txts ts x (sz ts x)).toArray⟩

set_option maxRecDepth 100000 in
set_option maxHeartbeats 4000000 in
theorem match_any {B' : Nat} (w : World) {bl len : Nat} {nb : Nat → Nat} {vv : Nat → Value} {ts : List NodeD} (hF : Forest B' w bl len nb vv ts) (hR : RightT ts len) (hl : ts.length = len) {x : Nat} (hx : x < len) (h0 : 0 < x) (p : ByteArray) (hp : p.size ≤ 1000) (own : Bool)
    (hs : (whole ts x own).size ≤ 4611686018427387904) (hn : NoCap (whole ts x own).data.toList) :
    Calls Tryd.prog 35 #[.agg #[.string p, .bool own], .pointer (some ⟨nb x, 0, none⟩)] w (IsPost (Has (whole ts x own) p) w) := by
  have hfr : ∀ o, Below w.heap.size w (w.alloc o) := fun o => (Below.refl _ _).alloc (Nat.le_refl _) o
  obtain ⟨s, hsd⟩ : ∃ s, whole ts x own = s := ⟨_, rfl⟩
  rw [hsd] at hs hn ⊢
  have hlow := fun w' => toLower_any s w' hs hn
  have hcon := fun w' => contains_str s p w' hs hp
  have HL := Lib.hid hlow
  have HC := Lib.hid hcon
  cases own
  · have hsd' : (⟨(txts ts x (sz ts x)).toArray⟩ : ByteArray) = s := hsd
    have htx : ∀ w' : World, Below w.heap.size w w' → Calls Tryd.prog 51 #[.pointer (some ⟨nb x, 0, none⟩)] w' (SameStr s w') := fun w' hb => by
      have := nodeText_any w' (hF.below hb) hR hl hx h0
      unfold BytesPost at this
      rw [hsd'] at this
      exact this
    have HT := Lib.hid htx
    have HFR := Lib.hid hfr
    clear htx hlow hcon hsd hsd' hF hR hs hn hfr
    go_enter Tryd.func35, Tryd.ntmps35
    go_wp2_with fail
    refine (HT.out _ (HFR.out _)).mono ?_
    rintro e w1 ⟨rfl, hb1⟩
    have HB1 := Lib.hid ((HFR.out _).trans (hb1.mono (HFR.out _).size))
    have cp := cell_below hb1 (cell_alloc_new' w #[.string p, .bool false] 63 (k := w.heap.size) (i := 0) (x := .string p) rfl rfl)
    clear hb1
    go_wp2_with fail
    refine (HL.out w1).mono ?_
    rintro e w2 ⟨rfl, hb2⟩
    have cp2 := cell_below hb2 cp
    have HB2 := Lib.hid (HB1.out.trans (hb2.mono HB1.out.size))
    clear hb2 cp
    go_wp2_with fail
    refine (HC.out w2).mono ?_
    rintro e w3 ⟨b, hb, rfl, rfl⟩
    have HQ := Lib.hid hb
    clear hb
    go_wp2
    go_ret
    exact ⟨b, rfl, HQ.out, HB2.out⟩
  · have hsd' : (⟨(txtL ts (kids (sz ts) x)).toArray⟩ : ByteArray) = s := hsd
    have htx : ∀ w' : World, Below w.heap.size w w' → Calls Tryd.prog 50 #[.pointer (some ⟨nb x, 0, none⟩)] w' (SameStr s w') := fun w' hb => by
      have := nodeOwnText_any w' (hF.below hb) hR hl hx h0
      unfold BytesPost at this
      rw [hsd'] at this
      exact this
    have HT := Lib.hid htx
    have HFR := Lib.hid hfr
    clear htx hlow hcon hsd hsd' hF hR hs hn hfr
    go_enter Tryd.func35, Tryd.ntmps35
    go_wp2_with fail
    refine (HT.out _ (HFR.out _)).mono ?_
    rintro e w1 ⟨rfl, hb1⟩
    have HB1 := Lib.hid ((HFR.out _).trans (hb1.mono (HFR.out _).size))
    have cp := cell_below hb1 (cell_alloc_new' w #[.string p, .bool true] 63 (k := w.heap.size) (i := 0) (x := .string p) rfl rfl)
    clear hb1
    go_wp2_with fail
    refine (HL.out w1).mono ?_
    rintro e w2 ⟨rfl, hb2⟩
    have cp2 := cell_below hb2 cp
    have HB2 := Lib.hid (HB1.out.trans (hb2.mono HB1.out.size))
    clear hb2 cp
    go_wp2_with fail
    refine (HC.out w2).mono ?_
    rintro e w3 ⟨b, hb, rfl, rfl⟩
    have HQ := Lib.hid hb
    clear hb
    go_wp2
    go_ret
    exact ⟨b, rfl, HQ.out, HB2.out⟩

set_option maxRecDepth 100000 in
set_option maxHeartbeats 4000000 in
theorem isContaining_any {B' : Nat} (w : World) {bl len : Nat} {nb : Nat → Nat} {vv : Nat → Value} {ts : List NodeD} (hF : Forest B' w bl len nb vv ts) (hR : RightT ts len) (hl : ts.length = len) {x : Nat} (hx : x < len) (h0 : 0 < x) (p : ByteArray) (hp : p.size ≤ 1000) (own : Bool)
    (hs : (whole ts x own).size ≤ 4611686018427387904) (hn : NoCap (whole ts x own).data.toList) :
    Calls Tryd.prog 20 #[.pointer (some ⟨nb x, 0, none⟩), .string p, .bool own] w (IsPost (Has (whole ts x own) p) w) := by
  have hm := match_any w hF hR hl hx h0 p hp own hs hn
  have HM := Lib.hid hm
  clear hm hF hR hs hn
  go_enter Tryd.func20, Tryd.ntmps20
  go_wp2_with fail
  refine HM.out.mono ?_
  rintro e w1 ⟨b, rfl, hb, hb1⟩
  have HB := Lib.hid (And.intro hb hb1)
  clear hb hb1
  go_wp2
  go_ret
  exact ⟨b, rfl, HB.out.1, HB.out.2⟩

end Go.Proofs.YtikimffifkiinaaDoor
