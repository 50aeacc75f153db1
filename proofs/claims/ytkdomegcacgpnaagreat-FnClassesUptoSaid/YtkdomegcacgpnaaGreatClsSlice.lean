/- goquery.getClassesSlice. -/
import Derived.Test.YtkdomegcacgpnaaGreatClsDom
import Derived.Test.YtkdomegcacgpnaaGreatReplAll
import Derived.Test.YtkdomegcacgpnaaGreatGoIndex
import Derived.Test.YtkdomegcacgpnaaGreatPtrAll
namespace Go.Proofs.YtkdomegcacgpnaaGreat
open Go.RowKit
set_option linter.unusedVariables false
set_option linter.unusedSimpArgs false

set_option maxRecDepth 100000 in
set_option maxHeartbeats 1000000 in
theorem slice_any (s : ByteArray) (w : World) (hs : s.size ≤ 2000000000000) (ha : ∀ i (h : i < s.size), (s[i]'h).toNat < 128 ∧ (s[i]'h).toNat ≠ 11) :
    Calls Tryz.prog 75 #[.string s] w (FieldsPost s w) := by
  have HF := Lib.hid (fields_any s w hs ha)
  clear ha
  go_enter Tryz.func75, Tryz.ntmps75
  go_wp2_with fail
  refine HF.out.mono ?_
  rintro e w1 ⟨v, ws, rfl, h1, h2, h3⟩
  go_wp2
  go_ret
  exact ⟨v, ws, rfl, h1, h2, h3⟩

end Go.Proofs.YtkdomegcacgpnaaGreat
