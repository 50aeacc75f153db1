/- impl: AttrsAdded, AttrsTaken. -/
import Derived.Test.YtoleejaabiafcaaTakeClass
import Derived.Test.YtoleejaabiafcaaElemAttrs
namespace Go.Proofs.Ytoleejaabiafcaa
open Go.RowKit
set_option linter.unusedVariables false
set_option linter.unusedSimpArgs false

/-- Attributes as they come out of a step of classes. -/
def ClsGives (l : KVs) (W : Wds) (m sz : Nat) (w : World) (e : Ending) (w' : World) : Prop := ∃ a c l2, e = .returned (.slice a l2.length c) ∧ Hid (AttrsAt w' a l2.length l2) ∧ Hid (GoodC l2 W m sz) ∧ Hid (NearC l l2) ∧ Hid (Below w.heap.size w w')

set_option maxRecDepth 100000 in
set_option maxHeartbeats 1000000 in
theorem attrsAdded_any (aa : Option Addr) (al ac : Nat) (l : KVs) (W0 : Wds) (m sz : Nat) (a : Option Addr) (xs : List ByteArray) (c : Nat) (w : World) (h : AttrsAt w aa al l) (hg : GoodC l W0 m sz) (hm : m ≤ 50) (hsz : sz ≤ 5000) (hx : NamesAt w a xs c) :
    Calls Try.prog 37 #[.slice aa al ac, .slice a xs.length c] w (ClsGives l (moreW W0 (xs.map (·.data.toList))) (m + 1) (sz + 400) w) := by
  have hll := h.1
  have hgl := hg.len
  have hel := element_any aa al ac l w h (by omega)
  have HEL := Lib.hid hel
  have HG := Lib.hid hg
  have HX := Lib.hid hx
  clear hel h hg hx hgl
  go_enter Try.func37, Try.ntmps37
  go_wp2_with fail
  refine HEL.out.mono ?_
  rintro e w1 ⟨s, q, g, v, rfl, cs, cq, hn, ho, hg, hb⟩
  have hset := addClass_any s q g v l W0 m sz a xs c w1 cs cq hn ho HG.out hm hsz (HX.out.below hb.out)
  have HSET := Lib.hid hset
  clear hset hn ho HEL
  go_wp2_with fail
  refine HSET.out.mono ?_
  rintro e w2 ⟨v2, l2, rfl, hgood, hnear, hn2, ho2, hb2⟩
  have hl2 := hgood.out.len
  have hat := attrs_any g v2 l2 w2 hn2.out ho2.out (by omega)
  have hb02 : Below w.heap.size w w2 := hb.out.trans (hb2.out.mono hg)
  have HAT := Lib.hid hat
  have HB2 := Lib.hid hb02
  clear hat hn2 ho2 hb hb2 hb02 HSET
  go_wp2_with fail
  refine HAT.out.mono ?_
  rintro e w3 ⟨pv, rfl, ho3, hb3⟩
  have hb4 : Hid (Below w.heap.size w w3) := Lib.hid (HB2.out.trans (hb3.out.mono HB2.out.size))
  have hfit : KVFit l2 := fun x hx => by have := hgood.out.size x hx; unfold maxLen; omega
  obtain ⟨pa, pc, rfl, hata⟩ := ho3.out.at_ hfit
  have HATA := Lib.hid hata
  clear ho3 hb3 HAT HB2 hata hfit
  go_wp2
  go_ret
  exact ⟨pa, pc, l2, rfl, HATA, hgood, hnear, hb4⟩

set_option maxRecDepth 100000 in
set_option maxHeartbeats 1000000 in
theorem attrsTaken_any (aa : Option Addr) (al ac : Nat) (l : KVs) (W0 : Wds) (m sz : Nat) (a : Option Addr) (xs : List ByteArray) (c : Nat) (w : World) (h : AttrsAt w aa al l) (hg : GoodC l W0 m sz) (hm : m ≤ 50) (hsz : sz ≤ 5000) (hx : NamesAt w a xs c) :
    Calls Try.prog 36 #[.slice aa al ac, .slice a xs.length c] w (ClsGives l (lessW W0 (xs.map (·.data.toList))) (m + 1) (sz + 400) w) := by
  have hll := h.1
  have hgl := hg.len
  have hel := element_any aa al ac l w h (by omega)
  have HEL := Lib.hid hel
  have HG := Lib.hid hg
  have HX := Lib.hid hx
  clear hel h hg hx hgl
  go_enter Try.func36, Try.ntmps36
  go_wp2_with fail
  refine HEL.out.mono ?_
  rintro e w1 ⟨s, q, g, v, rfl, cs, cq, hn, ho, hg, hb⟩
  have hset := takeClass_any s q g v l W0 m sz a xs c w1 cs cq hn ho HG.out hm hsz (HX.out.below hb.out)
  have HSET := Lib.hid hset
  clear hset hn ho HEL
  go_wp2_with fail
  refine HSET.out.mono ?_
  rintro e w2 ⟨v2, l2, rfl, hgood, hnear, hn2, ho2, hb2⟩
  have hl2 := hgood.out.len
  have hat := attrs_any g v2 l2 w2 hn2.out ho2.out (by omega)
  have hb02 : Below w.heap.size w w2 := hb.out.trans (hb2.out.mono hg)
  have HAT := Lib.hid hat
  have HB2 := Lib.hid hb02
  clear hat hn2 ho2 hb hb2 hb02 HSET
  go_wp2_with fail
  refine HAT.out.mono ?_
  rintro e w3 ⟨pv, rfl, ho3, hb3⟩
  have hb4 : Hid (Below w.heap.size w w3) := Lib.hid (HB2.out.trans (hb3.out.mono HB2.out.size))
  have hfit : KVFit l2 := fun x hx => by have := hgood.out.size x hx; unfold maxLen; omega
  obtain ⟨pa, pc, rfl, hata⟩ := ho3.out.at_ hfit
  have HATA := Lib.hid hata
  clear ho3 hb3 HAT HB2 hata hfit
  go_wp2
  go_ret
  exact ⟨pa, pc, l2, rfl, HATA, hgood, hnear, hb4⟩

end Go.Proofs.Ytoleejaabiafcaa
