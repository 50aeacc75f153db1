/- html.render1: a node with all beneath it, into a strings.Builder. (Under way: texts and comments.) -/
import Derived.Test.YtphppdbhofeagaaDoorRend
import Derived.Test.YtphppdbhofeagaaDoorGrowAll
import Derived.Test.YtphppdbhofeagaaDoorImplRight
namespace Go.Proofs.YtphppdbhofeagaaDoor
open Go.RowKit
set_option linter.unusedVariables false
set_option linter.unusedSimpArgs false

set_option maxRecDepth 100000 in
set_option maxHeartbeats 4000000 in
theorem renderText_any {B' : Nat} {W : World} {bl len : Nat} {nb : Nat → Nat} {vv : Nat → Value} {ts : List NodeD} (hF : Forest B' W bl len nb vv ts) (hR : RightT ts len) (b : Nat) (x : Nat) (l : List UInt8) (w : World) (hx : x < len) (hb : Below W.heap.size W w)
    (hbuf : IsB W.heap.size b l w) (hk : (ts.getD x default).kind = 4) (ht : (ts.getD x default).text.size ≤ 4000) (hlen : l.length ≤ 100000000000) :
    Calls Tryd.prog 56 #[wtr b, .pointer (some ⟨nb x, 0, none⟩)] w (Wrote W.heap.size b (l ++ rend ts x) w) := by
  have hr := rend_text hR.nest hx hk
  have hn := (hF.below hb).node hx
  have c5 := hn.ty
  have c7 := hn.data
  simp only [nodeR] at c5 c7
  rw [hk, show tyOf 4 = 1 from rfl] at c5
  rw [show dataOf (ts.getD x default) = (ts.getD x default).text by unfold dataOf; rw [if_neg (by omega), if_neg (by omega)]] at c7
  rw [hr]
  obtain ⟨t, htt⟩ : ∃ t, (ts.getD x default).text = t := ⟨_, rfl⟩
  rw [htt] at c7 ht ⊢
  have he := escape_any W.heap.size b l t w hbuf (by omega) hlen hb.size
  have HE := Lib.hid he
  clear he hr hF hR hn hbuf hk htt
  go_enter Tryd.func56, Tryd.ntmps56
  go_wp2_with fail
  refine HE.out.mono ?_
  rintro e w2 ⟨rfl, hb2, hbl2⟩
  have H2 := Lib.hid (And.intro hb2 hbl2)
  clear hb2 hbl2 HE
  go_wp2
  go_ret
  exact ⟨rfl, H2.out.1, H2.out.2⟩

set_option maxRecDepth 100000 in
set_option maxHeartbeats 4000000 in
theorem renderComment_any {B' : Nat} {W : World} {bl len : Nat} {nb : Nat → Nat} {vv : Nat → Value} {ts : List NodeD} (hF : Forest B' W bl len nb vv ts) (hR : RightT ts len) (b : Nat) (x : Nat) (l : List UInt8) (w : World) (hx : x < len) (hb : Below W.heap.size W w)
    (hbuf : IsB W.heap.size b l w) (hk : (ts.getD x default).kind = 5) (hlet : Letters (ts.getD x default).text) (ht : (ts.getD x default).text.size ≤ 4000) (hlen : l.length + 4 ≤ 100000000000) :
    Calls Tryd.prog 56 #[wtr b, .pointer (some ⟨nb x, 0, none⟩)] w (Wrote W.heap.size b (l ++ rend ts x) w) := by
  have hmS := mtdStr b
  have hnS := nilStr b
  have hr := rend_comment hR.nest hx hk
  have hn := (hF.below hb).node hx
  have c5 := hn.ty
  have hc7 := fun (w' : World) (hw : Below W.heap.size w w') => ((hF.below (hb.trans hw)).node hx).data
  simp only [nodeR] at c5 hc7
  rw [hk, show tyOf 5 = 4 from rfl] at c5
  rw [show dataOf (ts.getD x default) = (ts.getD x default).text by unfold dataOf; rw [if_neg (by omega), if_neg (by omega)]] at hc7
  rw [hr]
  obtain ⟨t, htt⟩ : ∃ t, (ts.getD x default).text = t := ⟨_, rfl⟩
  rw [htt] at hc7 ht hlet ⊢
  have h1 := writeStr_any W.heap.size b l ⟨#[60, 33, 45, 45]⟩ w hbuf (by show l.length + 4 ≤ _; omega) hb.size
  have h2 := fun (w' : World) (h : IsB W.heap.size b (l ++ [60, 33, 45, 45]) w') (hw : Below W.heap.size w w') => escapeComment_any W.heap.size b (l ++ [60, 33, 45, 45]) t w' h hlet (by omega) (by rw [List.length_append]; exact hlen) (Nat.le_trans hb.size hw.size)
  have htl : t.data.toList.length = t.size := by rw [Array.length_toList]; rfl
  have h3 := fun (w' : World) (h : IsB W.heap.size b (l ++ [60, 33, 45, 45] ++ t.data.toList) w') (hw : Below W.heap.size w w') => writeStr_any W.heap.size b (l ++ [60, 33, 45, 45] ++ t.data.toList) ⟨#[45, 45, 62]⟩ w' h (by rw [List.length_append, List.length_append, htl]; show l.length + 4 + t.size + 3 ≤ _; omega) (Nat.le_trans hb.size hw.size)
  have H1 := Lib.hid h1
  have H2 := Lib.hid h2
  have H3 := Lib.hid h3
  have HC7 := Lib.hid hc7
  have c7 := hc7 w (Below.refl _ _)
  clear h1 h2 h3 hc7 hr hF hR hn hbuf hk htt hlet htl
  go_enter Tryd.func56, Tryd.ntmps56
  go_wp2_with fail
  refine H1.out.mono ?_
  rintro e w2 ⟨rfl, hb2, hbl2⟩
  have c7b := HC7.out w2 hbl2
  have HA := Lib.hid (And.intro hb2 hbl2)
  clear hb2 hbl2 H1
  go_wp2_with fail
  refine (H2.out w2 HA.out.1 HA.out.2).mono ?_
  rintro e w3 ⟨rfl, hb3, hbl3⟩
  have HB := Lib.hid (And.intro hb3 (HA.out.2.trans hbl3))
  clear hb3 hbl3 H2
  go_wp2_with fail
  refine (H3.out w3 HB.out.1 HB.out.2).mono ?_
  rintro e w4 ⟨rfl, hb4, hbl4⟩
  have HD := Lib.hid (And.intro hb4 (HB.out.2.trans hbl4))
  clear hb4 hbl4 H3
  go_wp2
  go_ret
  refine ⟨rfl, ?_, HD.out.2⟩
  have := HD.out.1
  simp only [List.append_assoc] at this ⊢
  exact this

end Go.Proofs.YtphppdbhofeagaaDoor
