/- cascadia.nodeText, nodeOwnText. -/
import Derived.Test.YtikimffifkiinaaDoorWriteText
namespace Go.Proofs.YtikimffifkiinaaDoor
open Go.RowKit
set_option linter.unusedVariables false
set_option linter.unusedSimpArgs false

theorem tyOf_ne1 {k : Int} (h : k ≠ 4) : tyOf k ≠ 1 := by
  unfold tyOf
  rw [if_neg h]
  split
  · omega
  · split
    · omega
    · split <;> omega

/-- A text, made of these bytes. -/
def BytesPost (l : List UInt8) (w : World) (e : Ending) (w' : World) : Prop := e = .returned (.string ⟨l.toArray⟩) ∧ Below w.heap.size w w'

set_option maxRecDepth 100000 in
set_option maxHeartbeats 4000000 in
theorem nodeText_any {B' : Nat} (w : World) {bl len : Nat} {nb : Nat → Nat} {vv : Nat → Value} {ts : List NodeD} (hF : Forest B' w bl len nb vv ts) (hR : RightT ts len) (hl : ts.length = len) {x : Nat} (hx : x < len) (h0 : 0 < x) :
    Calls Tryd.prog 51 #[.pointer (some ⟨nb x, 0, none⟩)] w (BytesPost (txts ts x (sz ts x)) w) := by
  have hfit := hR.nest.fit x hx
  have hle := hR.le
  have hwr := fun (w' : World) (hb : Below w.heap.size w w') (hbuf : Lib.IsBuffer 101 5 w.heap.size w.heap.size (Lib.byteCells []) w') => writeNode_any hF hR hl w.heap.size (sz ts x) x [] w' hx h0 (Nat.le_refl _) hb hbuf (by simp; omega)
  have hfr := Lib.fresh_isBuffer 101 5 w
  have hb0 : Below w.heap.size w (w.alloc (.cells #[.slice none 0 0, .int .i64 0, .int .i8 0] 101)) := (Below.refl _ _).alloc (Nat.le_refl _) _
  simp only [List.nil_append] at hwr
  have hcall := hwr _ hb0 hfr
  have HC := Lib.hid hcall
  have HB0 := Lib.hid hb0
  clear hwr hfr hb0 hcall hF hR
  go_enter Tryd.func51, Tryd.ntmps51
  go_wp2_with fail
  refine HC.out.mono ?_
  rintro e w1 ⟨rfl, hbuf, hb1⟩
  have hstr := Tryd.Buffer_String w.heap.size w.heap.size _ w1 hbuf
  have HS := Lib.hid hstr
  have HB1 := Lib.hid (HB0.out.trans hb1)
  clear hstr hbuf hb1 HC HB0
  go_wp2_with fail
  refine HS.out.mono ?_
  rintro e w2 ⟨rfl, n, rfl⟩
  go_wp2
  go_ret
  exact ⟨rfl, below_drewN HB1.out n⟩

set_option maxRecDepth 100000 in
set_option maxHeartbeats 4000000 in
theorem nodeOwnText_any {B' : Nat} (w : World) {bl len : Nat} {nb : Nat → Nat} {vv : Nat → Value} {ts : List NodeD} (hF : Forest B' w bl len nb vv ts) (hR : RightT ts len) (hl : ts.length = len) {x : Nat} (hx : x < len) (h0 : 0 < x) :
    Calls Tryd.prog 50 #[.pointer (some ⟨nb x, 0, none⟩)] w (BytesPost (txtL ts (kids (sz ts) x)) w) := by
  have hfit := hR.nest.fit x hx
  have hle := hR.le
  have hfr := Lib.fresh_isBuffer 101 5 w
  have hb0 : Below w.heap.size w (w.alloc (.cells #[.slice none 0 0, .int .i64 0, .int .i8 0] 101)) := (Below.refl _ _).alloc (Nat.le_refl _) _
  have c1 := (hF.node hx).fst
  simp only [nodeR] at c1
  rw [show fstK (fun i => i + sz ts i) x = kidTo (sz ts) x (x + 1) from rfl] at c1
  have c1' := cell_below hb0 c1
  obtain ⟨w0, hw0⟩ : ∃ w0, w.alloc (.cells #[.slice none 0 0, .int .i64 0, .int .i8 0] 101) = w0 := ⟨_, rfl⟩
  rw [hw0] at hfr hb0 c1'
  have HF := Lib.hid hF
  have HR := Lib.hid hR
  have HNEST := Lib.hid hR.nest
  have HM := Lib.hid (hR.text_le hl)
  have HB0 := Lib.hid hb0
  have HFR := Lib.hid hfr
  clear hb0 hfr hF hR
  go_enter Tryd.func50, Tryd.ntmps50
  go_wp2
  go_loopg [4] (x + sz ts x - (x + 1)) (fun gk c wr => ∃ (j f : Nat) (done : List Nat), gk = x + sz ts x - j ∧ x + 1 ≤ j ∧ j ≤ x + sz ts x ∧ c = lk ((kidTo (sz ts) x j).map nb) ∧ (j < x + sz ts x → par (sz ts) j = some x) ∧ x + sz ts x - j ≤ f ∧ done ++ kidsFrom (sz ts) (x + sz ts x) f j = kids (sz ts) x ∧ done.length ≤ j ∧
    Lib.IsBuffer 101 5 w.heap.size w.heap.size (Lib.byteCells (txtL ts done)) wr ∧ Below w.heap.size w wr)
  case atStart => exact ⟨x + 1, sz ts x, [], rfl, by omega, by have := (HR.out.sizes x hx).1; omega, rfl, fun h => par_first hx (by omega), by omega, rfl, Nat.zero_le _, HFR.out, HB0.out⟩
  case round =>
    obtain ⟨j, f, done, rfl, hj1, hj2, rfl, hpar, hf, hdone, hdl, hbuf, hbel⟩ := hrel
    by_cases hlt : j < x + sz ts x
    · have hjl : j < len := by omega
      have hjp := HNEST.out.pos j hjl
      have hlam := HNEST.out.lam x j hx (by omega) hlt
      have hpj := hpar hlt
      obtain ⟨g, rfl, hst⟩ := kidsFrom_step (z := sz ts) hlt hf
      rw [hst] at hdone
      have hdone' : (done ++ [j]) ++ kidsFrom (sz ts) (x + sz ts x) g (j + sz ts j) = kids (sz ts) x := by rw [List.append_assoc]; exact hdone
      have hn := (HF.out.below hbel).node hjl
      have c5 := hn.ty
      have c7 := hn.data
      have c4 := hn.nxt
      simp only [nodeR] at c5 c7 c4
      rw [nxt_kidTo hpj] at c4
      rw [kidTo_lt hlt, Option.map_some, lk_some]
      have htl := HM.out j
      have htL := txtL_length HM.out done
      have HP := Lib.hid hpj
      have HD := Lib.hid hdone'
      by_cases h4 : (ts.getD j default).kind = 4
      · rw [h4, show tyOf 4 = 1 from rfl] at c5
        rw [show dataOf (ts.getD j default) = (ts.getD j default).text by unfold dataOf; rw [if_neg (by omega), if_neg (by omega)]] at c7
        have hsn : txtL ts (done ++ [j]) = txtL ts done ++ (ts.getD j default).text.data.toList := by rw [txtL_snoc, txt, if_pos h4]
        obtain ⟨t, ht⟩ : ∃ t, (ts.getD j default).text = t := ⟨_, rfl⟩
        rw [ht] at c7 htl hsn
        have hws := Tryd.Buffer_WriteString w.heap.size w.heap.size (Lib.byteCells (txtL ts done)) t wr hbuf hbel.size (Lib.byteCells_one _) (by rw [Lib.byteCells_length]; omega)
        rw [← Lib.byteCells_append, ← hsn] at hws
        have HWS := Lib.hid hws
        have HBEL := Lib.hid hbel
        clear hn hst hdone hdone' hpj hpar hbuf h4 ht hws hsn hbel htL
        go_wp2_with fail
        refine HWS.out.mono ?_
        rintro e w2 ⟨rfl, hbuf2, hb2⟩
        have hb3 := HBEL.out.trans hb2
        have c4' := ((HF.out.below hb3).node hjl).nxt
        simp only [nodeR] at c4'
        rw [nxt_kidTo HP.out] at c4'
        have HB3 := Lib.hid (And.intro hbuf2 hb3)
        clear hbuf2 hb2 hb3 HWS HBEL
        go_wp2
        go_roundg (x + sz ts x - (j + sz ts j))
        case measure => omega
        case rel => exact ⟨j + sz ts j, g, done ++ [j], rfl, by omega, by omega, rfl, fun h => par_next HNEST.out HP.out hjl h, by omega, HD.out, by simp; omega, HB3.out.1, HB3.out.2⟩
      · have hq := tyOf_ne1 h4
        obtain ⟨q, hqq⟩ : ∃ q, tyOf (ts.getD j default).kind = q := ⟨_, rfl⟩
        rw [hqq] at c5 hq
        have hq1 : (q == 1) = false := by simpa using hq
        have hsn : txtL ts (done ++ [j]) = txtL ts done := by rw [txtL_snoc, txt, if_neg h4, List.append_nil]
        rw [← hsn] at hbuf
        have HB3 := Lib.hid (And.intro hbuf hbel)
        clear hn hst hdone hdone' hpj hpar hbuf h4 hsn hbel htL hq hqq c7 htl
        go_wp2
        go_roundg (x + sz ts x - (j + sz ts j))
        case measure => omega
        case rel => exact ⟨j + sz ts j, g, done ++ [j], rfl, by omega, by omega, rfl, fun h => par_next HNEST.out HP.out hjl h, by omega, HD.out, by simp; omega, HB3.out.1, HB3.out.2⟩
    · obtain rfl : j = x + sz ts x := by omega
      rw [kidTo_end hlt, Option.map_none, lk_none]
      rw [kidsFrom_end (Nat.le_refl _), List.append_nil] at hdone
      rw [hdone] at hbuf
      have hstr := Tryd.Buffer_String w.heap.size w.heap.size _ wr hbuf
      have HS := Lib.hid hstr
      have HBEL := Lib.hid hbel
      clear hstr hbuf hbel hdone hpar hf
      go_wp2_with fail
      refine HS.out.mono ?_
      rintro e w2 ⟨rfl, n, rfl⟩
      go_wp2
      go_ret
      exact ⟨rfl, below_drewN HBEL.out n⟩

end Go.Proofs.YtikimffifkiinaaDoor
