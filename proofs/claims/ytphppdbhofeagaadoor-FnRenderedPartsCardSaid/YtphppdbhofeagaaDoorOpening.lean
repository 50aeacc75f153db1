/- spec.Opening. -/
import Derived.Test.YtphppdbhofeagaaDoorEscaped
import Derived.Test.YtphppdbhofeagaaDoorRend
namespace Go.Proofs.YtphppdbhofeagaaDoor
open Go.RowKit
set_option linter.unusedVariables false
set_option linter.unusedSimpArgs false

def OpenPost (tag : ByteArray) (l : List (ByteArray × ByteArray)) (w : World) (e : Ending) (w' : World) : Prop := ∃ z : ByteArray, e = .returned (.string z) ∧ z.data.toList = [60] ++ tag.data.toList ++ attsB l ++ [62] ∧ Below w.heap.size w w'

theorem bsize (z : ByteArray) : z.size = z.data.toList.length := by rw [Array.length_toList]; rfl

set_option maxRecDepth 100000 in
set_option maxHeartbeats 4000000 in
theorem opening_any (k z : Int) (tag text : ByteArray) (aa : Option Addr) (al ac : Nat) (l : List (ByteArray × ByteArray)) (w : World) (h : AttrsAt w aa al l) (htag : tag.size ≤ 100000) (hl20 : l.length ≤ 20)
    (hM : ∀ x ∈ l, x.1.size ≤ 100000 ∧ x.2.size ≤ 100000) (hC : ∀ x ∈ l, NoCr x.2) :
    Calls Tryd.prog 9 #[.agg #[.int .i64 k, .string tag, .string text, .slice aa al ac, .int .i64 z]] w (OpenPost tag l w) := by
  have hll := h.1
  have hb0 : Below w.heap.size w (w.alloc (.cells #[.int .i64 k, .string tag, .string text, .slice aa al ac, .int .i64 z] 26)) := (Below.refl _ _).alloc (Nat.le_refl _) _
  have cb : (w.alloc (.cells #[.int .i64 k, .string tag, .string text, .slice aa al ac, .int .i64 z] 26)).cell? ⟨w.heap.size, 3, none⟩ = some (.slice aa al ac) := cell_alloc_new' _ _ _ rfl rfl
  have ct : (w.alloc (.cells #[.int .i64 k, .string tag, .string text, .slice aa al ac, .int .i64 z] 26)).cell? ⟨w.heap.size, 1, none⟩ = some (.string tag) := cell_alloc_new' _ _ _ rfl rfl
  have h0 := h.below hb0
  obtain ⟨w0, hw0⟩ : ∃ w0, w.alloc (.cells #[.int .i64 k, .string tag, .string text, .slice aa al ac, .int .i64 z] 26) = w0 := ⟨_, rfl⟩
  rw [hw0] at hb0 cb ct h0
  have HA := Lib.hid h0
  have HB := Lib.hid hb0
  have HM := Lib.hid (And.intro hM hC)
  have k0 : ¬ 9223372036854775807 < 1 + tag.size := by omega
  clear h hb0 h0 hM hC
  subst hll
  go_enter Tryd.func9, Tryd.ntmps9
  go_wp2
  go_loopw [3, 4] (fun ov iv wr => ∃ (n : Nat) (y : ByteArray), n ≤ l.length ∧ iv = .int .i64 (n : Int) ∧ ov = .string y ∧ Hid (y.data.toList = [60] ++ tag.data.toList ++ attsB (l.take n)) ∧ Below w0.heap.size w0 wr) (fun _ iv _ => l.length - (intOf iv).toNat)
  case atStart => exact ⟨0, ⟨#[60]⟩ ++ tag, by omega, by go_num, rfl, Lib.hid (by rw [app_list]; simp [attsB]), Below.refl _ _⟩
  case round =>
    obtain ⟨n, y, hn, rfl, rfl, HY, hbel⟩ := hrel
    have cb2 := cell_below hbel cb
    have hlen : y.size ≤ 100001 + n * 600004 := by
      have h1 := attsB_length (M := 100000) (l := l.take n) fun x hx => HM.out.1 x (List.mem_of_mem_take hx)
      have h2 : tag.data.toList.length = tag.size := by rw [Array.length_toList]; rfl
      rw [bsize, HY.out, List.length_append, List.length_append, h2]
      rw [List.length_take] at h1
      have h3 : min n l.length = n := by omega
      rw [h3] at h1
      simp only [List.length_cons, List.length_nil]
      omega
    by_cases hlt : n < l.length
    · obtain ⟨_, _, _, hcc⟩ := HA.out
      obtain ⟨b, off, rfl, hc⟩ := hcc (by omega)
      obtain ⟨c1, c2⟩ := hc n hlt
      have d1 := cell_below hbel c1
      have d2 := cell_below hbel c2
      have hnI : (n : Int) < (l.length : Int) := by omega
      have hmem : l.getD n default ∈ l := by rw [List.getD_eq_getElem?_getD, List.getElem?_eq_getElem hlt]; exact List.getElem_mem hlt
      have hstep : attsB (l.take (n + 1)) = attsB (l.take n) ++ attB (l.getD n default) := by
        have e : l.take (n + 1) = l.take n ++ [l.getD n default] := by
          rw [List.take_add_one, List.getElem?_eq_getElem hlt, List.getD_eq_getElem?_getD, List.getElem?_eq_getElem hlt]
          rfl
        rw [e, attsB, List.flatMap_append, attsB]
        simp only [List.flatMap_cons, List.flatMap_nil, List.append_nil]
      obtain ⟨m1, m2⟩ := HM.out.1 _ hmem
      have m3 := HM.out.2 _ hmem
      simp only [attB] at hstep
      obtain ⟨x, hx⟩ : ∃ x, (l.getD n default).1 = x := ⟨_, rfl⟩
      obtain ⟨v, hv⟩ : ∃ v, (l.getD n default).2 = v := ⟨_, rfl⟩
      rw [hx] at d1 m1 hstep
      rw [hv] at d2 m2 m3 hstep
      have HST := Lib.hid hstep
      have HES := Lib.hid fun (w' : World) => escaped_any v w' (by omega) m3
      have q1 : ¬ 9223372036854775807 < 1 + x.size := by omega
      have q2 : ¬ 9223372036854775807 < 1 + x.size + 2 := by omega
      have HBL := Lib.hid hbel
      clear hstep hcc hc c1 c2 hx hv m3 hmem HM hbel
      go_wp2
      go_region_with (go_at_call 17; refine (HES.out _).mono ?_; rintro e w2 ⟨ze, rfl, hze, rfl⟩; have hzs : ze.size ≤ 500000 := by {have h1 := escL_length v.data.toList; have h2 : v.data.toList.length = v.size := (bsize v).symm; rw [bsize, hze]; omega}; have q3 : ¬ 9223372036854775807 < 1 + x.size + 2 + ze.size := by {omega}; have q4 : ¬ 9223372036854775807 < 1 + x.size + 2 + ze.size + 1 := by {omega}; have q5 : ¬ 9223372036854775807 < y.size + (1 + x.size + 2 + ze.size + 1) := by {omega})
      all_goals
        go_wp2
        refine ⟨?rel, ?measure⟩
        case rel =>
          refine ⟨n + 1, _, by omega, by go_num, rfl, Lib.hid ?_, HBL.out.trans (Below.refl _ _).drew⟩
          rw [HST.out]
          simp only [app_list, HY.out, hze, List.append_assoc]
        case measure => simp [intOf]; omega
    · obtain rfl : n = l.length := by omega
      have HBL := Lib.hid hbel
      have q6 : ¬ 9223372036854775807 < y.size + 1 := by omega
      clear hbel hlt
      go_wp2
      go_ret
      refine ⟨_, rfl, ?_, HB.out.trans (HBL.out.mono HB.out.size)⟩
      have := HY.out
      rw [List.take_length] at this
      rw [app_list, this]

end Go.Proofs.YtphppdbhofeagaaDoor
