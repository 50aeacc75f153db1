/- The elements among a node's kids; spec.Elements. -/
import Derived.Test.YtjidbnegoailcaaChosen
import Derived.Test.YtjidbnegoailcaaPlacesOf
import Derived.Test.YtjidbnegoailcaaKin
import Derived.Deep.LoopGhost
namespace Go.Proofs.Ytjidbnegoailcaa
open Go.RowKit
set_option linter.unusedVariables false
set_option linter.unusedSimpArgs false

/-- The elements among the kids of p. -/
def elKid (ts : List NodeD) (p k : Nat) : Bool := (par (sz ts) k == some p) && (kd ts k == 3)

theorem tyOf_ne {q : Int} (h : q = 1 ∨ q = 2 ∨ q = 4 ∨ q = 5) : tyOf q ≠ 3 := by
  rcases h with rfl | rfl | rfl | rfl <;> simp [tyOf]

set_option maxRecDepth 100000 in
set_option maxHeartbeats 1000000 in
theorem elements_any (a : Option Addr) (len cap : Nat) (ts : List NodeD) (p : Nat) (w : World) (h : Nodes w a len ts) (hR : RightT ts len) (hp : p < len) :
    Calls Try.prog 11 #[.slice a len cap, .int .i64 (p : Int)] w (OwnPlPost (lb (elKid ts p) len) w) := by
  have hlen := hR.le
  have hk := kids_any a len cap ts p w h hR.sizes (fun j hj => hR.nest.fit j hj) hp hlen
  have hkl := kids_lb hR.nest hp
  have hfil := lb_filter (P := fun k => par (sz ts) k == some p) (Q := fun k => kd ts k == 3) len
  rw [← hkl] at hfil
  obtain ⟨K, hK⟩ : ∃ K, kids (sz ts) p = K := ⟨_, rfl⟩
  rw [hK] at hk hfil hkl
  have hKm : ∀ i ∈ K, i < len := fun i hi => by rw [hkl] at hi; exact (lb_mem hi).1
  have hKn : K.length ≤ 200 := by rw [hkl]; exact Nat.le_trans (lb_length_le _) hlen
  have HK := Lib.hid hk
  have HFIL := Lib.hid (show K.filter (fun k => kd ts k == 3) = lb (elKid ts p) len from hfil)
  have HKM := Lib.hid hKm
  have HN := Lib.hid h
  have hpos := hR.pos
  clear hk hkl hfil hK hKm h hR
  obtain ⟨i0, hi, hz0, hz1, hz2⟩ := info_parts Try.infoInt
  go_enter Try.func11, Try.ntmps11
  go_wp2_with fail
  refine HK.out.mono ?_
  rintro e w1 ⟨vk, rfl, hown, hb1⟩
  have hN1 := HN.out.below hb1
  obtain ⟨b, off, rfl, hc⟩ := hN1.at hpos
  have hrd : ReadsAs w1 vk (K.map intV) := OwnPl.reads (B := w.heap.size) hown
  obtain ⟨ka, kcap, kb, koff, rfl, hkm, hka, hkc⟩ := ints_open hrd
  have HC := Lib.hid hc
  have HKA := Lib.hid hka
  have HKC := Lib.hid hkc
  have HB1 := Lib.hid hb1
  clear hN1 hc hrd hka hkc hown hb1 HK
  go_wp2
  go_loopw [5, 7] (fun x i wr => ∃ (k : Nat) (done : List Nat), i = .int .i64 k ∧ k ≤ K.length ∧ done.length ≤ k ∧ (K.take k).filter (fun k => kd ts k == 3) = done ∧ OwnPl wr w1.heap.size x done ∧ Below w1.heap.size w1 wr)
    (fun _ i _ => K.length - (intOf i).toNat)
  case atStart => exact ⟨0, [], by go_num, by omega, by simp, rfl, World.ownsRow_nil _ _ _ _, Below.refl _ _⟩
  case round =>
    obtain ⟨k, done, rfl, hk, hdl, hdone, hown, hbel⟩ := hrel
    have HDONE := Lib.hid hdone
    have HOWN := Lib.hid hown
    have HBEL := Lib.hid hbel
    clear hdone hown hbel
    by_cases hlt : k < K.length
    · obtain rfl := HKA.out (by omega)
      have ck := cell_below HBEL.out (HKC.out k hlt)
      have hxl := HKM.out _ (getD_mem' (d := 0) hlt)
      have htk := take_snoc hlt
      obtain ⟨x, hxx⟩ : ∃ x, K.getD k 0 = x := ⟨_, rfl⟩
      rw [hxx] at ck hxl htk
      have cx := cell_below HBEL.out (HC.out x hxl).kind
      have hkI : (k : Int) < (K.length : Int) := by omega
      have hxI : (x : Int) < (len : Int) := by omega
      have hkd : kd ts x = (ts.getD x default).kind := rfl
      obtain ⟨q, hq⟩ : ∃ q, (ts.getD x default).kind = q := ⟨_, rfl⟩
      rw [hq] at cx hkd
      have hstep : (K.take (k + 1)).filter (fun k => kd ts k == 3) = if q == 3 then done ++ [x] else done := by
        rw [htk, List.filter_append, HDONE.out]
        by_cases e : q = 3
        · simp [hkd, e]
        · simp [hkd, e]
      have HST := Lib.hid hstep
      clear hxx htk hkd hq hstep
      by_cases h3 : q = 3
      · subst h3
        have hown2 : wr.ownsRow w1.heap.size 3 1 u5 done.length (done.map intV) := HOWN.out
        go_wp2_with (at_builtin; refine wpList_append_own _ rfl _ _ 23 rfl w1.heap.size 3 i0 (.int .i64 0) 1 8 Try.underlying23 hi hz0 hz1 hz2 rfl (by decide) _ _ _ rfl (hown2.alloc _) ⟨wr.heap.size, 0, none⟩ 1 1 [.int .i64 (x : Int)] rfl rfl ?c1 ?c2 ?c3 ?c4 ?c5 ?_)
        case c2 => rfl
        case c3 => unfold maxLen; omega
        case c4 => omega
        case c5 => have := HBEL.out.size; simp; omega
        intro v' w3 hown3 hgrow _
        have hbel3 : Below w1.heap.size w1 w3 := (HBEL.out.alloc HBEL.out.size _).grown hgrow (by have := HBEL.out.size; simp; omega) (fun q hq => (World.ownsRow.lt hown2 q hq).1)
        have hsn := ownInts_any_snoc (k := x) hown3
        have H3 := Lib.hid (And.intro hsn hbel3)
        clear hown3 hgrow hbel3 hsn hown2 cx ck
        go_wp2
        go_roundw
        case rel => exact ⟨k + 1, done ++ [x], by go_num, by omega, by simp; omega, HST.out, H3.out.1, H3.out.2⟩
        case measure => simp [intOf]; omega
      · have g : (q == 3) = false := by simp [h3]
        have HST2 : Hid ((K.take (k + 1)).filter (fun k => kd ts k == 3) = done) := Lib.hid (by rw [HST.out, g]; rfl)
        clear h3
        go_wp2
        go_roundw
        case rel => exact ⟨k + 1, done, by go_num, by omega, by omega, HST2.out, HOWN.out, HBEL.out⟩
        case measure => simp [intOf]; omega
    · obtain rfl : k = K.length := by omega
      have HO : Hid (OwnPl wr w.heap.size u5 (lb (elKid ts p) len)) := by
        have h1 := HDONE.out
        rw [List.take_length, HFIL.out] at h1
        rw [h1]
        exact Lib.hid (ownsRow_base HOWN.out HB1.out.size)
      have hfin := Lib.hid (HB1.out.trans (HBEL.out.mono HB1.out.size))
      clear hlt HDONE
      go_wp2
      go_ret
      exact ⟨_, rfl, HO, hfin⟩

end Go.Proofs.Ytjidbnegoailcaa
