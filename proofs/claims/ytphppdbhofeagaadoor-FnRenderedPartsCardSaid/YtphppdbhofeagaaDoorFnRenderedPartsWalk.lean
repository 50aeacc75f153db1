/- laws.FnRenderedParts: it returns true. -/
import Derived.Test.YtphppdbhofeagaaDoorRenders
import Derived.Test.YtphppdbhofeagaaDoorPlainDocu
import Derived.Test.YtphppdbhofeagaaDoorOpening
import Derived.Test.YtphppdbhofeagaaDoorKids
import Derived.Test.YtphppdbhofeagaaDoorFits
import Derived.Deep.RegionHeld3
import Derived.BigQuiet
namespace Go.Proofs.YtphppdbhofeagaaDoor
open Go.RowKit
set_option linter.unusedVariables false
set_option linter.unusedSimpArgs false

theorem ba_eq {s : ByteArray} {l : List UInt8} (h : s.data.toList = l) : s = ⟨l.toArray⟩ := by
  cases s with
  | mk d => simp at h; subst h; simp

theorem ba_list (l : List UInt8) : (⟨l.toArray⟩ : ByteArray).data.toList = l := by simp

theorem take_one_more {L : List Nat} {k : Nat} (h : k < L.length) : L.take (k + 1) = L.take k ++ [L.getD k 0] := by
  rw [List.take_add_one, List.getElem?_eq_getElem h, List.getD_eq_getElem?_getD, List.getElem?_eq_getElem h]
  rfl

theorem flat_len {ts : List NodeD} {L : List Nat} {K : Nat} (h : ∀ j ∈ L, (rend ts j).length ≤ K) (k : Nat) : ((L.take k).flatMap (rend ts)).length ≤ L.length * K := by
  have : ∀ M : List Nat, (∀ j ∈ M, (rend ts j).length ≤ K) → (M.flatMap (rend ts)).length ≤ M.length * K := by
    intro M
    induction M with
    | nil => intro _; simp
    | cons a M ih =>
      intro hM
      have h1 := hM a (by simp)
      have h2 := ih fun j hj => hM j (by simp [hj])
      rw [List.flatMap_cons, List.length_append, List.length_cons, Nat.succ_mul]
      omega
  refine Nat.le_trans (this _ fun j hj => h j (List.mem_of_mem_take hj)) (Nat.mul_le_mul ?_ (Nat.le_refl _))
  rw [List.length_take]
  omega

theorem kidsFrom_fuel {z : Nat → Nat} {e : Nat} : ∀ (f k : Nat), (kidsFrom z e f k).length ≤ f
  | 0, k => by simp [kidsFrom]
  | f + 1, k => by
    rw [kidsFrom]
    split
    · have := kidsFrom_fuel (z := z) (e := e) f (k + z k)
      rw [List.length_cons]
      omega
    · simp

namespace lawFnRenderedParts

set_option maxRecDepth 100000 in
set_option maxHeartbeats 16000000 in
theorem walk {W : World} (hv : VoidAt W) (ha : AbortAt W) (ht : TabsAt W) (a : Option Addr) (len cap : Nat) (ts : List NodeD) (h : Nodes W a len ts ∧ len ≤ cap ∧ cap ≤ maxLen) (z : Int) {P : Prop} (_ : P) :
    Calls Tryd.prog 3 #[.slice a len cap, .int .i64 z] W (YesB W) := by
  have HN := Lib.hid h.1
  have hm := h.1.len.2
  have HV := Lib.hid (And.intro hv (And.intro ha ht))
  clear h hv ha ht
  go_enter Tryd.func3, Tryd.ntmps3
  go_wp2_with fail
  refine (fits1_any a len cap ts W HN.out).mono ?_
  rintro e w1 ⟨b1, _, rfl, hb1⟩
  have HB1 := Lib.hid hb1
  clear hb1
  cases b1
  · go_wp2
    go_ret
    exact ⟨rfl, HB1.out⟩
  go_wp2_with fail
  refine (plainDocument_any a len cap ts w1 (HN.out.below HB1.out) (HV.out.2.2.below HB1.out)).mono ?_
  rintro e w2 ⟨b2, hb2, rfl, hbel2⟩
  have HB2 := Lib.hid (HB1.out.trans (hbel2.mono HB1.out.size))
  clear hbel2 HB1
  cases b2
  · clear hb2
    go_wp2
    go_ret
    exact ⟨rfl, HB2.out⟩
  have HD := Lib.hid (hb2 rfl)
  clear hb2
  by_cases hz4 : z < 4
  · go_wp2
    go_ret
    exact ⟨rfl, HB2.out⟩
  by_cases hzl : (len : Int) ≤ z
  · go_wp2
    go_ret
    exact ⟨rfl, HB2.out⟩
  obtain ⟨x, rfl⟩ := Int.eq_ofNat_of_zero_le (show 0 ≤ z by omega)
  have hx : x < len := by omega
  have h4 : 4 ≤ x := by omega
  have hxI : (x : Int) < (len : Int) := by omega
  have hx4 : ¬ x < 4 := by omega
  have hxl : ¬ len ≤ x := by omega
  have h5 := HD.out.1
  have hR := HD.out.2.1
  have hle := hR.le
  have hnest := hR.nest
  have hpl := fun i h1 h2 => (HD.out.2.2 i h1 h2).1
  have hsm := fun i h1 h2 => small_node hR h2 (hpl i h1 h2)
  obtain ⟨b, off, rfl, hc⟩ := (HN.out.below HB2.out).at (by omega)
  have hcell := fun (w' : World) (hw : Below w2.heap.size w2 w') => (hc x hx).below hw
  have k0 := (hc x hx).kind
  have hcr := (HD.out.2.2 x h4 hx).2
  have hs5 := hsm x h4 hx
  have hrend := @rend_el ts len hnest x hx
  have hsizes := hR.sizes
  have hP5 : ∀ w', Below W.heap.size W w' → Plain5 w' (some ⟨b, off, none⟩) len ts := fun w' hw => ⟨HN.out.below hw, hR, HV.out.1.below hw, hpl, HV.out.2.1.below hw⟩
  have hrl : ∀ j, 4 ≤ j → j < len → (rend ts j).length ≤ 120000000 := fun j h1 h2 => by
    have h3 := rend_length hnest hsm h2 h1
    have h4 := hnest.fit j h2
    have : sz ts j * 600000 ≤ 200 * 600000 := Nat.mul_le_mul (by omega) (Nat.le_refl _)
    omega
  have hkin : ∀ j ∈ kids (sz ts) x, 4 ≤ j ∧ j < len := fun j hj => by
    obtain ⟨h1, _, h3, _⟩ := kids_in hnest hx hj
    omega
  have hkl : (kids (sz ts) x).length ≤ 200 := by
    have h1 : (kids (sz ts) x).length ≤ sz ts x := kidsFrom_fuel _ _
    have h2 := hnest.fit x hx
    omega
  obtain ⟨n, hn⟩ : ∃ n, ts.getD x default = n := ⟨_, rfl⟩
  rw [hn] at k0 hcr hs5 hrend
  by_cases hk3 : n.kind = 3
  rotate_left
  · have g3 : (n.kind == 3) = false := by simpa using hk3
    have g3' : (n.kind != 3) = true := by simpa using hk3
    clear hk3 hrend hcr hs5 hsizes hkin hkl hrl hn hcell hP5 hsm hpl hnest hc
    go_wp2
    go_ret
    exact ⟨rfl, HB2.out⟩
  have g3 : (n.kind == 3) = true := by simpa using hk3
  have g3' : (n.kind != 3) = false := by simpa using hk3
  have hrend := hrend hk3
  have hcr := hcr hk3
  have hop := openB_length hs5 hk3
  have hin : (inner ts x).length ≤ 24000000000 := by
    have h1 := flat_len (ts := ts) (L := kids (sz ts) x) (K := 120000000) (fun j hj => hrl j (hkin j hj).1 (hkin j hj).2) (kids (sz ts) x).length
    rw [List.take_length] at h1
    have h2 : (kids (sz ts) x).length * 120000000 ≤ 200 * 120000000 := Nat.mul_le_mul hkl (Nat.le_refl _)
    have h3 : inner ts x = (kids (sz ts) x).flatMap (rend ts) := rfl
    rw [h3]
    omega
  obtain ⟨IN, hIN⟩ : ∃ IN : ByteArray, (⟨(inner ts x).toArray⟩ : ByteArray) = IN := ⟨_, rfl⟩
  obtain ⟨TX, hTX⟩ : ∃ TX : ByteArray, (⟨(rend ts x).toArray⟩ : ByteArray) = TX := ⟨_, rfl⟩
  obtain ⟨OB, hOB⟩ : ∃ OB : ByteArray, (⟨(openB n).toArray⟩ : ByteArray) = OB := ⟨_, rfl⟩
  have hINl : IN.data.toList = inner ts x := by rw [← hIN]
  have hTXl : TX.data.toList = rend ts x := by rw [← hTX]
  have hOBl : OB.data.toList = openB n := by rw [← hOB]
  have hINs : IN.size ≤ 24000000000 := by have : IN.size = IN.data.toList.length := bsize IN; rw [this, hINl]; exact hin
  have hOBs : OB.size ≤ 500000 := by have : OB.size = OB.data.toList.length := bsize OB; rw [this, hOBl]; exact hop
  have htag := hs5.tag hk3
  have hcmp : (TX.toList == (OB ++ IN ++ ⟨#[60, 47]⟩ ++ n.tag ++ ⟨#[62]⟩).toList) = true := by
    rw [ByteArray.toList_eq, ByteArray.toList_eq]
    simp only [app_list]
    rw [hTXl, hrend, hINl, hOBl]
    simp [closeB]
  have hren := fun (w' : World) (hw : Below W.heap.size W w') => implRender_any w' _ len cap ts (hP5 w' hw) x hx h4
  have hinn := fun (w' : World) (hw : Below W.heap.size W w') (v : Value) (hv : ReadsAs w' v ([x].map intV)) => implInner_any w' _ len cap ts (hP5 w' hw) x v hv hx h4
  have hkids := fun (w' : World) (hw : Below W.heap.size W w') => kids_any _ len cap ts x w' (HN.out.below hw) hsizes (fun j hj => hnest.fit j hj) hx hle
  have hrk := fun (j : Nat) (hj : j ∈ kids (sz ts) x) (w' : World) (hw : Below W.heap.size W w') => implRender_any w' _ len cap ts (hP5 w' hw) j (hkin j hj).2 (hkin j hj).1
  have hopn := fun (w' : World) (hw : Below w2.heap.size w2 w') => opening_any n.kind n.size n.tag n.text n.aa n.al n.ac n.attrs w' (by have := (hcell w' hw).at_; rw [hn] at this; exact this) (by omega) hs5.many (fun y hy => by have := hs5.attrs y hy; omega) (fun y hy => by
    obtain ⟨j, hj, rfl⟩ := List.getElem_of_mem hy
    have := hcr j hj
    rwa [List.getD_eq_getElem?_getD, List.getElem?_eq_getElem hj] at this)
  have hren : ∀ w', Below W.heap.size W w' → Calls Tryd.prog 6 #[.slice (some ⟨b, off, none⟩) len cap, .int .i64 (x : Int)] w' (fun e w'' => e = .returned (.tuple #[.string TX, .bool true]) ∧ Below w'.heap.size w' w'') := fun w' hw => by
    have := hren w' hw
    unfold RendPost at this
    simp only [hTX] at this
    exact this
  have hinn : ∀ w', Below W.heap.size W w' → ∀ v, ReadsAs w' v ([x].map intV) → Calls Tryd.prog 7 #[.slice (some ⟨b, off, none⟩) len cap, v] w' (fun e w'' => e = .returned (.tuple #[.string IN, .bool true]) ∧ Below w'.heap.size w' w'') := fun w' hw v hv => by
    have := hinn w' hw v hv
    unfold RendPost at this
    simp only [hIN] at this
    exact this
  have hopn2 : ∀ w', Below w2.heap.size w2 w' → Calls Tryd.prog 9 #[.agg #[.int .i64 n.kind, .string n.tag, .string n.text, .slice n.aa n.al n.ac, .int .i64 n.size]] w' (fun e w'' => e = .returned (.string OB) ∧ Below w'.heap.size w' w'') := fun w' hw => (hopn w' hw).mono fun e w'' h => by
    obtain ⟨zz, rfl, hzz, hbb⟩ := h
    have : zz = OB := by
      rw [ba_eq hzz, ← hOB]
      rfl
    rw [this]
    exact ⟨rfl, hbb⟩
  have hc5 : ∀ w', Below w2.heap.size w2 w' → w'.cell? ⟨b, off + x * 5, none⟩ = some (.int .i64 n.kind) ∧ w'.cell? ⟨b, off + x * 5 + 1, none⟩ = some (.string n.tag) ∧ w'.cell? ⟨b, off + x * 5 + 2, none⟩ = some (.string n.text) ∧ w'.cell? ⟨b, off + x * 5 + 3, none⟩ = some (.slice n.aa n.al n.ac) ∧ w'.cell? ⟨b, off + x * 5 + 4, none⟩ = some (.int .i64 n.size) := fun w' hw => by
    have h := hcell w' hw
    rw [hn] at h
    exact ⟨h.kind, h.tag, h.text, h.attrs, h.size⟩
  obtain ⟨L, hL⟩ : ∃ L, kids (sz ts) x = L := ⟨_, rfl⟩
  rw [hL] at hkin hkl hrk
  simp only [hL] at hkids
  have hINf : L.flatMap (rend ts) = inner ts x := by rw [← hL]; rfl
  have hflat : ∀ k, ((L.take k).flatMap (rend ts)).length ≤ 24000000000 := fun k => by
    have h1 := flat_len (ts := ts) (L := L) (K := 120000000) (fun j hj => hrl j (hkin j hj).1 (hkin j hj).2) k
    have h2 : L.length * 120000000 ≤ 200 * 120000000 := Nat.mul_le_mul hkl (Nat.le_refl _)
    omega
  have hrl2 : ∀ j ∈ L, (rend ts j).length ≤ 120000000 := fun j hj => hrl j (hkin j hj).1 (hkin j hj).2
  have HREN := Lib.hid hren
  have HINN := Lib.hid hinn
  have HKIDS := Lib.hid hkids
  have HRK := Lib.hid hrk
  have HOPN := Lib.hid hopn2
  have HC5 := Lib.hid hc5
  have HINL := Lib.hid (And.intro hINl hINf)
  have HFLAT := Lib.hid (And.intro hflat hrl2)
  have HCMP := Lib.hid hcmp
  have HSZ := Lib.hid (And.intro hINs (And.intro hOBs htag))
  have HKIN := Lib.hid hkin
  clear hren hinn hkids hrk hopn hopn2 hc5 hINl hINf hflat hrl2 hcmp hkin hIN hTX hOB hTXl hOBl hINs hOBs htag hrend hcr hs5 hsizes hrl hn hcell hP5 hsm hpl hnest hc hop hin hk3 hL
  go_wp2_with fail
  refine (HREN.out w2 HB2.out).mono ?_
  rintro e w3 ⟨rfl, hb3⟩
  have HB3 := Lib.hid (hb3)
  have HW3 := Lib.hid (HB2.out.trans (hb3.mono HB2.out.size))
  clear hb3 HREN
  have hin1 := HINN.out _ (HW3.out.alloc HW3.out.size (.cells #[.int .i64 (x : Int)] 3)) _ (reads_one (c := 1) (cell_alloc_new' w3 #[.int .i64 (x : Int)] 3 rfl rfl) (by omega) (by unfold maxLen; omega))
  have HI1 := Lib.hid hin1
  clear hin1 HINN k0
  go_wp2_with fail
  refine HI1.out.mono ?_
  rintro e w4 ⟨rfl, hb4⟩
  have HB4 := Lib.hid (HB3.out.trans (((Below.refl w3.heap.size w3).alloc (Nat.le_refl _) (.cells #[.int .i64 (x : Int)] 3)).trans (hb4.mono (by simp)) |>.mono HB3.out.size))
  have HW4 := Lib.hid (HB2.out.trans (HB4.out.mono HB2.out.size))
  clear hb4 HI1 HB3 HW3
  go_wp2_with fail
  refine (HKIDS.out w4 HW4.out).mono ?_
  rintro e w5 ⟨v, rfl, hown, hb5⟩
  obtain ⟨ka, kc, rfl, hc1, hc2, hrow⟩ := hown.ints
  have HB5 := Lib.hid (HB4.out.trans (hb5.mono HB4.out.size))
  have HROW := Lib.hid hrow
  clear hown hb5 hrow HKIDS HB4 HW4
  go_wp2
  go_loopw [6, 9, 11] (fun okv allv iv wr => ∃ (k : Nat) (y : ByteArray), k ≤ L.length ∧ iv = .int .i64 (k : Int) ∧ okv = .bool true ∧ allv = .string y ∧ Hid (y.data.toList = (L.take k).flatMap (rend ts)) ∧ Hid (Below w5.heap.size w5 wr)) (fun _ _ iv _ => L.length - (intOf iv).toNat)
  case atStart => exact ⟨0, ByteArray.empty, by omega, by go_num, by first | rfl | trivial, rfl, Lib.hid (by simp), Lib.hid (Below.refl _ _)⟩
  case round =>
    obtain ⟨k, y, hk, rfl, rfl, rfl, HY, HWK⟩ := hrel
    by_cases hlt : k < L.length
    · obtain ⟨rb, ro, rfl, hrc⟩ := HROW.out.2.2 (by omega)
      have cx := hrc k hlt
      obtain ⟨p, hp⟩ : ∃ p, L.getD k 0 = p := ⟨_, rfl⟩
      have hpm : p ∈ L := by rw [← hp, List.getD_eq_getElem?_getD, List.getElem?_eq_getElem hlt]; exact List.getElem_mem hlt
      have cx' : wr.cell? ⟨rb, ro + k, none⟩ = some (.int .i64 (p : Int)) := by
        refine cell_below HWK.out ?_
        rw [cx, ← hp]
        simp [List.getD, hlt]
      have hkI : (k : Int) < (L.length : Int) := by omega
      have hWr : Below W.heap.size W wr := HB2.out.trans ((HB5.out.trans (HWK.out.mono HB5.out.size)).mono HB2.out.size)
      obtain ⟨RP, hRP⟩ : ∃ RP : ByteArray, (⟨(rend ts p).toArray⟩ : ByteArray) = RP := ⟨_, rfl⟩
      have hRPl : RP.data.toList = rend ts p := by rw [← hRP]
      have hcall := HRK.out p hpm wr hWr
      unfold RendPost at hcall
      rw [hRP] at hcall
      have hys : y.size ≤ 24000000000 := by rw [bsize y, HY.out]; exact HFLAT.out.1 k
      have hRs : RP.size ≤ 120000000 := by rw [bsize RP, hRPl]; exact HFLAT.out.2 p hpm
      have hcat : ¬ 9223372036854775807 < y.size + RP.size := by omega
      have hnext : (y ++ RP).data.toList = (L.take (k + 1)).flatMap (rend ts) := by
        rw [app_list, HY.out, take_one_more hlt, List.flatMap_append, hRPl, hp]
        simp
      have HC := Lib.hid hcall
      have HNX := Lib.hid hnext
      clear hcall hnext hRP hRPl hys hRs hp cx hrc hWr hpm
      go_wp2_with fail
      refine HC.out.mono ?_
      rintro e w6 ⟨rfl, hb6⟩
      have HW6 := Lib.hid (HWK.out.trans (hb6.mono HWK.out.size))
      clear hb6 HC HWK cx'
      go_wp2
      refine ⟨?rel, ?measure⟩
      case rel => exact ⟨k + 1, _, by omega, by go_num, by first | rfl | trivial, rfl, HNX, HW6⟩
      case measure => simp [intOf]; omega
    · obtain rfl : k = L.length := by omega
      have hyI : y = IN := by
        have h1 := HY.out
        rw [List.take_length, HINL.out.2] at h1
        rw [ba_eq h1, ba_eq HINL.out.1]
      subst hyI
      have q1 : (y.toList == y.toList) = true := by simp
      have hB6 : Below w2.heap.size w2 wr := HB5.out.trans (HWK.out.mono HB5.out.size)
      have HB6 := Lib.hid hB6
      obtain ⟨s1, s2, s3⟩ := HSZ.out
      have r1 : ¬ 9223372036854775807 < OB.size + y.size := by omega
      have r2 : ¬ 9223372036854775807 < OB.size + y.size + 2 := by omega
      have r3 : ¬ 9223372036854775807 < OB.size + y.size + 2 + n.tag.size := by omega
      have r4 : ¬ 9223372036854775807 < OB.size + y.size + 2 + n.tag.size + 1 := by omega
      have hcmp := HCMP.out
      have hbd : Below w2.heap.size w2 wr.drew := hB6.trans (Below.refl _ _).drew
      obtain ⟨d0, d1, d2, d3, d4⟩ := HC5.out _ hbd
      clear hB6 hlt s1 s2 s3
      go_wp2_with fail
      go_region_held3 (fun w' => w'.cell? ⟨b, off + x * 5, none⟩ = some (.int .i64 n.kind) ∧ w'.cell? ⟨b, off + x * 5 + 1, none⟩ = some (.string n.tag) ∧ w'.cell? ⟨b, off + x * 5 + 2, none⟩ = some (.string n.text) ∧ w'.cell? ⟨b, off + x * 5 + 3, none⟩ = some (.slice n.aa n.al n.ac) ∧ w'.cell? ⟨b, off + x * 5 + 4, none⟩ = some (.int .i64 n.size)) (first | exact HC5.out _ (hbd.trans (hb9.mono hbd.size)) | exact ⟨d0, d1, d2, d3, d4⟩) (first | (go_at_call 9; refine (HOPN.out _ hbd).mono ?_; rintro e w9 ⟨rfl, hb9⟩))
      have HB9 := Lib.hid (HB2.out.trans ((hbd.trans (hb9.mono hbd.size)).mono HB2.out.size))
      clear hb9 hbd d0 d1 d2 d3 d4
      go_wp2
      go_ret
      exact ⟨rfl, HB9.out⟩

end lawFnRenderedParts

end Go.Proofs.YtphppdbhofeagaaDoor
