/- goquery.Text$1 at a text node. (Printed by gen_leaf.py.) -/
import Derived.Test.YtikimffifkiinaaTextClo
namespace Go.Proofs.Ytikimffifkiinaa
open Go.RowKit
set_option linter.unusedVariables false
set_option linter.unusedSimpArgs false

theorem str_of' {s : ByteArray} {l : List UInt8} (h : s.data.toList = l) : s = ⟨l.toArray⟩ := by
  cases s with
  | mk d => simp at h; subst h; simp

theorem not_nil {r : ByteArray} (hE : r.toList.isEmpty = false) : ¬ r.data.toList = [] := by
  intro h
  rw [ByteArray.toList_eq, h] at hE
  cases hE

theorem OptsAt.below {w w' : World} {ob gb : Nat} {sep : ByteArray} {trim : Bool} {name : Option ByteArray} (h : OptsAt w ob gb sep trim name) (hb : Below w.heap.size w w') : OptsAt w' ob gb sep trim name :=
  ⟨cell_below hb h.sep, cell_below hb h.trim, cell_below hb h.keep, fun nm hn => cell_below hb (h.name nm hn)⟩

set_option maxRecDepth 100000 in
set_option maxHeartbeats 4000000 in
theorem leaf_np {B' : Nat} {W : World} {bl len : Nat} {nb : Nat → Nat} {vv : Nat → Value} {ts : List NodeD} (hF : Forest B' W bl len nb vv ts) {x : Nat} (hx : x < len) (h4 : (ts.getD x default).kind = 4) (ob gb : Nat) (sep : ByteArray) (ps : List ByteArray) (w : World) (hb : Below W.heap.size W w) (hm : W.heap.size + 3 ≤ w.heap.size)
    (hc_w : CloAt w W.heap.size ob ps) (ho : OptsAt W ob gb sep false none) (hn : ps.length ≤ 100000) (htx : (ts.getD x default).text.size ≤ 4000) (htr : false = true → wanted ts none x = true → ∀ i (h : i < (ts.getD x default).text.size), ((ts.getD x default).text[i]'h).toNat < 128 ∧ ((ts.getD x default).text[i]'h).toNat ≠ 11) :
    Calls Try.prog 38 #[.pointer (some ⟨nb x, 0, none⟩), .pointer (some ⟨W.heap.size, 0, none⟩), .pointer (some ⟨W.heap.size + 1, 0, none⟩), .pointer (some ⟨W.heap.size + 2, 0, none⟩)] w (CloPost W.heap.size ob (ps ++ part ts false none x) w) := by
  obtain ⟨i0, hi, hz0, hz1, hz2⟩ := info_parts Try.infoStr
  have hFw := hF.below hb
  have ho_w := ho.below hb
  have hnode := hFw.node hx
  have c5 := hnode.ty
  have c7 := hnode.data
  simp only [nodeR] at c5 c7
  rw [h4, show tyOf 4 = 1 from rfl] at c5
  rw [show dataOf (ts.getD x default) = (ts.getD x default).text by unfold dataOf; rw [if_neg (by omega), if_neg (by omega)]] at c7
  have hmw : W.heap.size ≤ w.heap.size := by omega
  have HB_w := Lib.hid (Below.refl w.heap.size w)
  have hpart : part ts false none x = [(ts.getD x default).text] := by unfold part; rw [if_pos ⟨h4, rfl⟩]; rfl
  obtain ⟨t, ht⟩ : ∃ t, (ts.getD x default).text = t := ⟨_, rfl⟩
  rw [ht] at c7 hpart htx
  have o1 := ho_w.trim
  have d1 := hc_w.box
  have o2 := ho_w.keep
  simp only [keepV] at o2
  have hq := neqNilNil w
  clear hnode ho hF hFw hb ho_w htr ht h4
  go_enter Try.func38, Try.ntmps38
  have HPT := Lib.hid hpart
  obtain ⟨v, hobj, hown⟩ := hc_w.row
  obtain ⟨va, vc, rfl⟩ := rowSlice hown
  have d2 := hobj.cell (i := 0) (v := .slice va ps.length vc) rfl
  have d3 := hobj.free 0
  have HC := Lib.hid hc_w
  have HOBJ := Lib.hid hobj
  have HOWN := Lib.hid hown
  clear hobj
  have hmz : W.heap.size + 3 ≤ w.heap.size := by first | exact hm | (have := HB_w.out.size; omega)
  go_wp2_with (at_builtin; refine wpList_append_own _ rfl _ _ 72 rfl (W.heap.size + 3) 9 i0 (.string ByteArray.empty) 1 16 Try.underlying72 hi hz0 hz1 hz2 rfl (by decide) _ _ _ rfl (hown.alloc _) ⟨w.heap.size, 0, none⟩ 1 1 [.string t] rfl rfl ?c1 ?c2 ?c3 ?c4 ?c5 ?_)
  case c1 =>
    intro j u hj
    match j, hj with
    | 0, hj => simp at hj; subst hj; simp [Addr.add]
  case c2 => intro u hu; simp at hu; subst hu; rfl
  case c3 => unfold maxLen; omega
  case c4 => omega
  case c5 => first | omega | (simp; omega)
  intro v' w1 hown2 hgrow _
  obtain ⟨va', vc', rfl⟩ := rowSlice hown2
  have hst := clo_step hmz HC.out HOBJ.out HOWN.out hgrow hown2
  have s2 := hst.1.cell (i := 0) (v := .slice va ps.length vc) rfl
  have s3 := hst.1.free 0
  have HST := Lib.hid hst.2
  clear hst hgrow hown2 hown d2 d3
  go_wp2
  go_end0
  exact ⟨rfl, by rw [HPT.out]; exact HST.out.1, (HB_w.out.mono hmw).trans HST.out.2⟩

set_option maxRecDepth 100000 in
set_option maxHeartbeats 4000000 in
theorem leaf_nt {B' : Nat} {W : World} {bl len : Nat} {nb : Nat → Nat} {vv : Nat → Value} {ts : List NodeD} (hF : Forest B' W bl len nb vv ts) {x : Nat} (hx : x < len) (h4 : (ts.getD x default).kind = 4) (ob gb : Nat) (sep : ByteArray) (ps : List ByteArray) (w : World) (hb : Below W.heap.size W w) (hm : W.heap.size + 3 ≤ w.heap.size)
    (hc_w : CloAt w W.heap.size ob ps) (ho : OptsAt W ob gb sep true none) (hn : ps.length ≤ 100000) (htx : (ts.getD x default).text.size ≤ 4000) (htr : true = true → wanted ts none x = true → ∀ i (h : i < (ts.getD x default).text.size), ((ts.getD x default).text[i]'h).toNat < 128 ∧ ((ts.getD x default).text[i]'h).toNat ≠ 11) :
    Calls Try.prog 38 #[.pointer (some ⟨nb x, 0, none⟩), .pointer (some ⟨W.heap.size, 0, none⟩), .pointer (some ⟨W.heap.size + 1, 0, none⟩), .pointer (some ⟨W.heap.size + 2, 0, none⟩)] w (CloPost W.heap.size ob (ps ++ part ts true none x) w) := by
  obtain ⟨i0, hi, hz0, hz1, hz2⟩ := info_parts Try.infoStr
  have hFw := hF.below hb
  have ho_w := ho.below hb
  have hnode := hFw.node hx
  have c5 := hnode.ty
  have c7 := hnode.data
  simp only [nodeR] at c5 c7
  rw [h4, show tyOf 4 = 1 from rfl] at c5
  rw [show dataOf (ts.getD x default) = (ts.getD x default).text by unfold dataOf; rw [if_neg (by omega), if_neg (by omega)]] at c7
  have hmw : W.heap.size ≤ w.heap.size := by omega
  have HB_w := Lib.hid (Below.refl w.heap.size w)
  have hpart : part ts true none x = if bareL (ts.getD x default).text.data.toList = [] then [] else [⟨(bareL (ts.getD x default).text.data.toList).toArray⟩] := by unfold part; rw [if_pos ⟨h4, rfl⟩]; rfl
  have ha := htr rfl rfl
  obtain ⟨t, ht⟩ : ∃ t, (ts.getD x default).text = t := ⟨_, rfl⟩
  simp only [ht] at c7 hpart htx ha
  have htrim := fun w' => trim_any t w' (by omega) ha
  have HTR := Lib.hid htrim
  have o1 := ho_w.trim
  have d1 := hc_w.box
  have o2 := ho_w.keep
  simp only [keepV] at o2
  have hq := neqNilNil w
  have HPART := Lib.hid hpart
  clear hpart hnode ho hF hFw hb ho_w htr ht h4 ha htrim
  go_enter Try.func38, Try.ntmps38
  go_wp2_with fail
  refine (HTR.out w).mono ?_
  rintro e w3 ⟨r, rfl, hr, hrs, hb3⟩
  have hc_w3 := hc_w.below hb3
  have HB_w3 := Lib.hid (HB_w.out.trans (hb3.mono HB_w.out.size))
  have hr' := str_of' hr
  cases hE : r.toList.isEmpty
  · have HPT := Lib.hid (HPART.out.trans (by rw [← hr, if_neg (not_nil hE), hr, ← hr']))
    clear hr hrs hb3 hr'
    obtain ⟨v, hobj, hown⟩ := hc_w3.row
    obtain ⟨va, vc, rfl⟩ := rowSlice hown
    have d2 := hobj.cell (i := 0) (v := .slice va ps.length vc) rfl
    have d3 := hobj.free 0
    have HC := Lib.hid hc_w3
    have HOBJ := Lib.hid hobj
    have HOWN := Lib.hid hown
    clear hobj
    have hmz : W.heap.size + 3 ≤ w3.heap.size := by first | exact hm | (have := HB_w3.out.size; omega)
    go_wp2_with (at_builtin; refine wpList_append_own _ rfl _ _ 72 rfl (W.heap.size + 3) 9 i0 (.string ByteArray.empty) 1 16 Try.underlying72 hi hz0 hz1 hz2 rfl (by decide) _ _ _ rfl (hown.alloc _) ⟨w3.heap.size, 0, none⟩ 1 1 [.string r] rfl rfl ?c1 ?c2 ?c3 ?c4 ?c5 ?_)
    case c1 =>
      intro j u hj
      match j, hj with
      | 0, hj => simp at hj; subst hj; simp [Addr.add]
    case c2 => intro u hu; simp at hu; subst hu; rfl
    case c3 => unfold maxLen; omega
    case c4 => omega
    case c5 => first | omega | (simp; omega)
    intro v' w1 hown2 hgrow _
    obtain ⟨va', vc', rfl⟩ := rowSlice hown2
    have hst := clo_step hmz HC.out HOBJ.out HOWN.out hgrow hown2
    have s2 := hst.1.cell (i := 0) (v := .slice va ps.length vc) rfl
    have s3 := hst.1.free 0
    have HST := Lib.hid hst.2
    clear hst hgrow hown2 hown d2 d3
    go_wp2
    go_end0
    exact ⟨rfl, by rw [HPT.out]; exact HST.out.1, (HB_w3.out.mono hmw).trans HST.out.2⟩
  · have HPT := Lib.hid (HPART.out.trans (by rw [← hr, if_pos (nil_of hE)]))
    have HC := Lib.hid hc_w3
    clear hr hrs hb3 hr'
    go_wp2
    go_end0
    exact ⟨rfl, by rw [HPT.out, List.append_nil]; exact HC.out, HB_w3.out.mono hmw⟩

set_option maxRecDepth 100000 in
set_option maxHeartbeats 4000000 in
theorem leaf_sp {B' : Nat} {W : World} {bl len : Nat} {nb : Nat → Nat} {vv : Nat → Value} {ts : List NodeD} (hF : Forest B' W bl len nb vv ts) {x : Nat} (hx : x < len) (h4 : (ts.getD x default).kind = 4) (ob gb : Nat) (sep : ByteArray) (nm : ByteArray) (ps : List ByteArray) (w : World) (hb : Below W.heap.size W w) (hm : W.heap.size + 3 ≤ w.heap.size)
    (hc_w : CloAt w W.heap.size ob ps) (ho : OptsAt W ob gb sep false (some nm)) (hn : ps.length ≤ 100000) (htx : (ts.getD x default).text.size ≤ 4000) (htr : false = true → wanted ts (some nm) x = true → ∀ i (h : i < (ts.getD x default).text.size), ((ts.getD x default).text[i]'h).toNat < 128 ∧ ((ts.getD x default).text[i]'h).toNat ≠ 11) :
    Calls Try.prog 38 #[.pointer (some ⟨nb x, 0, none⟩), .pointer (some ⟨W.heap.size, 0, none⟩), .pointer (some ⟨W.heap.size + 1, 0, none⟩), .pointer (some ⟨W.heap.size + 2, 0, none⟩)] w (CloPost W.heap.size ob (ps ++ part ts false (some nm) x) w) := by
  obtain ⟨i0, hi, hz0, hz1, hz2⟩ := info_parts Try.infoStr
  have hFw := hF.below hb
  have ho_w := ho.below hb
  have hnode := hFw.node hx
  have c5 := hnode.ty
  have c7 := hnode.data
  simp only [nodeR] at c5 c7
  rw [h4, show tyOf 4 = 1 from rfl] at c5
  rw [show dataOf (ts.getD x default) = (ts.getD x default).text by unfold dataOf; rw [if_neg (by omega), if_neg (by omega)]] at c7
  have hmw : W.heap.size ≤ w.heap.size := by omega
  have HB_w := Lib.hid (Below.refl w.heap.size w)
  have o1 := ho_w.trim
  have d1 := hc_w.box
  have o2 := ho_w.keep
  simp only [keepV] at o2
  have hq := neqFuncNil (.func 22) #[] #[.pointer (some ⟨gb, 0, none⟩)] w
  have hkeep := keep_any w hFw hx gb nm (ho_w.name nm rfl)
  cases hk : kept ts nm x
  · have hpart : part ts false (some nm) x = [] := by unfold part; rw [if_neg (by rintro ⟨_, h⟩; rw [show wanted ts (some nm) x = kept ts nm x from rfl, hk] at h; cases h)]
    rw [hk] at hkeep
    have KEEP := Lib.hid hkeep
    have HPT := Lib.hid hpart
    clear hnode ho hF hFw hb ho_w htr h4 hkeep hpart hk
    go_enter Try.func38, Try.ntmps38
    go_wp2_with fail
    refine (KEEP.out).mono ?_
    rintro e w9 ⟨rfl, d, rfl⟩
    have hbz := below_drewN (Below.refl w.heap.size w) d
    have d1z := cell_below hbz d1
    have o1z := cell_below hbz o1
    have c7z := cell_below hbz c7
    have hc_wz := hc_w.below hbz
    obtain ⟨wz, hwz⟩ : ∃ wz, w.drewN d = wz := ⟨_, rfl⟩
    rw [hwz] at hbz d1z o1z c7z hc_wz
    rw [hwz]
    clear hwz
    have HB_wz := Lib.hid hbz
    clear hbz
    have HC := Lib.hid hc_wz
    go_wp2
    go_end0
    exact ⟨rfl, by rw [HPT.out, List.append_nil]; exact HC.out, HB_wz.out.mono hmw⟩
  · have hpart : part ts false (some nm) x = [(ts.getD x default).text] := by unfold part; rw [if_pos ⟨h4, hk⟩]; rfl
    rw [hk] at hkeep
    have KEEP := Lib.hid hkeep
    obtain ⟨t, ht⟩ : ∃ t, (ts.getD x default).text = t := ⟨_, rfl⟩
    rw [ht] at c7 hpart htx
    clear hnode ho hF hFw hb ho_w htr ht h4 hkeep hk
    go_enter Try.func38, Try.ntmps38
    go_wp2_with fail
    refine (KEEP.out).mono ?_
    rintro e w9 ⟨rfl, d, rfl⟩
    have hbz := below_drewN (Below.refl w.heap.size w) d
    have d1z := cell_below hbz d1
    have o1z := cell_below hbz o1
    have c7z := cell_below hbz c7
    have hc_wz := hc_w.below hbz
    obtain ⟨wz, hwz⟩ : ∃ wz, w.drewN d = wz := ⟨_, rfl⟩
    rw [hwz] at hbz d1z o1z c7z hc_wz
    rw [hwz]
    clear hwz
    have HB_wz := Lib.hid hbz
    clear hbz
    have HPT := Lib.hid hpart
    obtain ⟨v, hobj, hown⟩ := hc_wz.row
    obtain ⟨va, vc, rfl⟩ := rowSlice hown
    have d2 := hobj.cell (i := 0) (v := .slice va ps.length vc) rfl
    have d3 := hobj.free 0
    have HC := Lib.hid hc_wz
    have HOBJ := Lib.hid hobj
    have HOWN := Lib.hid hown
    clear hobj
    have hmz : W.heap.size + 3 ≤ wz.heap.size := by first | exact hm | (have := HB_wz.out.size; omega)
    go_wp2_with (at_builtin; refine wpList_append_own _ rfl _ _ 72 rfl (W.heap.size + 3) 9 i0 (.string ByteArray.empty) 1 16 Try.underlying72 hi hz0 hz1 hz2 rfl (by decide) _ _ _ rfl (hown.alloc _) ⟨wz.heap.size, 0, none⟩ 1 1 [.string t] rfl rfl ?c1 ?c2 ?c3 ?c4 ?c5 ?_)
    case c1 =>
      intro j u hj
      match j, hj with
      | 0, hj => simp at hj; subst hj; simp [Addr.add]
    case c2 => intro u hu; simp at hu; subst hu; rfl
    case c3 => unfold maxLen; omega
    case c4 => omega
    case c5 => first | omega | (simp; omega)
    intro v' w1 hown2 hgrow _
    obtain ⟨va', vc', rfl⟩ := rowSlice hown2
    have hst := clo_step hmz HC.out HOBJ.out HOWN.out hgrow hown2
    have s2 := hst.1.cell (i := 0) (v := .slice va ps.length vc) rfl
    have s3 := hst.1.free 0
    have HST := Lib.hid hst.2
    clear hst hgrow hown2 hown d2 d3
    go_wp2
    go_end0
    exact ⟨rfl, by rw [HPT.out]; exact HST.out.1, (HB_wz.out.mono hmw).trans HST.out.2⟩

set_option maxRecDepth 100000 in
set_option maxHeartbeats 4000000 in
theorem leaf_st {B' : Nat} {W : World} {bl len : Nat} {nb : Nat → Nat} {vv : Nat → Value} {ts : List NodeD} (hF : Forest B' W bl len nb vv ts) {x : Nat} (hx : x < len) (h4 : (ts.getD x default).kind = 4) (ob gb : Nat) (sep : ByteArray) (nm : ByteArray) (ps : List ByteArray) (w : World) (hb : Below W.heap.size W w) (hm : W.heap.size + 3 ≤ w.heap.size)
    (hc_w : CloAt w W.heap.size ob ps) (ho : OptsAt W ob gb sep true (some nm)) (hn : ps.length ≤ 100000) (htx : (ts.getD x default).text.size ≤ 4000) (htr : true = true → wanted ts (some nm) x = true → ∀ i (h : i < (ts.getD x default).text.size), ((ts.getD x default).text[i]'h).toNat < 128 ∧ ((ts.getD x default).text[i]'h).toNat ≠ 11) :
    Calls Try.prog 38 #[.pointer (some ⟨nb x, 0, none⟩), .pointer (some ⟨W.heap.size, 0, none⟩), .pointer (some ⟨W.heap.size + 1, 0, none⟩), .pointer (some ⟨W.heap.size + 2, 0, none⟩)] w (CloPost W.heap.size ob (ps ++ part ts true (some nm) x) w) := by
  obtain ⟨i0, hi, hz0, hz1, hz2⟩ := info_parts Try.infoStr
  have hFw := hF.below hb
  have ho_w := ho.below hb
  have hnode := hFw.node hx
  have c5 := hnode.ty
  have c7 := hnode.data
  simp only [nodeR] at c5 c7
  rw [h4, show tyOf 4 = 1 from rfl] at c5
  rw [show dataOf (ts.getD x default) = (ts.getD x default).text by unfold dataOf; rw [if_neg (by omega), if_neg (by omega)]] at c7
  have hmw : W.heap.size ≤ w.heap.size := by omega
  have HB_w := Lib.hid (Below.refl w.heap.size w)
  have o1 := ho_w.trim
  have d1 := hc_w.box
  have o2 := ho_w.keep
  simp only [keepV] at o2
  have hq := neqFuncNil (.func 22) #[] #[.pointer (some ⟨gb, 0, none⟩)] w
  have hkeep := keep_any w hFw hx gb nm (ho_w.name nm rfl)
  cases hk : kept ts nm x
  · have hpart : part ts true (some nm) x = [] := by unfold part; rw [if_neg (by rintro ⟨_, h⟩; rw [show wanted ts (some nm) x = kept ts nm x from rfl, hk] at h; cases h)]
    rw [hk] at hkeep
    have KEEP := Lib.hid hkeep
    have HPT := Lib.hid hpart
    clear hnode ho hF hFw hb ho_w htr h4 hkeep hpart hk
    go_enter Try.func38, Try.ntmps38
    go_wp2_with fail
    refine (KEEP.out).mono ?_
    rintro e w9 ⟨rfl, d, rfl⟩
    have hbz := below_drewN (Below.refl w.heap.size w) d
    have d1z := cell_below hbz d1
    have o1z := cell_below hbz o1
    have c7z := cell_below hbz c7
    have hc_wz := hc_w.below hbz
    obtain ⟨wz, hwz⟩ : ∃ wz, w.drewN d = wz := ⟨_, rfl⟩
    rw [hwz] at hbz d1z o1z c7z hc_wz
    rw [hwz]
    clear hwz
    have HB_wz := Lib.hid hbz
    clear hbz
    have HC := Lib.hid hc_wz
    go_wp2
    go_end0
    exact ⟨rfl, by rw [HPT.out, List.append_nil]; exact HC.out, HB_wz.out.mono hmw⟩
  · have hpart : part ts true (some nm) x = if bareL (ts.getD x default).text.data.toList = [] then [] else [⟨(bareL (ts.getD x default).text.data.toList).toArray⟩] := by unfold part; rw [if_pos ⟨h4, hk⟩]; rfl
    have ha := htr rfl hk
    rw [hk] at hkeep
    have KEEP := Lib.hid hkeep
    obtain ⟨t, ht⟩ : ∃ t, (ts.getD x default).text = t := ⟨_, rfl⟩
    simp only [ht] at c7 hpart htx ha
    have htrim := fun w' => trim_any t w' (by omega) ha
    have HTR := Lib.hid htrim
    have HPART := Lib.hid hpart
    clear hpart hnode ho hF hFw hb ho_w htr ht h4 hkeep hk ha htrim
    go_enter Try.func38, Try.ntmps38
    go_wp2_with fail
    refine (KEEP.out).mono ?_
    rintro e w9 ⟨rfl, d, rfl⟩
    have hbz := below_drewN (Below.refl w.heap.size w) d
    have d1z := cell_below hbz d1
    have o1z := cell_below hbz o1
    have c7z := cell_below hbz c7
    have hc_wz := hc_w.below hbz
    obtain ⟨wz, hwz⟩ : ∃ wz, w.drewN d = wz := ⟨_, rfl⟩
    rw [hwz] at hbz d1z o1z c7z hc_wz
    rw [hwz]
    clear hwz
    have HB_wz := Lib.hid hbz
    clear hbz
    go_wp2_with fail
    refine (HTR.out wz).mono ?_
    rintro e w3 ⟨r, rfl, hr, hrs, hb3⟩
    have hc_w3 := hc_wz.below hb3
    have HB_w3 := Lib.hid (HB_wz.out.trans (hb3.mono HB_wz.out.size))
    have hr' := str_of' hr
    cases hE : r.toList.isEmpty
    · have HPT := Lib.hid (HPART.out.trans (by rw [← hr, if_neg (not_nil hE), hr, ← hr']))
      clear hr hrs hb3 hr'
      obtain ⟨v, hobj, hown⟩ := hc_w3.row
      obtain ⟨va, vc, rfl⟩ := rowSlice hown
      have d2 := hobj.cell (i := 0) (v := .slice va ps.length vc) rfl
      have d3 := hobj.free 0
      have HC := Lib.hid hc_w3
      have HOBJ := Lib.hid hobj
      have HOWN := Lib.hid hown
      clear hobj
      have hmz : W.heap.size + 3 ≤ w3.heap.size := by first | exact hm | (have := HB_w3.out.size; omega)
      go_wp2_with (at_builtin; refine wpList_append_own _ rfl _ _ 72 rfl (W.heap.size + 3) 9 i0 (.string ByteArray.empty) 1 16 Try.underlying72 hi hz0 hz1 hz2 rfl (by decide) _ _ _ rfl (hown.alloc _) ⟨w3.heap.size, 0, none⟩ 1 1 [.string r] rfl rfl ?c1 ?c2 ?c3 ?c4 ?c5 ?_)
      case c1 =>
        intro j u hj
        match j, hj with
        | 0, hj => simp at hj; subst hj; simp [Addr.add]
      case c2 => intro u hu; simp at hu; subst hu; rfl
      case c3 => unfold maxLen; omega
      case c4 => omega
      case c5 => first | omega | (simp; omega)
      intro v' w1 hown2 hgrow _
      obtain ⟨va', vc', rfl⟩ := rowSlice hown2
      have hst := clo_step hmz HC.out HOBJ.out HOWN.out hgrow hown2
      have s2 := hst.1.cell (i := 0) (v := .slice va ps.length vc) rfl
      have s3 := hst.1.free 0
      have HST := Lib.hid hst.2
      clear hst hgrow hown2 hown d2 d3
      go_wp2
      go_end0
      exact ⟨rfl, by rw [HPT.out]; exact HST.out.1, (HB_w3.out.mono hmw).trans HST.out.2⟩
    · have HPT := Lib.hid (HPART.out.trans (by rw [← hr, if_pos (nil_of hE)]))
      have HC := Lib.hid hc_w3
      clear hr hrs hb3 hr'
      go_wp2
      go_end0
      exact ⟨rfl, by rw [HPT.out, List.append_nil]; exact HC.out, HB_w3.out.mono hmw⟩

end Go.Proofs.Ytikimffifkiinaa
