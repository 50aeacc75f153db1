/- spec.TextsOf: its walk. -/
import Derived.Test.YtikimffifkiinaaTextsOf
import Derived.Test.YtikimffifkiinaaImplText
import Derived.Test.YtikimffifkiinaaOrder
namespace Go.Proofs.Ytikimffifkiinaa
open Go.RowKit
set_option linter.unusedVariables false
set_option linter.unusedSimpArgs false

theorem tsum_mono (ts : List NodeD) : ∀ {n k : Nat}, k < n → (ts.getD k default).text.size ≤ tsum ts n
  | 0, k, h => by omega
  | n + 1, k, h => by
    rw [tsum]
    by_cases e : k = n
    · subst e; omega
    · have := tsum_mono ts (n := n) (k := k) (by omega); omega

theorem text_le {ts : List NodeD} {len : Nat} (h : RightT ts len) (hl : ts.length = len) (i : Nat) : (ts.getD i default).text.size ≤ 4000 := by
  by_cases hi : i < len
  · exact Nat.le_trans (tsum_mono ts hi) h.texts
  · rw [List.getD_eq_getElem?_getD, List.getElem?_eq_none (by omega)]
    exact Nat.zero_le _

theorem bare_len (l : List UInt8) : (bareL l).length ≤ l.length := by
  unfold bareL
  rw [List.length_reverse]
  have h1 := (List.dropWhile_sublist spaceB (l := (l.dropWhile spaceB).reverse)).length_le
  have h2 := (List.dropWhile_sublist spaceB (l := l)).length_le
  rw [List.length_reverse] at h1
  omega

theorem part_small {ts : List NodeD} {M : Nat} (hM : ∀ i, (ts.getD i default).text.size ≤ M) (trim : Bool) (name : Option ByteArray) (i : Nat) : ∀ r ∈ part ts trim name i, r.data.toList.length ≤ M := by
  intro r hr
  have h1 := hM i
  rw [size_list] at h1
  unfold part at hr
  split at hr
  · split at hr
    · split at hr
      · cases hr
      · rw [List.mem_singleton] at hr
        subst hr
        rw [List.toList_toArray]
        exact Nat.le_trans (bare_len _) h1
    · rw [List.mem_singleton] at hr
      subst hr
      exact h1
  · cases hr

theorem parts_small {ts : List NodeD} {M : Nat} (hM : ∀ i, (ts.getD i default).text.size ≤ M) (trim : Bool) (name : Option ByteArray) (a : Nat) : ∀ k, ∀ r ∈ parts ts trim name a k, r.data.toList.length ≤ M := by
  intro k
  induction k with
  | zero => intro r hr; cases hr
  | succ k ih =>
    intro r hr
    rw [parts, List.mem_append] at hr
    rcases hr with hr | hr
    · exact ih r hr
    · exact part_small hM trim name _ r hr

theorem join_small {sep : List UInt8} {M S : Nat} (hs : sep.length ≤ S) : ∀ L : List (List UInt8), (∀ r ∈ L, r.length ≤ M) → (Lib.join L sep).length ≤ L.length * (M + S)
  | [], _ => by simp [Lib.join_nil]
  | [x], h => by
    rw [Lib.join_one]
    have := h x (List.mem_cons_self ..)
    simp
    omega
  | x :: y :: t, h => by
    have ih := join_small hs (y :: t) (fun r hr => h r (List.mem_cons_of_mem _ hr))
    have hx := h x (List.mem_cons_self ..)
    have e : (Lib.join (x :: y :: t) sep).length = x.length + (sep.length + (Lib.join (y :: t) sep).length) := by
      rw [Lib.join_cons, Lib.join_cons]
      simp [Lib.joinTail]
    rw [e]
    simp only [List.length_cons, Nat.succ_mul] at ih ⊢
    omega

theorem dataOf_up {ts : List NodeD} {len : Nat} (hR : RightT ts len) {y q : Nat} (hy : y < len) (hp : par (sz ts) y = some q) : (dataOf (ts.getD q default)).toList = (ts.getD q default).tag.toList := by
  obtain ⟨h1, h2, _⟩ := par_some hp
  have hn := hR.node q (by omega)
  unfold dataOf
  rcases hn.kinds with ⟨hk, _⟩ | ⟨hk, hz⟩ | hk | ⟨hk, hz⟩ | ⟨hk, hz⟩
  · rw [if_pos hk, (hn.bare (by omega)).1, ByteArray.toList_eq]
    rfl
  · omega
  · rw [if_neg (by omega), if_pos hk]
  · omega
  · omega

theorem wanted_none {ts : List NodeD} {p : ByteArray} {y : Nat} (h : p.toList.isEmpty = true) : wanted ts (nameOpt p) y = true := by
  unfold nameOpt
  rw [if_pos h]
  rfl

theorem wanted_some {ts : List NodeD} {len : Nat} (hR : RightT ts len) {p : ByteArray} {y q : Nat} (hy : y < len) (hp : par (sz ts) y = some q) (h : p.toList.isEmpty = false) : wanted ts (nameOpt p) y = ((ts.getD q default).tag.toList == p.toList) := by
  unfold nameOpt
  rw [if_neg (by simp [h])]
  show kept ts p y = _
  unfold kept
  rw [hp]
  simp only [dataOf_up hR hy hp]

theorem SoFar.small {ts : List NodeD} {trim : Bool} {name : Option ByteArray} {sep : List UInt8} {done : List Nat} {x j : Nat} {z : ByteArray} {b : Bool} (h : SoFar ts trim name sep done x j z b) (hM : ∀ i, (ts.getD i default).text.size ≤ 4000) (hs : sep.length ≤ 100) (hd : done.length ≤ 200) (hj : j ≤ 200) : z.size ≤ 1000000000 := by
  have h2 : ∀ r ∈ bytesOf (partsL ts trim name done ++ parts ts trim name x j), r.length ≤ 4000 := by
    intro r hr
    obtain ⟨y, hy, rfl⟩ := List.mem_map.1 hr
    rcases List.mem_append.1 hy with hy | hy
    · obtain ⟨i, hi, hx⟩ := List.mem_flatMap.1 hy
      exact parts_small hM trim name i _ y hx
    · exact parts_small hM trim name _ _ y hy
  have h3 := join_small (sep := sep) (S := 100) hs _ h2
  rw [← h.out, ← size_list] at h3
  have h4 : (bytesOf (partsL ts trim name done ++ parts ts trim name x j)).length = (partsL ts trim name done ++ parts ts trim name x j).length := by unfold bytesOf; rw [List.length_map]
  rw [h4] at h3
  have h5 := h.len
  have h6 : (partsL ts trim name done ++ parts ts trim name x j).length * (4000 + 100) ≤ 40200 * (4000 + 100) := Nat.mul_le_mul_right _ (by omega)
  omega

theorem arr_eq {r t : ByteArray} (h : r.data.toList = t.data.toList) : r = t := by
  cases r with
  | mk a =>
    cases t with
    | mk b =>
      congr 1
      exact Array.toList_inj.1 h

theorem SoFar.empty {ts : List NodeD} {trim : Bool} {name : Option ByteArray} {sep : List UInt8} {done : List Nat} {x j : Nat} {z : ByteArray} (h : SoFar ts trim name sep done x j z false) : z = ⟨#[]⟩ := by
  have h1 := h.some
  have h2 := h.out
  have h3 : partsL ts trim name done ++ parts ts trim name x j = [] := by
    cases hh : partsL ts trim name done ++ parts ts trim name x j with
    | nil => rfl
    | cons a l => rw [hh] at h1; simp at h1
  rw [h3] at h2
  exact arr_eq (by simpa [bytesOf, Lib.join_nil] using h2)

def TextsPost (ts : List NodeD) (trim : Bool) (name : Option ByteArray) (sep : ByteArray) (l : List Nat) (w : World) (e : Ending) (w' : World) : Prop :=
  Below w.heap.size w w' ∧ ((∃ z, e = .returned (.tuple #[.string z, .bool false])) ∨
    ∃ z : ByteArray, e = .returned (.tuple #[.string z, .bool true]) ∧ z.data.toList = Lib.join (bytesOf (partsL ts trim name l)) sep.data.toList ∧ ∀ i ∈ l, Trimmable ts i trim name)

set_option maxRecDepth 100000 in
set_option maxHeartbeats 4000000 in
theorem textsOf_any (w : World) (a : Option Addr) (len cap : Nat) (ts : List NodeD) (hR : RightT ts len) (hN : Nodes w a len ts) (ka : Option Addr) (kcap kb koff : Nat) (l : List Nat) (hka : 0 < l.length → ka = some ⟨kb, koff, none⟩) (hkc : ∀ i, i < l.length → w.cell? ⟨kb, koff + i, none⟩ = some (.int .i64 ((l.getD i 0 : Nat) : Int)))
    (hl : ∀ i ∈ l, i < len) (hll : l.length ≤ 200) (sep : ByteArray) (hsep : sep.size ≤ 100) (trim : Bool) (p : ByteArray) :
    Calls Try.prog 8 #[.slice a len cap, .slice ka l.length kcap, .string sep, .bool trim, .string p] w (TextsPost ts trim (nameOpt p) sep l w) := by
  have hpos := hR.pos
  have hlen := hR.le
  obtain ⟨b, off, rfl, hc⟩ := hN.at hpos
  have HC := Lib.hid hc
  have HR := Lib.hid hR
  have HN := Lib.hid hN
  have HL := Lib.hid hl
  have HKA := Lib.hid hka
  have HKC := Lib.hid hkc
  clear hc hR hN hl hka hkc
  go_enter Try.func8, Try.ntmps8
  go_wp2
  go_loopw [12, 13, 14] (fun vz vb vi wr => ∃ (k : Nat) (z : ByteArray) (bb : Bool), k ≤ l.length ∧ vi = .int .i64 (k : Int) ∧ vz = .string z ∧ vb = .bool bb ∧ Hid (SoFar ts trim (nameOpt p) sep.data.toList (l.take k) (l.getD k 0) 0 z bb) ∧ Below w.heap.size w wr) (fun _ _ i _ => l.length - (intOf i).toNat)
  case atStart => exact ⟨0, ⟨#[]⟩, false, by omega, by go_num, rfl, rfl, Lib.hid SoFar.start, Below.refl _ _⟩
  case round =>
    obtain ⟨k, z, bb, hk, rfl, rfl, rfl, HS, hbel⟩ := hrel
    have HBEL := Lib.hid hbel
    clear hbel
    by_cases hlt : k < l.length
    · obtain rfl := HKA.out (by omega)
      have ck := cell_below HBEL.out (HKC.out k hlt)
      have hxl := HL.out _ (getD_mem' (d := 0) hlt)
      obtain ⟨x, hx⟩ : ∃ x, l.getD k 0 = x := ⟨_, rfl⟩
      rw [hx] at ck hxl HS
      have HX := Lib.hid hx
      clear hx
      have hkI : (k : Int) < (l.length : Int) := by omega
      have hxI : (x : Int) < (len : Int) := by omega
      have cz : w.cell? ⟨b, off + x * 5 + 4, none⟩ = some (.int .i64 (sz ts x : Int)) := by rw [(HC.out x hxl).size, (HR.out.sizes x hxl).2.1]
      have czr := cell_below HBEL.out cz
      clear cz
      go_wp2
      go_loopw [12, 13, 15] (fun vz vb vk wy => ∃ (j : Nat) (z : ByteArray) (bb : Bool), j ≤ sz ts x ∧ vk = .int .i64 ((x + j : Nat) : Int) ∧ vz = .string z ∧ vb = .bool bb ∧ Hid (SoFar ts trim (nameOpt p) sep.data.toList (l.take k) x j z bb) ∧ Below w.heap.size w wy) (fun _ _ i _ => x + sz ts x - (intOf i).toNat)
      case atStart => exact ⟨0, z, bb, by omega, by go_num, rfl, rfl, HS, HBEL.out⟩
      case round =>
        obtain ⟨j, z, bb, hj, rfl, rfl, rfl, HS, hbel⟩ := hrel
        have HBEL := Lib.hid hbel
        have ckY := cell_below hbel (HKC.out k hlt)
        have czY := cell_below hbel (show w.cell? ⟨b, off + x * 5 + 4, none⟩ = some (.int .i64 (sz ts x : Int)) by rw [(HC.out x hxl).size, (HR.out.sizes x hxl).2.1])
        rw [HX.out] at ckY
        obtain ⟨y, hy⟩ : ∃ y, x + j = y := ⟨_, rfl⟩
        rw [hy]
        have HY := Lib.hid hy
        clear hbel ck czr
        have hfx := HR.out.nest.fit x hxl
        have hfxI : (x : Int) + (sz ts x : Int) ≤ 200 := by omega
        have hfx0 : (0 : Int) ≤ (x : Int) + (sz ts x : Int) := by omega
        have hwr : wrap64 ((x : Int) + (sz ts x : Int)) = (x : Int) + (sz ts x : Int) := by unfold wrap64; omega
        by_cases hjl : j < sz ts x
        · have hyI : (y : Int) < (x : Int) + (sz ts x : Int) := by omega
          have hyd : decide ((y : Int) < (x : Int) + (sz ts x : Int)) = true := by simpa using hyI
          clear hy
          go_wp2
          go_quiet (fail)
          obtain ⟨wz, hwz⟩ : ∃ wz, wr.drewN nq = wz := ⟨_, rfl⟩
          have hbz : Below w.heap.size w wz := by rw [← hwz]; exact below_drewN HBEL.out nq
          rw [hwz]
          have HBZ := Lib.hid hbz
          clear hwz
          have hyl : y < len := by have := HR.out.nest.fit x hxl; have := HY.out; omega
          have hylI : (y : Int) < (len : Int) := by omega
          have kk := cell_below hbz (HC.out y hyl).kind
          have kt := cell_below hbz (HC.out y hyl).text
          obtain ⟨n, hn⟩ : ∃ n, ts.getD y default = n := ⟨_, rfl⟩
          rw [hn] at kk kt
          have HND := Lib.hid hn
          clear hn hbz
          by_cases h4 : n.kind = 4
          · rw [h4] at kk
            have hy0 : 0 < y := by
              rcases Nat.eq_zero_or_pos y with h0 | h0
              · exfalso
                have := HR.out.kind
                unfold kd at this
                rw [h0] at HND
                rw [HND.out] at this
                omega
              · exact h0
            obtain ⟨q, hq⟩ := par_is HR.out.root hyl hy0
            have hql : q < len := by have := (par_some hq).1; omega
            have hpar := parent_any (some ⟨b, off, none⟩) len cap ts y wz (HN.out.below HBZ.out) HR.out.sizes (fun j hj => HR.out.nest.fit j hj) hyl
            rw [hq] at hpar
            have kq := cell_below HBZ.out (HC.out q hql).tag
            have hwant := fun h => wanted_some HR.out (p := p) hyl hq h
            obtain ⟨tg, htg⟩ : ∃ tg, (ts.getD q default).tag = tg := ⟨_, rfl⟩
            rw [htg] at kq hwant
            have hsm := text_le HR.out HN.out.len.1 y
            rw [HND.out] at hsm
            have hzs := SoFar.small HS.out (text_le HR.out HN.out.len.1) (by rw [← size_list]; exact hsep) (by rw [List.length_take]; omega) (by omega)
            have hpt : part ts trim (nameOpt p) (x + j) = if wanted ts (nameOpt p) y = true then (if trim then (if bareL n.text.data.toList = [] then [] else [⟨(bareL n.text.data.toList).toArray⟩]) else [n.text]) else [] := by
              unfold part
              rw [HY.out, HND.out]
              simp only [h4, true_and]
            obtain ⟨s, hs⟩ : ∃ s, n.text = s := ⟨_, rfl⟩
            rw [hs] at kt hsm hpt
            have hqI : (q : Int) < (len : Int) := by omega
            have HSS := Lib.hid hs
            have HPT := Lib.hid hpt
            have HW := Lib.hid hwant
            have HPAR := Lib.hid hpar
            have h4f : ((4 : Int) != 4) = false := by decide
            clear hpt hwant hpar hq htg hs h4 hfx hxl
            cases trim
            · have HRN := Lib.hid True.intro
              cases hE : p.toList.isEmpty
              · have HWE := Lib.hid (HW.out hE)
                go_wp2_with fail
                refine HPAR.out.mono ?_
                rintro e w2 ⟨rfl, rfl⟩
                simp only [parI]
                cases hT : (tg.toList == p.toList)
                · have hT2 : (tg.toList != p.toList) = true := by rw [bne, hT]; rfl
                  have HWF := Lib.hid (HWE.out.trans hT)
                  have HSK := Lib.hid (SoFar.skip HS.out (by rw [HPT.out, if_neg (by rw [HWF.out]; exact Bool.false_ne_true)]) (by rw [HY.out]; intro _ _ hh; rw [HWF.out] at hh; cases hh))
                  go_wp2
                  refine ⟨?rel, ?measure⟩
                  case rel => exact ⟨j + 1, z, bb, by omega, by have := HY.out; go_num, rfl, rfl, HSK, HBZ.out⟩
                  case measure => have := HY.out; simp [intOf]; omega
                · have hT2 : (tg.toList != p.toList) = false := by rw [bne, hT]; rfl
                  have HWT := Lib.hid (HWE.out.trans hT)
                  cases bb
                  · have hz1 : ¬ 9223372036854775807 < z.size + s.size := by omega
                    have hz3 : (z ++ sep).size = z.size + sep.size := by rw [ByteArray.size_append]
                    have hz2 : ¬ 9223372036854775807 < (z ++ sep).size + s.size := by omega
                    go_wp2
                    refine ⟨?rel, ?measure⟩
                    case rel => exact ⟨j + 1, z ++ s, true, by omega, by have := HY.out; go_num, rfl, rfl, Lib.hid (SoFar.add HS.out (r := s) (by rw [HPT.out, if_pos HWT.out, if_neg Bool.false_ne_true]) (by rw [SoFar.empty HS.out]; simp [ByteArray.data_append, Array.toList_append]) (by intro _ hh; cases hh)), HBZ.out⟩
                    case measure => have := HY.out; simp [intOf]; omega
                  · have hz1 : ¬ 9223372036854775807 < z.size + sep.size := by omega
                    have hz3 : (z ++ sep).size = z.size + sep.size := by rw [ByteArray.size_append]
                    have hz2 : ¬ 9223372036854775807 < (z ++ sep).size + s.size := by omega
                    go_wp2
                    refine ⟨?rel, ?measure⟩
                    case rel => exact ⟨j + 1, z ++ sep ++ s, true, by omega, by have := HY.out; go_num, rfl, rfl, Lib.hid (SoFar.add HS.out (r := s) (by rw [HPT.out, if_pos HWT.out, if_neg Bool.false_ne_true]) (by simp [ByteArray.data_append, Array.toList_append]) (by intro _ hh; cases hh)), HBZ.out⟩
                    case measure => have := HY.out; simp [intOf]; omega
              · have HWT := Lib.hid (wanted_none (ts := ts) (y := y) hE)
                cases bb
                · have hz1 : ¬ 9223372036854775807 < z.size + s.size := by omega
                  have hz3 : (z ++ sep).size = z.size + sep.size := by rw [ByteArray.size_append]
                  have hz2 : ¬ 9223372036854775807 < (z ++ sep).size + s.size := by omega
                  go_wp2
                  refine ⟨?rel, ?measure⟩
                  case rel => exact ⟨j + 1, z ++ s, true, by omega, by have := HY.out; go_num, rfl, rfl, Lib.hid (SoFar.add HS.out (r := s) (by rw [HPT.out, if_pos HWT.out, if_neg Bool.false_ne_true]) (by rw [SoFar.empty HS.out]; simp [ByteArray.data_append, Array.toList_append]) (by intro _ hh; cases hh)), HBZ.out⟩
                  case measure => have := HY.out; simp [intOf]; omega
                · have hz1 : ¬ 9223372036854775807 < z.size + sep.size := by omega
                  have hz3 : (z ++ sep).size = z.size + sep.size := by rw [ByteArray.size_append]
                  have hz2 : ¬ 9223372036854775807 < (z ++ sep).size + s.size := by omega
                  go_wp2
                  refine ⟨?rel, ?measure⟩
                  case rel => exact ⟨j + 1, z ++ sep ++ s, true, by omega, by have := HY.out; go_num, rfl, rfl, Lib.hid (SoFar.add HS.out (r := s) (by rw [HPT.out, if_pos HWT.out, if_neg Bool.false_ne_true]) (by simp [ByteArray.data_append, Array.toList_append]) (by intro _ hh; cases hh)), HBZ.out⟩
                  case measure => have := HY.out; simp [intOf]; omega
            · go_wp2_with fail
              refine (bare_any s wz (by omega)).mono ?_
              rintro e w2 ⟨r, rfl, hr, hrs, rfl⟩
              cases hRE : r.toList.isEmpty
              · have HRN := Lib.hid (show ¬ bareL s.data.toList = [] from fun hh => by rw [← hr] at hh; rw [ByteArray.toList_eq, hh] at hRE; cases hRE)
                clear hr
                cases hE : p.toList.isEmpty
                · have HWE := Lib.hid (HW.out hE)
                  go_wp2_with fail
                  refine HPAR.out.mono ?_
                  rintro e w2 ⟨rfl, rfl⟩
                  simp only [parI]
                  cases hT : (tg.toList == p.toList)
                  · have hT2 : (tg.toList != p.toList) = true := by rw [bne, hT]; rfl
                    have HWF := Lib.hid (HWE.out.trans hT)
                    have HSK := Lib.hid (SoFar.skip HS.out (by rw [HPT.out, if_neg (by rw [HWF.out]; exact Bool.false_ne_true)]) (by rw [HY.out]; intro _ _ hh; rw [HWF.out] at hh; cases hh))
                    go_wp2
                    refine ⟨?rel, ?measure⟩
                    case rel => exact ⟨j + 1, z, bb, by omega, by have := HY.out; go_num, rfl, rfl, HSK, HBZ.out⟩
                    case measure => have := HY.out; simp [intOf]; omega
                  · have hT2 : (tg.toList != p.toList) = false := by rw [bne, hT]; rfl
                    have HWT := Lib.hid (HWE.out.trans hT)
                    go_wp2_with fail
                    refine (asciiX_any s wz (by unfold maxLen; omega)).mono ?_
                    rintro e w3 ⟨b3, hb3, rfl, rfl⟩
                    have HB3 := Lib.hid hb3
                    clear hb3
                    cases b3
                    · go_wp2
                      go_ret2
                      exact ⟨HBZ.out, .inl ⟨_, rfl⟩⟩
                    · go_wp2_with fail
                      refine (inside_any s ⟨#[11]⟩ wz (by omega) (by decide)).mono ?_
                      rintro e w3 ⟨b4, hb4, rfl, rfl⟩
                      have HB4 := Lib.hid hb4
                      clear hb4
                      cases b4
                      · have HT := Lib.hid (show ∀ k (h : k < s.size), (s[k]'h).toNat < 128 ∧ (s[k]'h).toNat ≠ 11 from fun k h => ⟨HB3.out (by simp) k h, noVT (fun hh => by have := HB4.out.2 hh; cases this) k h⟩)
                        go_wp2_with fail
                        refine (bare_any s wz (by omega)).mono ?_
                        rintro e w3 ⟨r2, rfl, hr2, hrs2, rfl⟩
                        have HR2 := Lib.hid (show (⟨(bareL s.data.toList).toArray⟩ : ByteArray) = r2 from arr_eq (by simp [hr2]))
                        clear hr2
                        cases bb
                        · have hz1 : ¬ 9223372036854775807 < z.size + r2.size := by omega
                          have hz3 : (z ++ sep).size = z.size + sep.size := by rw [ByteArray.size_append]
                          have hz2 : ¬ 9223372036854775807 < (z ++ sep).size + r2.size := by omega
                          go_wp2
                          refine ⟨?rel, ?measure⟩
                          case rel => exact ⟨j + 1, z ++ r2, true, by omega, by have := HY.out; go_num, rfl, rfl, Lib.hid (SoFar.add HS.out (r := r2) (by rw [HPT.out, if_pos HWT.out, if_pos (by simp), if_neg HRN.out, HR2.out]) (by rw [SoFar.empty HS.out]; simp [ByteArray.data_append, Array.toList_append]) (by rw [HY.out, HND.out, HSS.out]; exact fun _ _ _ => HT.out)), HBZ.out⟩
                          case measure => have := HY.out; simp [intOf]; omega
                        · have hz1 : ¬ 9223372036854775807 < z.size + sep.size := by omega
                          have hz3 : (z ++ sep).size = z.size + sep.size := by rw [ByteArray.size_append]
                          have hz2 : ¬ 9223372036854775807 < (z ++ sep).size + r2.size := by omega
                          go_wp2
                          refine ⟨?rel, ?measure⟩
                          case rel => exact ⟨j + 1, z ++ sep ++ r2, true, by omega, by have := HY.out; go_num, rfl, rfl, Lib.hid (SoFar.add HS.out (r := r2) (by rw [HPT.out, if_pos HWT.out, if_pos (by simp), if_neg HRN.out, HR2.out]) (by simp [ByteArray.data_append, Array.toList_append]) (by rw [HY.out, HND.out, HSS.out]; exact fun _ _ _ => HT.out)), HBZ.out⟩
                          case measure => have := HY.out; simp [intOf]; omega
                      · go_wp2
                        go_ret2
                        exact ⟨HBZ.out, .inl ⟨_, rfl⟩⟩
                · have HWT := Lib.hid (wanted_none (ts := ts) (y := y) hE)
                  go_wp2_with fail
                  refine (asciiX_any s wz (by unfold maxLen; omega)).mono ?_
                  rintro e w3 ⟨b3, hb3, rfl, rfl⟩
                  have HB3 := Lib.hid hb3
                  clear hb3
                  cases b3
                  · go_wp2
                    go_ret2
                    exact ⟨HBZ.out, .inl ⟨_, rfl⟩⟩
                  · go_wp2_with fail
                    refine (inside_any s ⟨#[11]⟩ wz (by omega) (by decide)).mono ?_
                    rintro e w3 ⟨b4, hb4, rfl, rfl⟩
                    have HB4 := Lib.hid hb4
                    clear hb4
                    cases b4
                    · have HT := Lib.hid (show ∀ k (h : k < s.size), (s[k]'h).toNat < 128 ∧ (s[k]'h).toNat ≠ 11 from fun k h => ⟨HB3.out (by simp) k h, noVT (fun hh => by have := HB4.out.2 hh; cases this) k h⟩)
                      go_wp2_with fail
                      refine (bare_any s wz (by omega)).mono ?_
                      rintro e w3 ⟨r2, rfl, hr2, hrs2, rfl⟩
                      have HR2 := Lib.hid (show (⟨(bareL s.data.toList).toArray⟩ : ByteArray) = r2 from arr_eq (by simp [hr2]))
                      clear hr2
                      cases bb
                      · have hz1 : ¬ 9223372036854775807 < z.size + r2.size := by omega
                        have hz3 : (z ++ sep).size = z.size + sep.size := by rw [ByteArray.size_append]
                        have hz2 : ¬ 9223372036854775807 < (z ++ sep).size + r2.size := by omega
                        go_wp2
                        refine ⟨?rel, ?measure⟩
                        case rel => exact ⟨j + 1, z ++ r2, true, by omega, by have := HY.out; go_num, rfl, rfl, Lib.hid (SoFar.add HS.out (r := r2) (by rw [HPT.out, if_pos HWT.out, if_pos (by simp), if_neg HRN.out, HR2.out]) (by rw [SoFar.empty HS.out]; simp [ByteArray.data_append, Array.toList_append]) (by rw [HY.out, HND.out, HSS.out]; exact fun _ _ _ => HT.out)), HBZ.out⟩
                        case measure => have := HY.out; simp [intOf]; omega
                      · have hz1 : ¬ 9223372036854775807 < z.size + sep.size := by omega
                        have hz3 : (z ++ sep).size = z.size + sep.size := by rw [ByteArray.size_append]
                        have hz2 : ¬ 9223372036854775807 < (z ++ sep).size + r2.size := by omega
                        go_wp2
                        refine ⟨?rel, ?measure⟩
                        case rel => exact ⟨j + 1, z ++ sep ++ r2, true, by omega, by have := HY.out; go_num, rfl, rfl, Lib.hid (SoFar.add HS.out (r := r2) (by rw [HPT.out, if_pos HWT.out, if_pos (by simp), if_neg HRN.out, HR2.out]) (by simp [ByteArray.data_append, Array.toList_append]) (by rw [HY.out, HND.out, HSS.out]; exact fun _ _ _ => HT.out)), HBZ.out⟩
                        case measure => have := HY.out; simp [intOf]; omega
                    · go_wp2
                      go_ret2
                      exact ⟨HBZ.out, .inl ⟨_, rfl⟩⟩
              · have HRE := Lib.hid (show bareL s.data.toList = [] from by rw [← hr]; exact nil_of hRE)
                clear hr
                have HSK := Lib.hid (SoFar.skip HS.out (by rw [HPT.out, if_pos (by simp : True), if_pos HRE.out]; split <;> rfl) (by rw [HY.out, HND.out, HSS.out]; exact fun _ _ _ => spaces_ok HRE.out))
                go_wp2
                refine ⟨?rel, ?measure⟩
                case rel => exact ⟨j + 1, z, bb, by omega, by have := HY.out; go_num, rfl, rfl, HSK, HBZ.out⟩
                case measure => have := HY.out; simp [intOf]; omega
          · have h4' : (n.kind != 4) = true := by simpa using h4
            have HSK := Lib.hid (SoFar.skip HS.out (by unfold part; rw [HY.out, HND.out, if_neg (fun h => h4 h.1)]) (by rw [HY.out, HND.out]; exact fun h => absurd h h4))
            clear h4
            go_wp2
            refine ⟨?rel, ?measure⟩
            case rel => exact ⟨j + 1, z, bb, by omega, by have := HY.out; go_num, rfl, rfl, HSK, HBZ.out⟩
            case measure => have := HY.out; simp [intOf]; omega
        · have hyI : ¬ (y : Int) < (x : Int) + (sz ts x : Int) := by omega
          have hyd : decide ((y : Int) < (x : Int) + (sz ts x : Int)) = false := by simp; omega
          clear hy
          go_wp2
          go_quiet (fail)
          obtain ⟨wz, hwz⟩ : ∃ wz, wr.drewN nq = wz := ⟨_, rfl⟩
          have hbz : Below w.heap.size w wz := by rw [← hwz]; exact below_drewN HBEL.out nq
          rw [hwz]
          have HBZ := Lib.hid hbz
          clear hwz hbz
          obtain rfl : j = sz ts x := by omega
          have htk := take_snoc hlt
          rw [HX.out] at htk
          have hnx := HR.out.nest.fit x hxl
          have HN2 := Lib.hid (SoFar.next (y := l.getD (k + 1) 0) HS.out (by omega))
          rw [← htk] at HN2
          clear htk
          go_wp2
          refine ⟨?rel, ?measure⟩
          case rel => exact ⟨k + 1, z, bb, by omega, by go_num, rfl, rfl, HN2, HBZ.out⟩
          case measure => simp [intOf]; omega
    · obtain rfl : k = l.length := by omega
      have hs := HS.out
      rw [List.take_length] at hs
      have HS2 := Lib.hid hs
      clear hs HS
      go_wp2
      go_ret2
      refine ⟨HBEL.out, .inr ⟨z, rfl, ?_, HS2.out.tr⟩⟩
      have := HS2.out.out
      rwa [parts, List.append_nil] at this

end Go.Proofs.Ytikimffifkiinaa
