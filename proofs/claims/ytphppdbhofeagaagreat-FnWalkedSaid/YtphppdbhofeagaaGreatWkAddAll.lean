/- AddNodes, Union, Intersection of any selection; impl.bySet there. (Printed by gen_wkadd.py.) Slice, Eq, First, Last of any selection; impl.sliced, impl.part, impl.kin there. (Printed by gen_wkpart.py.) A step of the program, any pick. (Printed by gen_wkstep.py.) -/
import Derived.Test.YtphppdbhofeagaaGreatWkSelAll
import Derived.Test.YtphppdbhofeagaaGreatMember
import Derived.Test.YtphppdbhofeagaaGreatWalked
import Derived.Test.YtphppdbhofeagaaGreatWkPure
namespace Go.Proofs.YtphppdbhofeagaaGreat
open Go.RowKit
set_option linter.unusedVariables false
set_option linter.unusedSimpArgs false

/-- appendWithoutDuplicates of nodes that may be there, few. -/
def WithPostO (B : Nat) (o : Option Nat) (D V : List Nat) (w : World) (e : Ending) (w' : World) : Prop := ∃ v, e = .returned v ∧ Hid (OffPtrs w' B v (withAll D V)) ∧ Hid (Below B w w') ∧ Hid (KeepBut o w w') ∧ Hid (∀ j, v.ownBlock = some j → o = some j ∨ w.heap.size ≤ j)

set_option maxRecDepth 100000 in
set_option maxHeartbeats 2000000 in
theorem withAllO_any (B : Nat) (u v : Value) (D V : List Nat) (w : World) (hB : B ≤ w.heap.size) (hD : OffPtrs w B u D) (hV : PtrsOf w v V) (hVb : ∀ b, v.ownBlock = some b → u.ownBlock ≠ some b) (halD : ∀ q ∈ D, q < B ∧ Alive w q) (halV : ∀ q ∈ V, q < B ∧ Alive w q) (hn : D.length + V.length < 1000) :
    Calls Tryz.prog 86 #[u, v, .map none] w (WithPostO B u.ownBlock D V w) := by
  obtain ⟨a, cap, b, off, rfl, hm, ha, hc⟩ := ptrs_open hV
  obtain ⟨ua, uc, hu, _⟩ := hD.1.nil
  rw [List.length_map] at hu
  subst hu
  have HA := Lib.hid ha
  have HC := Lib.hid hc
  have HAL := Lib.hid (And.intro halD halV)
  have HD := Lib.hid hD
  have HVB := Lib.hid hVb
  have g0 : decide ((D.length : Int) + (V.length : Int) < 1000) = true := by simp; omega
  have g1 : decide (D.length + V.length < 1000) = true := by simp; omega
  have g2 : decide (((D.length + V.length : Nat) : Int) < 1000) = true := by simp; omega
  have hmap := map_nil_eql w
  obtain ⟨i0, hi, hz0, hz1, hz2⟩ := info_parts Tryz.infoPtr
  clear hV ha hc hVb halD halV hD
  go_enter Tryz.func86, Tryz.ntmps86
  go_wp2
  go_loopw [0, 25] (fun x i wr => ∃ (k : Nat) (E : List Nat), i = .int .i64 k ∧ k ≤ V.length ∧ E.length ≤ D.length + k ∧ Hid (withAll D (V.take k) = E) ∧ Hid (OffPtrs wr B x E) ∧ Hid (Below B w wr) ∧ Hid (KeepBut (Value.slice ua D.length uc).ownBlock w wr) ∧ Hid (∀ j, x.ownBlock = some j → w.heap.size ≤ j ∨ (Value.slice ua D.length uc).ownBlock = some j))
    (fun _ i _ => V.length - (intOf i).toNat)
  case atStart => exact ⟨0, D, by go_num, by omega, by omega, Lib.hid rfl, HD, Lib.hid (Below.refl _ _), Lib.hid ⟨Nat.le_refl _, fun _ _ _ => rfl⟩, Lib.hid fun j hj => .inr hj⟩
  case round =>
    obtain ⟨k, E, rfl, hk, hel, hdone, hown, hbel, hkeep, hob⟩ := hrel
    by_cases hlt : k < V.length
    · obtain rfl := HA.out (by omega)
      have hbB := HVB.out b rfl
      have ck : wr.cell? ⟨b, off + k, none⟩ = some (.pointer (some ⟨V.getD k 0, 0, none⟩)) := (World.cell?_of_block (hkeep.out.block b (World.block_lt_of_cell? _ _ (HC.out k hlt)) hbB)).trans (HC.out k hlt)
      have hmem := getD_mem' (d := 0) hlt
      have hal : ∀ q, q < B → Alive w q → Alive wr q := fun q h1 h2 => h2.low h1 hbel.out
      have hEq : ∀ q ∈ E, q < B ∧ Alive w q := fun q hq => by
        rw [← hdone.out] at hq
        rcases withAll_mem hq with h | h
        · exact HAL.out.1 q h
        · exact HAL.out.2 q (List.mem_of_mem_take h)
      have hin := isIn_any u0 E (V.getD k 0) wr hown.out.1 (fun i hi => by
        have h := hEq _ (getD_mem' (d := 0) hi)
        exact hal _ h.1 h.2) (hal _ (HAL.out.2 _ hmem).1 (HAL.out.2 _ hmem).2)
      have htk : withAll D (V.take (k + 1)) = withOne E (V.getD k 0) := by rw [take_snoc hlt, withAll_snoc, hdone.out]
      obtain ⟨x, hxx⟩ : ∃ x, V.getD k 0 = x := ⟨_, rfl⟩
      rw [hxx] at ck htk hin
      have hown' : OffPtrs wr B u0 E := hown.out
      have hkI : (k : Int) < (V.length : Int) := by omega
      have HIN := Lib.hid hin
      clear hxx hin hmem hal hEq
      by_cases hx : x ∈ E
      · have hnx : withAll D (V.take (k + 1)) = E := by rw [htk, withOne, if_pos hx]
        have HNX := Lib.hid hnx
        rw [decide_eq_true hx] at HIN
        clear htk hnx hown' hx hdone
        go_wp2_with fail
        refine HIN.out.mono ?_
        rintro e w1 ⟨rfl, rfl⟩
        go_wp2
        go_roundw
        case rel => exact ⟨k + 1, E, by go_num, by omega, by omega, HNX, hown, hbel, hkeep, hob⟩
        case measure => simp [intOf]; omega
      · have hnx : withAll D (V.take (k + 1)) = E ++ [x] := by rw [htk, withOne, if_neg hx]
        have HNX := Lib.hid hnx
        rw [decide_eq_false hx] at HIN
        clear htk hnx hx hdone
        go_wp2_with fail
        refine HIN.out.mono ?_
        rintro e w1 ⟨rfl, rfl⟩
        have hsw : w.heap.size ≤ w.heap.size := Nat.le_refl _
        have hBw : B ≤ wr.heap.size := by have := hbel.out.size; omega
        have hnews : ∀ j u, [Value.pointer (some ⟨x, 0, none⟩)][j]? = some u → (wr.alloc (.cells #[.pointer (some ⟨x, 0, none⟩)] 75)).cell? ((⟨wr.heap.size, 0, none⟩ : Addr).add j) = some u := by
          intro j u hj
          match j, hj with
          | 0, hj => simp at hj; subst hj; simp [Addr.add]
        go_wp2_with (at_builtin; refine wpList_append_off rfl _ _ 53 rfl B i0 Tryz.underlying53 hi hz0 hz1 hz2 _ E x rfl (hown'.below ((Below.refl _ _).alloc (Nat.le_refl _) _)) ⟨wr.heap.size, 0, none⟩ 1 rfl hnews (by omega) (by simp; omega) ?_)
        intro v2 w1 hown2 hk2 hb2 hob2
        have hsa : wr.heap.size ≤ (wr.alloc (.cells #[.pointer (some ⟨x, 0, none⟩)] 75)).heap.size := by simp
        have hkeep2 : KeepBut (Value.slice ua D.length uc).ownBlock w w1 := KeepBut.trans (KeepBut.below hkeep.out ((Below.refl wr.heap.size wr).alloc (Nat.le_refl _) (.cells #[.pointer (some ⟨x, 0, none⟩)] 75))) hk2 (fun j hj => by
          rcases hob.out j hj with h | h
          · exact .inr h
          · exact .inl h)
        have hob3 : ∀ j, v2.ownBlock = some j → w.heap.size ≤ j ∨ (Value.slice ua D.length uc).ownBlock = some j := fun j hj => by
          rcases hob2 j hj with h | h
          · exact hob.out j h
          · have := hkeep.out.size; left; omega
        have H3 := Lib.hid (And.intro hkeep2 hob3)
        have hbel2 : Below B w w1 := (hbel.out.alloc hBw _).trans hb2
        have H1 := Lib.hid hown2
        have H2 := Lib.hid hbel2
        clear hown2 hk2 hb2 hob2 hkeep2 hob3 hbel2 hown' ck HIN
        go_wp2
        go_roundw
        case rel => exact ⟨k + 1, E ++ [x], by go_num, by omega, by simp; omega, HNX, H1, H2, Lib.hid H3.out.1, Lib.hid H3.out.2⟩
        case measure => simp [intOf]; omega
    · obtain rfl : k = V.length := by omega
      have hd := hdone.out
      rw [List.take_length] at hd
      have HO : Hid (OffPtrs wr B u0 (withAll D V)) := Lib.hid (by rw [hd]; exact hown.out)
      clear hd hlt hdone hown
      go_wp2
      go_ret
      exact ⟨_, rfl, HO, hbel, hkeep, Lib.hid fun j hj => by
        rcases hob.out j hj with h | h
        · exact .inr h
        · exact .inl h⟩

set_option maxRecDepth 100000 in
set_option maxHeartbeats 1000000 in
theorem addNodesO (B s1 : Nat) (u v : Value) (D V : List Nat) (w : World) (hs1 : SelO w s1 u D B) (hV : PtrsOf w v V) (hVb : ∀ b, v.ownBlock = some b → u.ownBlock ≠ some b) (halD : ∀ q ∈ D, q < B ∧ Alive w q) (halV : ∀ q ∈ V, q < B ∧ Alive w q) (hn : D.length + V.length < 1000) :
    Calls Tryz.prog 51 #[.pointer (some ⟨s1, 0, none⟩), v] w (NextPost B u.ownBlock (withAll D V) w) := by
  have hBs : B ≤ w.heap.size := Nat.le_trans hs1.base (Nat.le_of_lt (World.block_lt_of_cell? _ _ hs1.nodes))
  have hwa := withAllO_any B u v D V w hBs hs1.off hV hVb halD halV hn
  obtain ⟨L, hL⟩ : ∃ L, withAll D V = L := ⟨_, rfl⟩
  unfold WithPostO at hwa
  rw [hL] at hwa ⊢
  obtain ⟨d, hd⟩ := hs1.doc
  have c0 := hs1.nodes
  have HWA := Lib.hid hwa
  have HD := Lib.hid (And.intro hd hs1.ne)
  have HB := Lib.hid hBs
  clear hwa hs1 hV hVb halD halV hL hd
  go_enter Tryz.func51, Tryz.ntmps51
  go_wp2_with fail
  refine HWA.out.mono ?_
  rintro e w1 ⟨v', rfl, ho, hb, hk, hj⟩
  have c1' := hk.out.cell HD.out.1 HD.out.2
  have c0' := hk.out.cell c0 HD.out.2
  obtain ⟨a', cap', hv, _⟩ := ho.out.1.nil
  rw [List.length_map] at hv
  subst hv
  have HS := Lib.hid (show B ≤ w1.heap.size by have := hk.out.size; have := HB.out; omega)
  clear HWA hBs
  go_wp2
  go_ret
  refine ⟨w1.heap.size, .slice a' L.length cap', rfl, Lib.hid ⟨?_, ⟨d, ?_⟩, ?_, HS.out, fun e => by have := (ho.out.lt _ e).2; omega⟩, Lib.hid ?_, Lib.hid ?_, Lib.hid ⟨hj.out, hk.out.size⟩⟩
  · exact cell_alloc_new' _ _ _ (by simp) rfl
  · exact cell_alloc_new' _ _ _ (by simp) rfl
  · exact ho.out.below ((Below.refl _ _).alloc (Nat.le_refl _) _)
  · exact hb.out.alloc HS.out _
  · exact hk.out.below ((Below.refl _ _).alloc (Nat.le_refl _) _)

theorem NextPost.after {B : Nat} {o : Option Nat} {M : List Nat} {w0 w : World} {e : Ending} {w' : World} (h : NextPost B o M w0 e w') (hb : Below w.heap.size w w0) (hB : B ≤ w.heap.size) : NextPost B o M w e w' := by
  obtain ⟨s', v', he, hs, hb', hk, hj⟩ := h
  refine ⟨s', v', he, hs, Lib.hid ((hb.mono hB).trans hb'.out), Lib.hid (hk.out.after hb), Lib.hid ⟨fun j h => ?_, by have := hb.size; have := hj.out.2; omega⟩⟩
  rcases hj.out.1 j h with h1 | h1
  · exact .inl h1
  · have := hb.size; exact .inr (by omega)

/-- A call that hands on what another one returned. -/
theorem SelO.below {w w' : World} {s B : Nat} {v : Value} {l : List Nat} (h : SelO w s v l B) (hb : Below w.heap.size w w') : SelO w' s v l B := by
  obtain ⟨d, hd⟩ := h.doc
  exact ⟨cell_below hb h.nodes, ⟨d, cell_below hb hd⟩, h.off.below hb, h.base, h.ne⟩

/-- The places whose numbers a test takes. -/
def kept (P : Nat → Bool) (l : List Nat) : Nat → List Nat
  | 0 => []
  | k + 1 => if P k then kept P l k ++ [l.getD k 0] else kept P l k

theorem kept_map (P : Nat → Bool) (l : List Nat) (nb : Nat → Nat) : ∀ k, k ≤ l.length → kept P (l.map nb) k = (kept P l k).map nb := by
  intro k
  induction k with
  | zero => intro _; rfl
  | succ k ih =>
    intro hk
    simp only [kept]
    have : (l.map nb).getD k 0 = nb (l.getD k 0) := by simp [List.getD, show k < l.length by omega]
    rw [this, ih (by omega)]
    split <;> simp

theorem kept_length (P : Nat → Bool) (l : List Nat) : ∀ k, (kept P l k).length ≤ k := by
  intro k
  induction k with
  | zero => exact Nat.le_refl _
  | succ k ih =>
    simp only [kept]
    split
    · rw [List.length_append]; simp; omega
    · omega

theorem kept_mem (P : Nat → Bool) (l : List Nat) : ∀ k, k ≤ l.length → ∀ x ∈ kept P l k, x ∈ l := by
  intro k
  induction k with
  | zero => intro _ x hx; simp [kept] at hx
  | succ k ih =>
    intro hk x hx
    simp only [kept] at hx
    split at hx
    · simp at hx
      rcases hx with hx | rfl
      · exact ih (by omega) x hx
      · rw [← List.getD_eq_getElem?_getD]; exact getD_mem' (by omega)
    · exact ih (by omega) x hx

/-- Whether the number at a place stands among some others. -/
def amid (l l2 : List Nat) (k : Nat) : Bool := decide (l.getD k 0 ∈ l2)

set_option maxRecDepth 100000 in
set_option maxHeartbeats 1000000 in
theorem winnowR_any (s : Nat) (v v2 : Value) (l l2 : List Nat) (w : World) (hs : SelR w s v l) (h2 : PtrsOf w v2 l2) (a1 : ∀ i, i < l.length → Alive w (l.getD i 0)) (a2 : ∀ i, i < l2.length → Alive w (l2.getD i 0)) (hn : l.length ≤ 200) (hn2 : l2.length ≤ 200) :
    Calls Tryz.prog 80 #[.pointer (some ⟨s, 0, none⟩), v2, .bool true] w (OwnPtrsPost (kept (amid l l2) l l.length) w) := by
  have hc0 := hs.nodes
  obtain ⟨a, cap, b, off, rfl, hm, ha, hc⟩ := ptrs_open hs.ptrs
  obtain ⟨aa, cap2, hv2, hm2⟩ := h2.nil
  rw [List.length_map] at hv2 hm2
  have hcall := fun (k : Nat) (hk : k < l.length) (w' : World) (hb : Below w.heap.size w w') => isIn_any v2 l2 (l.getD k 0) w' (h2.below hb) (fun i hi => (a2 i hi).below hb) ((a1 k hk).below hb)
  subst hv2
  have HA := Lib.hid ha
  have HC := Lib.hid hc
  have HCALL := Lib.hid hcall
  clear hs ha hc hcall h2 a1 a2
  have g0 : decide ((l2.length : Int) + (l.length : Int) < 1000) = true := decide_eq_true (by omega)
  obtain ⟨i0, hi, hz0, hz1, hz2⟩ := info_parts Tryz.infoPtr
  go_enter Tryz.func80, Tryz.ntmps80
  go_wp2
  go_loopw [7, 30] (fun x i wr => ∃ (k : Nat) (done : List Nat), i = .int .i64 k ∧ k ≤ l.length ∧ done.length ≤ k ∧ kept (amid l l2) l k = done ∧ OwnPtrs wr w.heap.size x done ∧ Below w.heap.size w wr)
    (fun _ i _ => l.length - (intOf i).toNat)
  case atStart => exact ⟨0, [], by go_num, by omega, by simp, rfl, World.ownsRow_nil _ _ _ _, Below.refl _ _⟩
  case round =>
    obtain ⟨k, done, rfl, hk, hdl, hdone, hown, hbel⟩ := hrel
    have HDONE := Lib.hid hdone
    have HOWN := Lib.hid hown
    have HBEL := Lib.hid hbel
    clear hdone hown hbel
    by_cases hlt : k < l.length
    · obtain rfl := HA.out (by omega)
      have ck := cell_below HBEL.out (HC.out k hlt)
      have hcall := HCALL.out k hlt wr HBEL.out
      have hkp : kept (amid l l2) l (k + 1) = if amid l l2 k then done ++ [l.getD k 0] else done := by simp only [kept, HDONE.out]
      have ham : amid l l2 k = decide (l.getD k 0 ∈ l2) := rfl
      rw [← ham] at hcall
      obtain ⟨q, hq⟩ : ∃ q, amid l l2 k = q := ⟨_, rfl⟩
      obtain ⟨x, hxx⟩ : ∃ x, l.getD k 0 = x := ⟨_, rfl⟩
      rw [hxx] at ck hcall hkp
      rw [hq] at hcall hkp
      have HCL := Lib.hid hcall
      have HKP := Lib.hid hkp
      clear hxx hcall hkp ham hq
      go_wp2_with fail
      refine HCL.out.mono ?_
      rintro e w2 ⟨rfl, rfl⟩
      have hown2 : wr.ownsRow w.heap.size 75 1 u7 done.length (done.map ptrV) := HOWN.out
      cases q
      · clear hown2
        go_wp2
        go_roundw
        case rel => exact ⟨k + 1, done, by go_num, by omega, by omega, HKP.out, HOWN.out, HBEL.out⟩
        case measure => simp [intOf]; omega
      · go_wp2_with (at_builtin; refine wpList_append_own _ rfl _ _ 53 rfl w.heap.size 75 i0 (.pointer none) 1 8 Tryz.underlying53 hi hz0 hz1 hz2 rfl (by decide) _ _ _ rfl (hown2.alloc _) ⟨wr.heap.size, 0, none⟩ 1 1 [.pointer (some ⟨x, 0, none⟩)] rfl rfl ?c1 ?c2 ?c3 ?c4 ?c5 ?_)
        case c1 =>
          intro j u hj
          match j, hj with
          | 0, hj => simp at hj; subst hj; simp [Addr.add]
        case c2 => intro u hu; simp at hu; subst hu; rfl
        case c3 => unfold maxLen; omega
        case c4 => omega
        case c5 => have := HBEL.out.size; simp; omega
        intro v' w3 hown3 hgrow _
        have hbel3 : Below w.heap.size w w3 := (HBEL.out.alloc HBEL.out.size _).grown hgrow (by have := HBEL.out.size; simp; omega) (fun q hq => (World.ownsRow.lt hown2 q hq).1)
        have hsn := ownPtrs_snoc (k := x) hown3
        have H3 := Lib.hid (And.intro hsn hbel3)
        clear hown3 hgrow hbel3 hsn hown2
        go_wp2
        go_roundw
        case rel => exact ⟨k + 1, done ++ [x], by go_num, by omega, by simp; omega, HKP.out, H3.out.1, H3.out.2⟩
        case measure => simp [intOf]; omega
    · obtain rfl : k = l.length := by omega
      have HO : Hid (OwnPtrs wr w.heap.size u7 (kept (amid l l2) l l.length)) := by rw [HDONE.out]; exact HOWN
      clear hlt HDONE
      go_wp2
      go_ret
      exact ⟨_, rfl, HO, HBEL⟩

set_option maxRecDepth 100000 in
set_option maxHeartbeats 1000000 in
theorem addSelO (s1 s2 : Nat) (v : Value) (B : Nat) (o : Option Nat) (M : List Nat) (w : World) (n0 : w.cell? ⟨s2, 0, none⟩ = some v) (hadd : Calls Tryz.prog 51 #[.pointer (some ⟨s1, 0, none⟩), v] w (NextPost B o M w)) :
    Calls Tryz.prog 87 #[.pointer (some ⟨s1, 0, none⟩), .pointer (some ⟨s2, 0, none⟩)] w (NextPost B o M w) := by
  have HADD := Lib.hid hadd
  clear hadd
  go_enter Tryz.func87, Tryz.ntmps87
  go_wp2_with fail
  refine HADD.out.mono ?_
  rintro e w1 ⟨s', v', rfl, h1, h2, h3, h4⟩
  go_wp2
  go_ret
  exact ⟨s', v', rfl, h1, h2, h3, h4⟩

set_option maxRecDepth 100000 in
set_option maxHeartbeats 1000000 in
theorem unionO (s1 s2 : Nat) (B : Nat) (o : Option Nat) (M : List Nat) (w : World) (hadd : Calls Tryz.prog 87 #[.pointer (some ⟨s1, 0, none⟩), .pointer (some ⟨s2, 0, none⟩)] w (NextPost B o M w)) :
    Calls Tryz.prog 52 #[.pointer (some ⟨s1, 0, none⟩), .pointer (some ⟨s2, 0, none⟩)] w (NextPost B o M w) := by
  have HADD := Lib.hid hadd
  clear hadd
  go_enter Tryz.func52, Tryz.ntmps52
  go_wp2_with fail
  refine HADD.out.mono ?_
  rintro e w1 ⟨s', v', rfl, h1, h2, h3, h4⟩
  go_wp2
  go_ret
  exact ⟨s', v', rfl, h1, h2, h3, h4⟩

/-- What is among other nodes. -/
theorem kept_filter (l wl : List Nat) : ∀ k, k ≤ l.length → kept (amid l wl) l k = (l.take k).filter (fun x => decide (x ∈ wl)) := by
  intro k
  induction k with
  | zero => intro _; simp [kept]
  | succ k ih =>
    intro hk
    have hlt : k < l.length := by omega
    simp only [kept]
    rw [ih (by omega), take_snoc hlt, List.filter_append]
    unfold amid
    obtain ⟨y, hy⟩ : ∃ y, l.getD k 0 = y := ⟨_, rfl⟩
    rw [hy]
    by_cases h : y ∈ wl
    · simp [h, List.filter]
    · simp [h, List.filter]

set_option maxRecDepth 100000 in
set_option maxHeartbeats 1000000 in
theorem filterSelO (B s1 s2 : Nat) (u v : Value) (L V : List Nat) (w : World) (hs1 : SelO w s1 u L B) (n2 : w.cell? ⟨s2, 0, none⟩ = some v) (h2 : PtrsOf w v V) (a1 : ∀ i, i < L.length → Alive w (L.getD i 0)) (a2 : ∀ i, i < V.length → Alive w (V.getD i 0)) (hn : L.length ≤ 200) (hn2 : V.length ≤ 200) :
    Calls Tryz.prog 88 #[.pointer (some ⟨s1, 0, none⟩), .pointer (some ⟨s2, 0, none⟩)] w (NextPost B u.ownBlock (L.filter fun x => decide (x ∈ V)) w) := by
  have hBs : B ≤ w.heap.size := Nat.le_trans hs1.base (Nat.le_of_lt (World.block_lt_of_cell? _ _ hs1.nodes))
  have hw := winnowR_any s1 u v L V w hs1.r h2 a1 a2 hn hn2
  rw [kept_filter L V L.length (Nat.le_refl _), List.take_length] at hw
  obtain ⟨R, hR⟩ : ∃ R, L.filter (fun x => decide (x ∈ V)) = R := ⟨_, rfl⟩
  rw [hR] at hw ⊢
  obtain ⟨d, hd⟩ := hs1.doc
  have c0 := hs1.nodes
  have HW := Lib.hid hw
  have HD := Lib.hid hd
  have HB := Lib.hid hBs
  clear hw hs1 h2 a1 a2 hR hd hBs
  go_enter Tryz.func88, Tryz.ntmps88
  go_wp2_with fail
  refine HW.out.mono ?_
  rintro e w1 ⟨v', rfl, ho, hb⟩
  have c1' := cell_below hb.out HD.out
  have c0' := cell_below hb.out c0
  obtain ⟨a', cap', hv, _⟩ := ho.out.ptrs.nil
  rw [List.length_map] at hv
  subst hv
  have HS := Lib.hid (show B ≤ w1.heap.size by have := hb.out.size; have := HB.out; omega)
  have hoff := OwnPtrs.off ho.out
  have HOFF : Hid (OffPtrs w1 B (.slice a' R.length cap') R) := Lib.hid ⟨hoff.1, by
    rcases hoff.2 with h | ⟨g, off, n, c, e, h3, h4⟩
    · exact .inl h
    · have := HB.out; exact .inr ⟨g, off, n, c, e, by omega, h4⟩⟩
  clear HW hoff
  go_wp2
  go_ret
  refine ⟨w1.heap.size, .slice a' R.length cap', rfl, Lib.hid ⟨?_, ⟨d, ?_⟩, ?_, HS.out, fun e => by have := (HOFF.out.lt _ e).2; omega⟩, Lib.hid ?_, Lib.hid ?_, Lib.hid ⟨fun j hj => .inr (World.ownsRow.lt ho.out j hj).1, hb.out.size⟩⟩
  · exact cell_alloc_new' _ _ _ (by simp) rfl
  · exact cell_alloc_new' _ _ _ (by simp) rfl
  · exact HOFF.out.below ((Below.refl _ _).alloc (Nat.le_refl _) _)
  · exact (hb.out.mono HB.out).alloc HS.out _
  · exact (Below.keepBut hb.out _).below ((Below.refl _ _).alloc (Nat.le_refl _) _)

set_option maxRecDepth 100000 in
set_option maxHeartbeats 1000000 in
theorem intersectO (s1 s2 : Nat) (B : Nat) (o : Option Nat) (M : List Nat) (w : World) (hadd : Calls Tryz.prog 88 #[.pointer (some ⟨s1, 0, none⟩), .pointer (some ⟨s2, 0, none⟩)] w (NextPost B o M w)) :
    Calls Tryz.prog 54 #[.pointer (some ⟨s1, 0, none⟩), .pointer (some ⟨s2, 0, none⟩)] w (NextPost B o M w) := by
  have HADD := Lib.hid hadd
  clear hadd
  go_enter Tryz.func54, Tryz.ntmps54
  go_wp2_with fail
  refine HADD.out.mono ?_
  rintro e w1 ⟨s', v', rfl, h1, h2, h3, h4⟩
  go_wp2
  go_ret
  exact ⟨s', v', rfl, h1, h2, h3, h4⟩

/-- impl.set: a selection of some nodes. -/
def SetPost (v : Value) (w : World) (e : Ending) (w' : World) : Prop := ∃ s, e = .returned (.pointer (some ⟨s, 0, none⟩)) ∧ w'.cell? ⟨s, 0, none⟩ = some v ∧ Hid (Below w.heap.size w w')

set_option maxRecDepth 100000 in
set_option maxHeartbeats 1000000 in
theorem set_any (s : Nat) (a : Option Addr) (n c : Nat) (w : World) : Calls Tryz.prog 53 #[.pointer (some ⟨s, 0, none⟩), .slice a n c] w (SetPost (.slice a n c) w) := by
  go_enter Tryz.func53, Tryz.ntmps53
  go_wp2
  go_ret
  exact ⟨w.heap.size, rfl, cell_alloc_new' _ _ _ rfl rfl, Lib.hid ((Below.refl _ _).alloc (Nat.le_refl _) _)⟩

set_option maxRecDepth 100000 in
set_option maxHeartbeats 1000000 in
theorem wbySet_37 (tx : ByteArray) (xa : Option Addr) (xn xc : Nat) (pa pb : Int) (B s : Nat) (u : Value) (L V : List Nat) (w : World) (hs : SelO w s u L B) (a : Option Addr) (c : Nat) (hV : PtrsOf w (.slice a V.length c) V) (hVb : ∀ b, (Value.slice a V.length c).ownBlock = some b → u.ownBlock ≠ some b) (halD : ∀ q ∈ L, q < B ∧ Alive w q) (halV : ∀ q ∈ V, q < B ∧ Alive w q) (hn : L.length ≤ 200) (hn2 : V.length ≤ 200) :
    Calls Tryz.prog 27 #[.pointer (some ⟨s, 0, none⟩), .agg #[.int .i64 37, .string tx, .slice xa xn xc, .int .i64 pa, .int .i64 pb], .slice a V.length c] w (NextPost B u.ownBlock (withAll L V) w) := by
  have hBs : B ≤ w.heap.size := Nat.le_trans hs.base (Nat.le_of_lt (World.block_lt_of_cell? _ _ hs.nodes))
  have hb0 : Below w.heap.size w (w.alloc (.cells #[.int .i64 37, .string tx, .slice xa xn xc, .int .i64 pa, .int .i64 pb] 27)) := (Below.refl _ _).alloc (Nat.le_refl _) _
  have k0 : (w.alloc (.cells #[.int .i64 37, .string tx, .slice xa xn xc, .int .i64 pa, .int .i64 pb] 27)).cell? ⟨w.heap.size, 0, none⟩ = some (.int .i64 37) := cell_alloc_new' _ _ _ rfl rfl
  obtain ⟨w0, hw0⟩ : ∃ w0, w.alloc (.cells #[.int .i64 37, .string tx, .slice xa xn xc, .int .i64 pa, .int .i64 pb] 27) = w0 := ⟨_, rfl⟩
  rw [hw0] at hb0 k0
  have hst := addNodesO B s u (.slice a V.length c) L V w0 (hs.below hb0) (hV.below hb0) hVb (fun q hq => ⟨(halD q hq).1, (halD q hq).2.below hb0⟩) (fun q hq => ⟨(halV q hq).1, (halV q hq).2.below hb0⟩) (by omega)
  obtain ⟨R, hR⟩ : ∃ R, (withAll L V) = R := ⟨_, rfl⟩
  obtain ⟨o, ho⟩ : ∃ o, u.ownBlock = o := ⟨_, rfl⟩
  simp only [hR, ho] at hst
  rw [hR, ho]
  have HST := Lib.hid hst
  have HB := Lib.hid (And.intro hb0 hBs)
  clear hst hs hV hVb halD halV hR ho hb0 hBs
  go_enter Tryz.func27, Tryz.ntmps27
  go_wp2_with fail
  refine HST.out.mono ?_
  rintro e w2 ⟨s', v', rfl, h1, h2, h3, h4⟩
  have hfin := NextPost.after (e := .returned (.pointer (some ⟨s', 0, none⟩))) ⟨s', v', rfl, h1, h2, h3, h4⟩ HB.out.1 HB.out.2
  have HF := Lib.hid hfin
  clear hfin h1 h2 h3 h4 HST
  go_wp2
  go_ret
  exact HF.out

set_option maxRecDepth 100000 in
set_option maxHeartbeats 1000000 in
theorem wbySet_38 (tx : ByteArray) (xa : Option Addr) (xn xc : Nat) (pa pb : Int) (B s : Nat) (u : Value) (L V : List Nat) (w : World) (hs : SelO w s u L B) (a : Option Addr) (c : Nat) (hV : PtrsOf w (.slice a V.length c) V) (hVb : ∀ b, (Value.slice a V.length c).ownBlock = some b → u.ownBlock ≠ some b) (halD : ∀ q ∈ L, q < B ∧ Alive w q) (halV : ∀ q ∈ V, q < B ∧ Alive w q) (hn : L.length ≤ 200) (hn2 : V.length ≤ 200) :
    Calls Tryz.prog 27 #[.pointer (some ⟨s, 0, none⟩), .agg #[.int .i64 38, .string tx, .slice xa xn xc, .int .i64 pa, .int .i64 pb], .slice a V.length c] w (NextPost B u.ownBlock (withAll L V) w) := by
  have hBs : B ≤ w.heap.size := Nat.le_trans hs.base (Nat.le_of_lt (World.block_lt_of_cell? _ _ hs.nodes))
  have hb0 : Below w.heap.size w (w.alloc (.cells #[.int .i64 38, .string tx, .slice xa xn xc, .int .i64 pa, .int .i64 pb] 27)) := (Below.refl _ _).alloc (Nat.le_refl _) _
  have k0 : (w.alloc (.cells #[.int .i64 38, .string tx, .slice xa xn xc, .int .i64 pa, .int .i64 pb] 27)).cell? ⟨w.heap.size, 0, none⟩ = some (.int .i64 38) := cell_alloc_new' _ _ _ rfl rfl
  obtain ⟨w0, hw0⟩ : ∃ w0, w.alloc (.cells #[.int .i64 38, .string tx, .slice xa xn xc, .int .i64 pa, .int .i64 pb] 27) = w0 := ⟨_, rfl⟩
  rw [hw0] at hb0 k0
  have hst := fun (w1 : World) (hb1 : Below w0.heap.size w0 w1) (s2 : Nat) (c2 : w1.cell? ⟨s2, 0, none⟩ = some (.slice a V.length c)) =>
    have hb : Below w.heap.size w w1 := hb0.trans (hb1.mono hb0.size)
    unionO s s2 B _ _ w1 (addSelO s s2 (.slice a V.length c) B _ _ w1 c2 (addNodesO B s u (.slice a V.length c) L V w1 (hs.below hb) (hV.below hb) hVb (fun q hq => ⟨(halD q hq).1, (halD q hq).2.below hb⟩) (fun q hq => ⟨(halV q hq).1, (halV q hq).2.below hb⟩) (by omega)))
  obtain ⟨R, hR⟩ : ∃ R, (withAll L V) = R := ⟨_, rfl⟩
  obtain ⟨o, ho⟩ : ∃ o, u.ownBlock = o := ⟨_, rfl⟩
  simp only [hR, ho] at hst
  rw [hR, ho]
  have HST := Lib.hid hst
  have HB := Lib.hid (And.intro hb0 hBs)
  clear hst hs hV hVb halD halV hR ho hb0 hBs
  go_enter Tryz.func27, Tryz.ntmps27
  go_wp2_with fail
  refine (set_any s a V.length c w0).mono ?_
  rintro e w1 ⟨s2, rfl, c2, hb1⟩
  have HB1 := Lib.hid (HB.out.1.trans (hb1.out.mono HB.out.1.size))
  have HS1 := Lib.hid (HST.out w1 hb1.out s2 c2)
  clear hb1 c2
  go_wp2_with fail
  refine HS1.out.mono ?_
  rintro e w2 ⟨s', v', rfl, h1, h2, h3, h4⟩
  have hfin := NextPost.after (e := .returned (.pointer (some ⟨s', 0, none⟩))) ⟨s', v', rfl, h1, h2, h3, h4⟩ HB1.out HB.out.2
  have HF := Lib.hid hfin
  clear hfin h1 h2 h3 h4 HST
  go_wp2
  go_ret
  exact HF.out

set_option maxRecDepth 100000 in
set_option maxHeartbeats 1000000 in
theorem wbySet_39 (tx : ByteArray) (xa : Option Addr) (xn xc : Nat) (pa pb : Int) (B s : Nat) (u : Value) (L V : List Nat) (w : World) (hs : SelO w s u L B) (a : Option Addr) (c : Nat) (hV : PtrsOf w (.slice a V.length c) V) (hVb : ∀ b, (Value.slice a V.length c).ownBlock = some b → u.ownBlock ≠ some b) (halD : ∀ q ∈ L, q < B ∧ Alive w q) (halV : ∀ q ∈ V, q < B ∧ Alive w q) (hn : L.length ≤ 200) (hn2 : V.length ≤ 200) :
    Calls Tryz.prog 27 #[.pointer (some ⟨s, 0, none⟩), .agg #[.int .i64 39, .string tx, .slice xa xn xc, .int .i64 pa, .int .i64 pb], .slice a V.length c] w (NextPost B u.ownBlock (L.filter fun x => decide (x ∈ V)) w) := by
  have hBs : B ≤ w.heap.size := Nat.le_trans hs.base (Nat.le_of_lt (World.block_lt_of_cell? _ _ hs.nodes))
  have hb0 : Below w.heap.size w (w.alloc (.cells #[.int .i64 39, .string tx, .slice xa xn xc, .int .i64 pa, .int .i64 pb] 27)) := (Below.refl _ _).alloc (Nat.le_refl _) _
  have k0 : (w.alloc (.cells #[.int .i64 39, .string tx, .slice xa xn xc, .int .i64 pa, .int .i64 pb] 27)).cell? ⟨w.heap.size, 0, none⟩ = some (.int .i64 39) := cell_alloc_new' _ _ _ rfl rfl
  obtain ⟨w0, hw0⟩ : ∃ w0, w.alloc (.cells #[.int .i64 39, .string tx, .slice xa xn xc, .int .i64 pa, .int .i64 pb] 27) = w0 := ⟨_, rfl⟩
  rw [hw0] at hb0 k0
  have hst := fun (w1 : World) (hb1 : Below w0.heap.size w0 w1) (s2 : Nat) (c2 : w1.cell? ⟨s2, 0, none⟩ = some (.slice a V.length c)) =>
    have hb : Below w.heap.size w w1 := hb0.trans (hb1.mono hb0.size)
    intersectO s s2 B _ _ w1 (filterSelO B s s2 u (.slice a V.length c) L V w1 (hs.below hb) c2 (hV.below hb) (fun i hi => (halD _ (getD_mem' (d := 0) hi)).2.below hb) (fun i hi => (halV _ (getD_mem' (d := 0) hi)).2.below hb) hn hn2)
  obtain ⟨R, hR⟩ : ∃ R, (L.filter fun x => decide (x ∈ V)) = R := ⟨_, rfl⟩
  obtain ⟨o, ho⟩ : ∃ o, u.ownBlock = o := ⟨_, rfl⟩
  simp only [hR, ho] at hst
  rw [hR, ho]
  have HST := Lib.hid hst
  have HB := Lib.hid (And.intro hb0 hBs)
  clear hst hs hV hVb halD halV hR ho hb0 hBs
  go_enter Tryz.func27, Tryz.ntmps27
  go_wp2_with fail
  refine (set_any s a V.length c w0).mono ?_
  rintro e w1 ⟨s2, rfl, c2, hb1⟩
  have HB1 := Lib.hid (HB.out.1.trans (hb1.out.mono HB.out.1.size))
  have HS1 := Lib.hid (HST.out w1 hb1.out s2 c2)
  clear hb1 c2
  go_wp2_with fail
  refine HS1.out.mono ?_
  rintro e w2 ⟨s', v', rfl, h1, h2, h3, h4⟩
  have hfin := NextPost.after (e := .returned (.pointer (some ⟨s', 0, none⟩))) ⟨s', v', rfl, h1, h2, h3, h4⟩ HB1.out HB.out.2
  have HF := Lib.hid hfin
  clear hfin h1 h2 h3 h4 HST
  go_wp2
  go_ret
  exact HF.out

end Go.Proofs.YtphppdbhofeagaaGreat

namespace Go.Proofs.YtphppdbhofeagaaGreat
open Go.RowKit
set_option linter.unusedVariables false
set_option linter.unusedSimpArgs false

theorem offPtrs_cut {w : World} {B g off c : Nat} {L : List Nat} (h : OffPtrs w B (.slice (some ⟨g, off, none⟩) L.length c) L) (f t : Nat) (hft : f ≤ t) (ht : t ≤ L.length) {off' k c' : Nat} (ho : off' = off + f ∨ c' = 0) (hk : k = t - f) (hc : c' = c - f) :
    OffPtrs w B (.slice (some ⟨g, off', none⟩) k c') (cutL L (f, t)) := by
  obtain ⟨⟨a0, c0, he, h2, h3, h4, h5, h6⟩, hor⟩ := h
  simp at he
  obtain ⟨rfl, rfl⟩ := he
  have hcl : (cutL L (f, t)).length = t - f := by
    unfold cutL
    simp only [List.length_take, List.length_drop]
    omega
  rw [List.length_map] at h2
  refine ⟨⟨some ⟨g, off', none⟩, c', by rw [List.length_map, hcl, hk], by rw [List.length_map, hcl]; omega, by omega, by simp, by rw [List.length_map] at h5 ⊢; omega, fun h0 => ?_⟩, .inr ⟨g, off', k, c', rfl, ?_⟩⟩
  · rw [List.length_map, hcl] at h0 ⊢
    obtain ⟨b1, o1, e1, hcell⟩ := h6 (by rw [List.length_map]; omega)
    simp at e1
    obtain ⟨rfl, rfl⟩ := e1
    refine ⟨g, off', rfl, fun i hi => ?_⟩
    have hcl2 := hcell (f + i) (by rw [List.length_map]; omega)
    obtain rfl : off' = off + f := by omega
    rw [Nat.add_assoc, hcl2]
    unfold cutL
    simp [List.getD, List.getElem?_take, List.getElem?_drop, hi]
  · rcases hor with h | ⟨g1, o1, n1, c1, e1, hb, hg, hcell⟩
    · simp at h
    · simp at e1
      obtain ⟨⟨rfl, rfl⟩, _, rfl⟩ := e1
      refine ⟨hb, hg, fun i hi => ?_⟩
      obtain rfl : off' = off + f := by omega
      rw [Nat.add_assoc]
      exact hcell (f + i) (by omega)

theorem cut_next {w w' : World} {s s' B g off c d : Nat} {L : List Nat} (hs : SelO w s (.slice (some ⟨g, off, none⟩) L.length c) L B) (f t : Nat) (hft : f ≤ t) (ht : t ≤ L.length) {off' k c' : Nat} (ho : off' = off + f ∨ c' = 0) (hk : k = t - f) (hc : c' = c - f)
    (h0 : w'.cell? ⟨s', 0, none⟩ = some (.slice (some ⟨g, off', none⟩) k c')) (h1 : w'.cell? ⟨s', 1, none⟩ = some (.pointer (some ⟨d, 0, none⟩))) (hbel : Below w.heap.size w w') (hs' : w.heap.size ≤ s') :
    NextPost B (some g) (cutL L (f, t)) w (.returned (.pointer (some ⟨s', 0, none⟩))) w' := by
  have hBs : B ≤ w.heap.size := Nat.le_trans hs.base (Nat.le_of_lt (World.block_lt_of_cell? _ _ hs.nodes))
  have hcut := offPtrs_cut hs.off f t hft ht ho hk hc
  have hlt := (hcut.lt g rfl).2
  exact ⟨s', _, rfl, Lib.hid ⟨h0, ⟨d, h1⟩, hcut.below hbel, by omega, by simp [Value.ownBlock]; omega⟩, Lib.hid (hbel.mono hBs), Lib.hid (Below.keepBut hbel _), Lib.hid ⟨fun j hj => .inl (by simpa [Value.ownBlock] using hj), hs'⟩⟩

theorem nil_next {w w' : World} {s' B d : Nat} {o : Option Nat} (hB : B ≤ w.heap.size) (h0 : w'.cell? ⟨s', 0, none⟩ = some (.slice none 0 0)) (h1 : w'.cell? ⟨s', 1, none⟩ = some (.pointer (some ⟨d, 0, none⟩))) (hbel : Below w.heap.size w w') (hs' : w.heap.size ≤ s') :
    NextPost B o [] w (.returned (.pointer (some ⟨s', 0, none⟩))) w' :=
  ⟨s', _, rfl, Lib.hid ⟨h0, ⟨d, h1⟩, ⟨⟨none, 0, rfl, Nat.le_refl _, Nat.zero_le _, rfl, Nat.zero_le _, fun h => absurd h (Nat.lt_irrefl 0)⟩, .inl rfl⟩, by omega, by simp [Value.ownBlock]⟩, Lib.hid (hbel.mono hB), Lib.hid (Below.keepBut hbel _), Lib.hid ⟨fun j hj => by simp [Value.ownBlock] at hj, hs'⟩⟩

set_option maxRecDepth 100000 in
set_option maxHeartbeats 4000000 in
theorem sliceO (B s g off c : Nat) (L : List Nat) (w : World) (hs : SelO w s (.slice (some ⟨g, off, none⟩) L.length c) L B) (hn : L.length ≤ 200) (pa pb : Int) (hra : -9223372036854775808 ≤ pa ∧ pa ≤ 9223372036854775807) (hrb : -9223372036854775808 ≤ pb ∧ pb ≤ 9223372036854775807) (f t : Nat) (hft : f ≤ t) (htn : t ≤ L.length)
    (ha : (pa < 0 ∧ pa = (f : Int) - L.length) ∨ (0 ≤ pa ∧ pa = f)) (hb : (pb = 9223372036854775807 ∧ t = L.length) ∨ (pb < 0 ∧ pb = (t : Int) - L.length) ∨ (0 ≤ pb ∧ pb = t)) :
    Calls Tryz.prog 100 #[.pointer (some ⟨s, 0, none⟩), .int .i64 pa, .int .i64 pb] w (NextPost B (some g) (cutL L (f, t)) w) := by
  have hBs : B ≤ w.heap.size := Nat.le_trans hs.base (Nat.le_of_lt (World.block_lt_of_cell? _ _ hs.nodes))
  have c0 := hs.nodes
  obtain ⟨d, c1⟩ := hs.doc
  have hvc : L.length ≤ c ∧ c ≤ 9223372036854775807 := by
    obtain ⟨⟨a0, c0, he, h2, h3, _⟩, _⟩ := hs.off
    simp at he
    rw [List.length_map] at h2
    unfold maxLen at h3
    omega
  have hcut := fun (w' : World) (s' off' k c' : Nat) => cut_next (w' := w') (s' := s') (d := d) hs f t hft htn (off' := off') (k := k) (c' := c')
  obtain ⟨n, hnn⟩ : ∃ n, L.length = n := ⟨_, rfl⟩
  obtain ⟨M, hM⟩ : ∃ M, cutL L (f, t) = M := ⟨_, rfl⟩
  rw [hM] at hcut ⊢
  rw [hnn] at hn hvc ha hb c0 htn
  have HC := Lib.hid hcut
  clear hs hcut hnn hM
  have hftI : (f : Int) ≤ (t : Int) := by omega
  have htnI : (t : Int) ≤ (n : Int) := by omega
  have htcI : (t : Int) ≤ (c : Int) := by omega
  have hf0 : 0 ≤ (f : Int) := by omega
  have gt : ((t : Int) == 9223372036854775807) = false := by simp; omega
  have gtn : ((t : Int) - (n : Int) == 9223372036854775807) = false := by simp; omega
  by_cases hz : c - f = 0
  all_goals
    rcases ha with ⟨h1, rfl⟩ | ⟨h1, rfl⟩
  all_goals
    rcases hb with ⟨rfl, rfl⟩ | ⟨h2, rfl⟩ | ⟨h2, rfl⟩
  all_goals
    try (exfalso; omega)
  all_goals
    go_enter Tryz.func100, Tryz.ntmps100
    go_wp2
    all_goals
      first
      | (exfalso; omega)
      | skip
    all_goals
      go_ret
      refine HC.out _ _ _ _ _ (by first | (left; omega) | (right; omega)) (by omega) (by omega) (cell_alloc_new' _ _ _ (by simp) rfl) (cell_alloc_new' _ _ _ (by simp) rfl) ((Below.refl _ _).alloc (Nat.le_refl _) _) (by simp)

set_option maxRecDepth 100000 in
set_option maxHeartbeats 4000000 in
theorem sliceN (B s : Nat) (w : World) (hs : SelO w s (.slice none 0 0) [] B) (pb : Int) (hb : pb = 9223372036854775807 ∨ pb = 0) (o : Option Nat) :
    Calls Tryz.prog 100 #[.pointer (some ⟨s, 0, none⟩), .int .i64 0, .int .i64 pb] w (NextPost B o [] w) := by
  have hBs : B ≤ w.heap.size := Nat.le_trans hs.base (Nat.le_of_lt (World.block_lt_of_cell? _ _ hs.nodes))
  have c0 := hs.nodes
  obtain ⟨d, c1⟩ := hs.doc
  have HB := Lib.hid hBs
  clear hs hBs
  rcases hb with rfl | rfl
  all_goals
    go_enter Tryz.func100, Tryz.ntmps100
    go_wp2
    all_goals
      go_ret
      exact nil_next HB.out (cell_alloc_new' _ _ _ (by simp) rfl) (cell_alloc_new' _ _ _ (by simp) rfl) ((Below.refl _ _).alloc (Nat.le_refl _) _) (by simp)

set_option maxRecDepth 100000 in
set_option maxHeartbeats 4000000 in
theorem eqO (B s g off c : Nat) (L : List Nat) (w : World) (hs : SelO w s (.slice (some ⟨g, off, none⟩) L.length c) L B) (hn : L.length ≤ 200) (pa : Int) (hra : -9223372036854775808 ≤ pa ∧ pa ≤ 9223372036854775807) (f : Nat) (hfn : f < L.length)
    (ha : (pa < 0 ∧ pa = (f : Int) - L.length) ∨ (0 ≤ pa ∧ pa = f)) :
    Calls Tryz.prog 75 #[.pointer (some ⟨s, 0, none⟩), .int .i64 pa] w (NextPost B (some g) (cutL L (f, f + 1)) w) := by
  have hBs : B ≤ w.heap.size := Nat.le_trans hs.base (Nat.le_of_lt (World.block_lt_of_cell? _ _ hs.nodes))
  have c0 := hs.nodes
  obtain ⟨d, c1⟩ := hs.doc
  have hsl := sliceO B s g off c L w hs hn (f : Int) ((f : Int) + 1) (by omega) (by omega) f (f + 1) (by omega) (by omega) (.inr ⟨by omega, rfl⟩) (.inr (.inr ⟨by omega, by omega⟩))
  obtain ⟨n, hnn⟩ : ∃ n, L.length = n := ⟨_, rfl⟩
  obtain ⟨M, hM⟩ : ∃ M, cutL L (f, f + 1) = M := ⟨_, rfl⟩
  rw [hM] at hsl ⊢
  rw [hnn] at hn ha c0 hfn
  have HC := Lib.hid hsl
  clear hs hsl hnn hM hBs
  have hfnI : (f : Int) < (n : Int) := by omega
  have hf0 : 0 ≤ (f : Int) := by omega
  rcases ha with ⟨h1, rfl⟩ | ⟨h1, rfl⟩
  all_goals
    go_enter Tryz.func75, Tryz.ntmps75
    go_wp2_with fail
    refine HC.out.mono ?_
    rintro e w1 ⟨s', v', rfl, h1, h2, h3, h4⟩
    go_wp2
    go_ret
    exact ⟨s', v', rfl, h1, h2, h3, h4⟩

set_option maxRecDepth 100000 in
set_option maxHeartbeats 4000000 in
theorem eqOut (B s : Nat) (u : Value) (L : List Nat) (w : World) (hs : SelO w s u L B) (hn : L.length ≤ 200) (pa : Int) (hra : -9223372036854775808 ≤ pa ∧ pa ≤ 9223372036854775807)
    (ha : (pa < 0 ∧ pa + L.length < 0) ∨ (0 ≤ pa ∧ (L.length : Int) ≤ pa)) (o : Option Nat) :
    Calls Tryz.prog 75 #[.pointer (some ⟨s, 0, none⟩), .int .i64 pa] w (NextPost B o [] w) := by
  have hBs : B ≤ w.heap.size := Nat.le_trans hs.base (Nat.le_of_lt (World.block_lt_of_cell? _ _ hs.nodes))
  have c0 := hs.nodes
  obtain ⟨d, c1⟩ := hs.doc
  obtain ⟨a', c', hu, _⟩ := hs.off.1.nil
  rw [List.length_map] at hu
  subst hu
  have HB := Lib.hid hBs
  clear hs hBs
  obtain ⟨n, hnn⟩ : ∃ n, L.length = n := ⟨_, rfl⟩
  rw [hnn] at hn ha c0
  clear hnn
  have hn0 : 0 ≤ (n : Int) := by omega
  rcases ha with ⟨h1, h2⟩ | ⟨h1, h2⟩
  all_goals
    go_enter Tryz.func75, Tryz.ntmps75
    go_wp2
    all_goals
      first
      | (exfalso; omega)
      | skip
    all_goals
      go_ret
      exact nil_next HB.out (cell_alloc_new' _ _ _ (by simp) rfl) (cell_alloc_new' _ _ _ (by simp) rfl) ((Below.refl _ _).alloc (Nat.le_refl _) _) (by simp)

set_option maxRecDepth 100000 in
set_option maxHeartbeats 1000000 in
theorem firstO (s : Nat) (B : Nat) (o : Option Nat) (M : List Nat) (w : World) (hadd : Calls Tryz.prog 75 #[.pointer (some ⟨s, 0, none⟩), .int .i64 0] w (NextPost B o M w)) :
    Calls Tryz.prog 93 #[.pointer (some ⟨s, 0, none⟩)] w (NextPost B o M w) := by
  have HADD := Lib.hid hadd
  clear hadd
  go_enter Tryz.func93, Tryz.ntmps93
  go_wp2_with fail
  refine HADD.out.mono ?_
  rintro e w1 ⟨s', v', rfl, h1, h2, h3, h4⟩
  go_wp2
  go_ret
  exact ⟨s', v', rfl, h1, h2, h3, h4⟩

set_option maxRecDepth 100000 in
set_option maxHeartbeats 1000000 in
theorem lastO (s : Nat) (B : Nat) (o : Option Nat) (M : List Nat) (w : World) (hadd : Calls Tryz.prog 75 #[.pointer (some ⟨s, 0, none⟩), .int .i64 (-1)] w (NextPost B o M w)) :
    Calls Tryz.prog 94 #[.pointer (some ⟨s, 0, none⟩)] w (NextPost B o M w) := by
  have HADD := Lib.hid hadd
  clear hadd
  go_enter Tryz.func94, Tryz.ntmps94
  go_wp2_with fail
  refine HADD.out.mono ?_
  rintro e w1 ⟨s', v', rfl, h1, h2, h3, h4⟩
  go_wp2
  go_ret
  exact ⟨s', v', rfl, h1, h2, h3, h4⟩

set_option maxRecDepth 100000 in
set_option maxHeartbeats 1000000 in
theorem lengthO (s n c : Nat) (a : Option Addr) (w : World) (c0 : w.cell? ⟨s, 0, none⟩ = some (.slice a n c)) :
    Calls Tryz.prog 107 #[.pointer (some ⟨s, 0, none⟩)] w (fun e w' => e = .returned (.int .i64 (n : Int)) ∧ w = w') := by
  go_enter Tryz.func107, Tryz.ntmps107
  go_wp2
  go_ret
  exact ⟨rfl, rfl⟩

set_option maxRecDepth 100000 in
set_option maxHeartbeats 4000000 in
theorem slicedO (B s : Nat) (u : Value) (L M : List Nat) (o : Option Nat) (w : World) (hs : SelO w s u L B) (hn : L.length ≤ 200) (pa pb : Int) (hra : -9223372036854775808 ≤ pa ∧ pa ≤ 9223372036854775807) (hrb : -9223372036854775808 ≤ pb ∧ pb ≤ 9223372036854775807) (f t : Nat) (hft : f ≤ t) (htn : t ≤ L.length)
    (ha : (pa < 0 ∧ pa = (f : Int) - L.length) ∨ (0 ≤ pa ∧ pa = f)) (hb : (pb = 9223372036854775807 ∧ t = L.length) ∨ (pb < 0 ∧ pb = (t : Int) - L.length) ∨ (0 ≤ pb ∧ pb = t))
    (hsl : Calls Tryz.prog 100 #[.pointer (some ⟨s, 0, none⟩), .int .i64 pa, .int .i64 pb] w (NextPost B o M w)) :
    Calls Tryz.prog 92 #[.pointer (some ⟨s, 0, none⟩), .int .i64 pa, .int .i64 pb] w (NextPost B o M w) := by
  have hBs : B ≤ w.heap.size := Nat.le_trans hs.base (Nat.le_of_lt (World.block_lt_of_cell? _ _ hs.nodes))
  have c0 := hs.nodes
  obtain ⟨d, c1⟩ := hs.doc
  obtain ⟨a', c', hu, _⟩ := hs.off.1.nil
  rw [List.length_map] at hu
  subst hu
  obtain ⟨n, hnn⟩ : ∃ n, L.length = n := ⟨_, rfl⟩
  rw [hnn] at hn ha hb c0 htn
  have HC := Lib.hid hsl
  clear hs hsl hnn hBs
  have hftI : (f : Int) ≤ (t : Int) := by omega
  have htnI : (t : Int) ≤ (n : Int) := by omega
  have hf0 : 0 ≤ (f : Int) := by omega
  have gt : ((t : Int) == 9223372036854775807) = false := by simp; omega
  have gtn : ((t : Int) - (n : Int) == 9223372036854775807) = false := by simp; omega
  rcases ha with ⟨h1, rfl⟩ | ⟨h1, rfl⟩
  all_goals
    rcases hb with ⟨rfl, rfl⟩ | ⟨h2, rfl⟩ | ⟨h2, rfl⟩
  all_goals
    go_enter Tryz.func92, Tryz.ntmps92
    go_wp2_with fail
    refine (lengthO s _ c' a' w c0).mono ?_
    rintro e w1 ⟨rfl, rfl⟩
    go_wp2_with fail
    all_goals
      first
      | (exfalso; omega)
      | skip
    all_goals
      refine HC.out.mono ?_
      rintro e w1 ⟨s', v', rfl, h1, h2, h3, h4⟩
      go_wp2
      go_ret
      exact ⟨s', v', rfl, h1, h2, h3, h4⟩

set_option maxRecDepth 100000 in
set_option maxHeartbeats 1000000 in
theorem wpart_32 (tx : ByteArray) (xa : Option Addr) (xn xc : Nat) (pa pb : Int) (B s : Nat) (o : Option Nat) (M : List Nat) (w : World) (hB : B ≤ w.heap.size) (hadd : ∀ w', Below w.heap.size w w' → Calls Tryz.prog 92 #[.pointer (some ⟨s, 0, none⟩), .int .i64 pa, .int .i64 pb] w' (NextPost B o M w')) :
    Calls Tryz.prog 65 #[.pointer (some ⟨s, 0, none⟩), .agg #[.int .i64 32, .string tx, .slice xa xn xc, .int .i64 pa, .int .i64 pb]] w (NextPost B o M w) := by
  have hb0 : Below w.heap.size w (w.alloc (.cells #[.int .i64 32, .string tx, .slice xa xn xc, .int .i64 pa, .int .i64 pb] 27)) := (Below.refl _ _).alloc (Nat.le_refl _) _
  have hp : ∀ i u, (#[.int .i64 32, .string tx, .slice xa xn xc, .int .i64 pa, .int .i64 pb] : Array Value)[i]? = some u → (w.alloc (.cells #[.int .i64 32, .string tx, .slice xa xn xc, .int .i64 pa, .int .i64 pb] 27)).cell? ⟨w.heap.size, i, none⟩ = some u := fun i u h => cell_alloc_new' _ _ _ rfl h
  obtain ⟨w0, hw0⟩ : ∃ w0, w.alloc (.cells #[.int .i64 32, .string tx, .slice xa xn xc, .int .i64 pa, .int .i64 pb] 27) = w0 := ⟨_, rfl⟩
  rw [hw0] at hb0 hp
  have q0 : w0.cell? ⟨w.heap.size, 0, none⟩ = some (.int .i64 32) := hp 0 _ rfl
  have q1 : w0.cell? ⟨w.heap.size, 1, none⟩ = some (.string tx) := hp 1 _ rfl
  have q2 : w0.cell? ⟨w.heap.size, 2, none⟩ = some (.slice xa xn xc) := hp 2 _ rfl
  have q3 : w0.cell? ⟨w.heap.size, 3, none⟩ = some (.int .i64 pa) := hp 3 _ rfl
  have q4 : w0.cell? ⟨w.heap.size, 4, none⟩ = some (.int .i64 pb) := hp 4 _ rfl
  have HST := Lib.hid (hadd w0 hb0)
  have HB := Lib.hid (And.intro hb0 hB)
  clear hadd hb0 hB hp
  go_enter Tryz.func65, Tryz.ntmps65
  go_wp2_with fail
  refine HST.out.mono ?_
  rintro e w1 ⟨s', v', rfl, h1, h2, h3, h4⟩
  have hfin := NextPost.after (e := .returned (.pointer (some ⟨s', 0, none⟩))) ⟨s', v', rfl, h1, h2, h3, h4⟩ HB.out.1 HB.out.2
  have HF := Lib.hid hfin
  clear hfin h1 h2 h3 h4 HST q0 q1 q2 q3 q4
  go_wp2
  go_ret
  exact HF.out

set_option maxRecDepth 100000 in
set_option maxHeartbeats 1000000 in
theorem wkin_32 (tx : ByteArray) (xa : Option Addr) (xn xc : Nat) (pa pb : Int) (B s : Nat) (o : Option Nat) (M : List Nat) (w : World) (hB : B ≤ w.heap.size) (hadd : ∀ w', Below w.heap.size w w' → Calls Tryz.prog 65 #[.pointer (some ⟨s, 0, none⟩), .agg #[.int .i64 32, .string tx, .slice xa xn xc, .int .i64 pa, .int .i64 pb]] w' (NextPost B o M w')) :
    Calls Tryz.prog 28 #[.pointer (some ⟨s, 0, none⟩), .agg #[.int .i64 32, .string tx, .slice xa xn xc, .int .i64 pa, .int .i64 pb]] w (NextPost B o M w) := by
  have hb0 : Below w.heap.size w (w.alloc (.cells #[.int .i64 32, .string tx, .slice xa xn xc, .int .i64 pa, .int .i64 pb] 27)) := (Below.refl _ _).alloc (Nat.le_refl _) _
  have hp : ∀ i u, (#[.int .i64 32, .string tx, .slice xa xn xc, .int .i64 pa, .int .i64 pb] : Array Value)[i]? = some u → (w.alloc (.cells #[.int .i64 32, .string tx, .slice xa xn xc, .int .i64 pa, .int .i64 pb] 27)).cell? ⟨w.heap.size, i, none⟩ = some u := fun i u h => cell_alloc_new' _ _ _ rfl h
  obtain ⟨w0, hw0⟩ : ∃ w0, w.alloc (.cells #[.int .i64 32, .string tx, .slice xa xn xc, .int .i64 pa, .int .i64 pb] 27) = w0 := ⟨_, rfl⟩
  rw [hw0] at hb0 hp
  have q0 : w0.cell? ⟨w.heap.size, 0, none⟩ = some (.int .i64 32) := hp 0 _ rfl
  have q1 : w0.cell? ⟨w.heap.size, 1, none⟩ = some (.string tx) := hp 1 _ rfl
  have q2 : w0.cell? ⟨w.heap.size, 2, none⟩ = some (.slice xa xn xc) := hp 2 _ rfl
  have q3 : w0.cell? ⟨w.heap.size, 3, none⟩ = some (.int .i64 pa) := hp 3 _ rfl
  have q4 : w0.cell? ⟨w.heap.size, 4, none⟩ = some (.int .i64 pb) := hp 4 _ rfl
  have HST := Lib.hid (hadd w0 hb0)
  have HB := Lib.hid (And.intro hb0 hB)
  clear hadd hb0 hB hp
  go_enter Tryz.func28, Tryz.ntmps28
  go_wp2_with fail
  refine HST.out.mono ?_
  rintro e w1 ⟨s', v', rfl, h1, h2, h3, h4⟩
  have hfin := NextPost.after (e := .returned (.pointer (some ⟨s', 0, none⟩))) ⟨s', v', rfl, h1, h2, h3, h4⟩ HB.out.1 HB.out.2
  have HF := Lib.hid hfin
  clear hfin h1 h2 h3 h4 HST q0 q1 q2 q3 q4
  go_wp2
  go_ret
  exact HF.out

set_option maxRecDepth 100000 in
set_option maxHeartbeats 1000000 in
theorem wpart_33 (tx : ByteArray) (xa : Option Addr) (xn xc : Nat) (pa pb : Int) (B s : Nat) (o : Option Nat) (M : List Nat) (w : World) (hB : B ≤ w.heap.size) (hadd : ∀ w', Below w.heap.size w w' → Calls Tryz.prog 92 #[.pointer (some ⟨s, 0, none⟩), .int .i64 pa, .int .i64 9223372036854775807] w' (NextPost B o M w')) :
    Calls Tryz.prog 65 #[.pointer (some ⟨s, 0, none⟩), .agg #[.int .i64 33, .string tx, .slice xa xn xc, .int .i64 pa, .int .i64 pb]] w (NextPost B o M w) := by
  have hb0 : Below w.heap.size w (w.alloc (.cells #[.int .i64 33, .string tx, .slice xa xn xc, .int .i64 pa, .int .i64 pb] 27)) := (Below.refl _ _).alloc (Nat.le_refl _) _
  have hp : ∀ i u, (#[.int .i64 33, .string tx, .slice xa xn xc, .int .i64 pa, .int .i64 pb] : Array Value)[i]? = some u → (w.alloc (.cells #[.int .i64 33, .string tx, .slice xa xn xc, .int .i64 pa, .int .i64 pb] 27)).cell? ⟨w.heap.size, i, none⟩ = some u := fun i u h => cell_alloc_new' _ _ _ rfl h
  obtain ⟨w0, hw0⟩ : ∃ w0, w.alloc (.cells #[.int .i64 33, .string tx, .slice xa xn xc, .int .i64 pa, .int .i64 pb] 27) = w0 := ⟨_, rfl⟩
  rw [hw0] at hb0 hp
  have q0 : w0.cell? ⟨w.heap.size, 0, none⟩ = some (.int .i64 33) := hp 0 _ rfl
  have q1 : w0.cell? ⟨w.heap.size, 1, none⟩ = some (.string tx) := hp 1 _ rfl
  have q2 : w0.cell? ⟨w.heap.size, 2, none⟩ = some (.slice xa xn xc) := hp 2 _ rfl
  have q3 : w0.cell? ⟨w.heap.size, 3, none⟩ = some (.int .i64 pa) := hp 3 _ rfl
  have q4 : w0.cell? ⟨w.heap.size, 4, none⟩ = some (.int .i64 pb) := hp 4 _ rfl
  have HST := Lib.hid (hadd w0 hb0)
  have HB := Lib.hid (And.intro hb0 hB)
  clear hadd hb0 hB hp
  go_enter Tryz.func65, Tryz.ntmps65
  go_wp2_with fail
  refine HST.out.mono ?_
  rintro e w1 ⟨s', v', rfl, h1, h2, h3, h4⟩
  have hfin := NextPost.after (e := .returned (.pointer (some ⟨s', 0, none⟩))) ⟨s', v', rfl, h1, h2, h3, h4⟩ HB.out.1 HB.out.2
  have HF := Lib.hid hfin
  clear hfin h1 h2 h3 h4 HST q0 q1 q2 q3 q4
  go_wp2
  go_ret
  exact HF.out

set_option maxRecDepth 100000 in
set_option maxHeartbeats 1000000 in
theorem wkin_33 (tx : ByteArray) (xa : Option Addr) (xn xc : Nat) (pa pb : Int) (B s : Nat) (o : Option Nat) (M : List Nat) (w : World) (hB : B ≤ w.heap.size) (hadd : ∀ w', Below w.heap.size w w' → Calls Tryz.prog 65 #[.pointer (some ⟨s, 0, none⟩), .agg #[.int .i64 33, .string tx, .slice xa xn xc, .int .i64 pa, .int .i64 pb]] w' (NextPost B o M w')) :
    Calls Tryz.prog 28 #[.pointer (some ⟨s, 0, none⟩), .agg #[.int .i64 33, .string tx, .slice xa xn xc, .int .i64 pa, .int .i64 pb]] w (NextPost B o M w) := by
  have hb0 : Below w.heap.size w (w.alloc (.cells #[.int .i64 33, .string tx, .slice xa xn xc, .int .i64 pa, .int .i64 pb] 27)) := (Below.refl _ _).alloc (Nat.le_refl _) _
  have hp : ∀ i u, (#[.int .i64 33, .string tx, .slice xa xn xc, .int .i64 pa, .int .i64 pb] : Array Value)[i]? = some u → (w.alloc (.cells #[.int .i64 33, .string tx, .slice xa xn xc, .int .i64 pa, .int .i64 pb] 27)).cell? ⟨w.heap.size, i, none⟩ = some u := fun i u h => cell_alloc_new' _ _ _ rfl h
  obtain ⟨w0, hw0⟩ : ∃ w0, w.alloc (.cells #[.int .i64 33, .string tx, .slice xa xn xc, .int .i64 pa, .int .i64 pb] 27) = w0 := ⟨_, rfl⟩
  rw [hw0] at hb0 hp
  have q0 : w0.cell? ⟨w.heap.size, 0, none⟩ = some (.int .i64 33) := hp 0 _ rfl
  have q1 : w0.cell? ⟨w.heap.size, 1, none⟩ = some (.string tx) := hp 1 _ rfl
  have q2 : w0.cell? ⟨w.heap.size, 2, none⟩ = some (.slice xa xn xc) := hp 2 _ rfl
  have q3 : w0.cell? ⟨w.heap.size, 3, none⟩ = some (.int .i64 pa) := hp 3 _ rfl
  have q4 : w0.cell? ⟨w.heap.size, 4, none⟩ = some (.int .i64 pb) := hp 4 _ rfl
  have HST := Lib.hid (hadd w0 hb0)
  have HB := Lib.hid (And.intro hb0 hB)
  clear hadd hb0 hB hp
  go_enter Tryz.func28, Tryz.ntmps28
  go_wp2_with fail
  refine HST.out.mono ?_
  rintro e w1 ⟨s', v', rfl, h1, h2, h3, h4⟩
  have hfin := NextPost.after (e := .returned (.pointer (some ⟨s', 0, none⟩))) ⟨s', v', rfl, h1, h2, h3, h4⟩ HB.out.1 HB.out.2
  have HF := Lib.hid hfin
  clear hfin h1 h2 h3 h4 HST q0 q1 q2 q3 q4
  go_wp2
  go_ret
  exact HF.out

set_option maxRecDepth 100000 in
set_option maxHeartbeats 1000000 in
theorem wpart_34 (tx : ByteArray) (xa : Option Addr) (xn xc : Nat) (pa pb : Int) (B s : Nat) (o : Option Nat) (M : List Nat) (w : World) (hB : B ≤ w.heap.size) (hadd : ∀ w', Below w.heap.size w w' → Calls Tryz.prog 93 #[.pointer (some ⟨s, 0, none⟩)] w' (NextPost B o M w')) :
    Calls Tryz.prog 65 #[.pointer (some ⟨s, 0, none⟩), .agg #[.int .i64 34, .string tx, .slice xa xn xc, .int .i64 pa, .int .i64 pb]] w (NextPost B o M w) := by
  have hb0 : Below w.heap.size w (w.alloc (.cells #[.int .i64 34, .string tx, .slice xa xn xc, .int .i64 pa, .int .i64 pb] 27)) := (Below.refl _ _).alloc (Nat.le_refl _) _
  have hp : ∀ i u, (#[.int .i64 34, .string tx, .slice xa xn xc, .int .i64 pa, .int .i64 pb] : Array Value)[i]? = some u → (w.alloc (.cells #[.int .i64 34, .string tx, .slice xa xn xc, .int .i64 pa, .int .i64 pb] 27)).cell? ⟨w.heap.size, i, none⟩ = some u := fun i u h => cell_alloc_new' _ _ _ rfl h
  obtain ⟨w0, hw0⟩ : ∃ w0, w.alloc (.cells #[.int .i64 34, .string tx, .slice xa xn xc, .int .i64 pa, .int .i64 pb] 27) = w0 := ⟨_, rfl⟩
  rw [hw0] at hb0 hp
  have q0 : w0.cell? ⟨w.heap.size, 0, none⟩ = some (.int .i64 34) := hp 0 _ rfl
  have q1 : w0.cell? ⟨w.heap.size, 1, none⟩ = some (.string tx) := hp 1 _ rfl
  have q2 : w0.cell? ⟨w.heap.size, 2, none⟩ = some (.slice xa xn xc) := hp 2 _ rfl
  have q3 : w0.cell? ⟨w.heap.size, 3, none⟩ = some (.int .i64 pa) := hp 3 _ rfl
  have q4 : w0.cell? ⟨w.heap.size, 4, none⟩ = some (.int .i64 pb) := hp 4 _ rfl
  have HST := Lib.hid (hadd w0 hb0)
  have HB := Lib.hid (And.intro hb0 hB)
  clear hadd hb0 hB hp
  go_enter Tryz.func65, Tryz.ntmps65
  go_wp2_with fail
  refine HST.out.mono ?_
  rintro e w1 ⟨s', v', rfl, h1, h2, h3, h4⟩
  have hfin := NextPost.after (e := .returned (.pointer (some ⟨s', 0, none⟩))) ⟨s', v', rfl, h1, h2, h3, h4⟩ HB.out.1 HB.out.2
  have HF := Lib.hid hfin
  clear hfin h1 h2 h3 h4 HST q0 q1 q2 q3 q4
  go_wp2
  go_ret
  exact HF.out

set_option maxRecDepth 100000 in
set_option maxHeartbeats 1000000 in
theorem wkin_34 (tx : ByteArray) (xa : Option Addr) (xn xc : Nat) (pa pb : Int) (B s : Nat) (o : Option Nat) (M : List Nat) (w : World) (hB : B ≤ w.heap.size) (hadd : ∀ w', Below w.heap.size w w' → Calls Tryz.prog 65 #[.pointer (some ⟨s, 0, none⟩), .agg #[.int .i64 34, .string tx, .slice xa xn xc, .int .i64 pa, .int .i64 pb]] w' (NextPost B o M w')) :
    Calls Tryz.prog 28 #[.pointer (some ⟨s, 0, none⟩), .agg #[.int .i64 34, .string tx, .slice xa xn xc, .int .i64 pa, .int .i64 pb]] w (NextPost B o M w) := by
  have hb0 : Below w.heap.size w (w.alloc (.cells #[.int .i64 34, .string tx, .slice xa xn xc, .int .i64 pa, .int .i64 pb] 27)) := (Below.refl _ _).alloc (Nat.le_refl _) _
  have hp : ∀ i u, (#[.int .i64 34, .string tx, .slice xa xn xc, .int .i64 pa, .int .i64 pb] : Array Value)[i]? = some u → (w.alloc (.cells #[.int .i64 34, .string tx, .slice xa xn xc, .int .i64 pa, .int .i64 pb] 27)).cell? ⟨w.heap.size, i, none⟩ = some u := fun i u h => cell_alloc_new' _ _ _ rfl h
  obtain ⟨w0, hw0⟩ : ∃ w0, w.alloc (.cells #[.int .i64 34, .string tx, .slice xa xn xc, .int .i64 pa, .int .i64 pb] 27) = w0 := ⟨_, rfl⟩
  rw [hw0] at hb0 hp
  have q0 : w0.cell? ⟨w.heap.size, 0, none⟩ = some (.int .i64 34) := hp 0 _ rfl
  have q1 : w0.cell? ⟨w.heap.size, 1, none⟩ = some (.string tx) := hp 1 _ rfl
  have q2 : w0.cell? ⟨w.heap.size, 2, none⟩ = some (.slice xa xn xc) := hp 2 _ rfl
  have q3 : w0.cell? ⟨w.heap.size, 3, none⟩ = some (.int .i64 pa) := hp 3 _ rfl
  have q4 : w0.cell? ⟨w.heap.size, 4, none⟩ = some (.int .i64 pb) := hp 4 _ rfl
  have HST := Lib.hid (hadd w0 hb0)
  have HB := Lib.hid (And.intro hb0 hB)
  clear hadd hb0 hB hp
  go_enter Tryz.func28, Tryz.ntmps28
  go_wp2_with fail
  refine HST.out.mono ?_
  rintro e w1 ⟨s', v', rfl, h1, h2, h3, h4⟩
  have hfin := NextPost.after (e := .returned (.pointer (some ⟨s', 0, none⟩))) ⟨s', v', rfl, h1, h2, h3, h4⟩ HB.out.1 HB.out.2
  have HF := Lib.hid hfin
  clear hfin h1 h2 h3 h4 HST q0 q1 q2 q3 q4
  go_wp2
  go_ret
  exact HF.out

set_option maxRecDepth 100000 in
set_option maxHeartbeats 1000000 in
theorem wpart_35 (tx : ByteArray) (xa : Option Addr) (xn xc : Nat) (pa pb : Int) (B s : Nat) (o : Option Nat) (M : List Nat) (w : World) (hB : B ≤ w.heap.size) (hadd : ∀ w', Below w.heap.size w w' → Calls Tryz.prog 94 #[.pointer (some ⟨s, 0, none⟩)] w' (NextPost B o M w')) :
    Calls Tryz.prog 65 #[.pointer (some ⟨s, 0, none⟩), .agg #[.int .i64 35, .string tx, .slice xa xn xc, .int .i64 pa, .int .i64 pb]] w (NextPost B o M w) := by
  have hb0 : Below w.heap.size w (w.alloc (.cells #[.int .i64 35, .string tx, .slice xa xn xc, .int .i64 pa, .int .i64 pb] 27)) := (Below.refl _ _).alloc (Nat.le_refl _) _
  have hp : ∀ i u, (#[.int .i64 35, .string tx, .slice xa xn xc, .int .i64 pa, .int .i64 pb] : Array Value)[i]? = some u → (w.alloc (.cells #[.int .i64 35, .string tx, .slice xa xn xc, .int .i64 pa, .int .i64 pb] 27)).cell? ⟨w.heap.size, i, none⟩ = some u := fun i u h => cell_alloc_new' _ _ _ rfl h
  obtain ⟨w0, hw0⟩ : ∃ w0, w.alloc (.cells #[.int .i64 35, .string tx, .slice xa xn xc, .int .i64 pa, .int .i64 pb] 27) = w0 := ⟨_, rfl⟩
  rw [hw0] at hb0 hp
  have q0 : w0.cell? ⟨w.heap.size, 0, none⟩ = some (.int .i64 35) := hp 0 _ rfl
  have q1 : w0.cell? ⟨w.heap.size, 1, none⟩ = some (.string tx) := hp 1 _ rfl
  have q2 : w0.cell? ⟨w.heap.size, 2, none⟩ = some (.slice xa xn xc) := hp 2 _ rfl
  have q3 : w0.cell? ⟨w.heap.size, 3, none⟩ = some (.int .i64 pa) := hp 3 _ rfl
  have q4 : w0.cell? ⟨w.heap.size, 4, none⟩ = some (.int .i64 pb) := hp 4 _ rfl
  have HST := Lib.hid (hadd w0 hb0)
  have HB := Lib.hid (And.intro hb0 hB)
  clear hadd hb0 hB hp
  go_enter Tryz.func65, Tryz.ntmps65
  go_wp2_with fail
  refine HST.out.mono ?_
  rintro e w1 ⟨s', v', rfl, h1, h2, h3, h4⟩
  have hfin := NextPost.after (e := .returned (.pointer (some ⟨s', 0, none⟩))) ⟨s', v', rfl, h1, h2, h3, h4⟩ HB.out.1 HB.out.2
  have HF := Lib.hid hfin
  clear hfin h1 h2 h3 h4 HST q0 q1 q2 q3 q4
  go_wp2
  go_ret
  exact HF.out

set_option maxRecDepth 100000 in
set_option maxHeartbeats 1000000 in
theorem wkin_35 (tx : ByteArray) (xa : Option Addr) (xn xc : Nat) (pa pb : Int) (B s : Nat) (o : Option Nat) (M : List Nat) (w : World) (hB : B ≤ w.heap.size) (hadd : ∀ w', Below w.heap.size w w' → Calls Tryz.prog 65 #[.pointer (some ⟨s, 0, none⟩), .agg #[.int .i64 35, .string tx, .slice xa xn xc, .int .i64 pa, .int .i64 pb]] w' (NextPost B o M w')) :
    Calls Tryz.prog 28 #[.pointer (some ⟨s, 0, none⟩), .agg #[.int .i64 35, .string tx, .slice xa xn xc, .int .i64 pa, .int .i64 pb]] w (NextPost B o M w) := by
  have hb0 : Below w.heap.size w (w.alloc (.cells #[.int .i64 35, .string tx, .slice xa xn xc, .int .i64 pa, .int .i64 pb] 27)) := (Below.refl _ _).alloc (Nat.le_refl _) _
  have hp : ∀ i u, (#[.int .i64 35, .string tx, .slice xa xn xc, .int .i64 pa, .int .i64 pb] : Array Value)[i]? = some u → (w.alloc (.cells #[.int .i64 35, .string tx, .slice xa xn xc, .int .i64 pa, .int .i64 pb] 27)).cell? ⟨w.heap.size, i, none⟩ = some u := fun i u h => cell_alloc_new' _ _ _ rfl h
  obtain ⟨w0, hw0⟩ : ∃ w0, w.alloc (.cells #[.int .i64 35, .string tx, .slice xa xn xc, .int .i64 pa, .int .i64 pb] 27) = w0 := ⟨_, rfl⟩
  rw [hw0] at hb0 hp
  have q0 : w0.cell? ⟨w.heap.size, 0, none⟩ = some (.int .i64 35) := hp 0 _ rfl
  have q1 : w0.cell? ⟨w.heap.size, 1, none⟩ = some (.string tx) := hp 1 _ rfl
  have q2 : w0.cell? ⟨w.heap.size, 2, none⟩ = some (.slice xa xn xc) := hp 2 _ rfl
  have q3 : w0.cell? ⟨w.heap.size, 3, none⟩ = some (.int .i64 pa) := hp 3 _ rfl
  have q4 : w0.cell? ⟨w.heap.size, 4, none⟩ = some (.int .i64 pb) := hp 4 _ rfl
  have HST := Lib.hid (hadd w0 hb0)
  have HB := Lib.hid (And.intro hb0 hB)
  clear hadd hb0 hB hp
  go_enter Tryz.func28, Tryz.ntmps28
  go_wp2_with fail
  refine HST.out.mono ?_
  rintro e w1 ⟨s', v', rfl, h1, h2, h3, h4⟩
  have hfin := NextPost.after (e := .returned (.pointer (some ⟨s', 0, none⟩))) ⟨s', v', rfl, h1, h2, h3, h4⟩ HB.out.1 HB.out.2
  have HF := Lib.hid hfin
  clear hfin h1 h2 h3 h4 HST q0 q1 q2 q3 q4
  go_wp2
  go_ret
  exact HF.out

set_option maxRecDepth 100000 in
set_option maxHeartbeats 1000000 in
theorem wpart_36 (tx : ByteArray) (xa : Option Addr) (xn xc : Nat) (pa pb : Int) (B s : Nat) (o : Option Nat) (M : List Nat) (w : World) (hB : B ≤ w.heap.size) (hadd : ∀ w', Below w.heap.size w w' → Calls Tryz.prog 75 #[.pointer (some ⟨s, 0, none⟩), .int .i64 pa] w' (NextPost B o M w')) :
    Calls Tryz.prog 65 #[.pointer (some ⟨s, 0, none⟩), .agg #[.int .i64 36, .string tx, .slice xa xn xc, .int .i64 pa, .int .i64 pb]] w (NextPost B o M w) := by
  have hb0 : Below w.heap.size w (w.alloc (.cells #[.int .i64 36, .string tx, .slice xa xn xc, .int .i64 pa, .int .i64 pb] 27)) := (Below.refl _ _).alloc (Nat.le_refl _) _
  have hp : ∀ i u, (#[.int .i64 36, .string tx, .slice xa xn xc, .int .i64 pa, .int .i64 pb] : Array Value)[i]? = some u → (w.alloc (.cells #[.int .i64 36, .string tx, .slice xa xn xc, .int .i64 pa, .int .i64 pb] 27)).cell? ⟨w.heap.size, i, none⟩ = some u := fun i u h => cell_alloc_new' _ _ _ rfl h
  obtain ⟨w0, hw0⟩ : ∃ w0, w.alloc (.cells #[.int .i64 36, .string tx, .slice xa xn xc, .int .i64 pa, .int .i64 pb] 27) = w0 := ⟨_, rfl⟩
  rw [hw0] at hb0 hp
  have q0 : w0.cell? ⟨w.heap.size, 0, none⟩ = some (.int .i64 36) := hp 0 _ rfl
  have q1 : w0.cell? ⟨w.heap.size, 1, none⟩ = some (.string tx) := hp 1 _ rfl
  have q2 : w0.cell? ⟨w.heap.size, 2, none⟩ = some (.slice xa xn xc) := hp 2 _ rfl
  have q3 : w0.cell? ⟨w.heap.size, 3, none⟩ = some (.int .i64 pa) := hp 3 _ rfl
  have q4 : w0.cell? ⟨w.heap.size, 4, none⟩ = some (.int .i64 pb) := hp 4 _ rfl
  have HST := Lib.hid (hadd w0 hb0)
  have HB := Lib.hid (And.intro hb0 hB)
  clear hadd hb0 hB hp
  go_enter Tryz.func65, Tryz.ntmps65
  go_wp2_with fail
  refine HST.out.mono ?_
  rintro e w1 ⟨s', v', rfl, h1, h2, h3, h4⟩
  have hfin := NextPost.after (e := .returned (.pointer (some ⟨s', 0, none⟩))) ⟨s', v', rfl, h1, h2, h3, h4⟩ HB.out.1 HB.out.2
  have HF := Lib.hid hfin
  clear hfin h1 h2 h3 h4 HST q0 q1 q2 q3 q4
  go_wp2
  go_ret
  exact HF.out

set_option maxRecDepth 100000 in
set_option maxHeartbeats 1000000 in
theorem wkin_36 (tx : ByteArray) (xa : Option Addr) (xn xc : Nat) (pa pb : Int) (B s : Nat) (o : Option Nat) (M : List Nat) (w : World) (hB : B ≤ w.heap.size) (hadd : ∀ w', Below w.heap.size w w' → Calls Tryz.prog 65 #[.pointer (some ⟨s, 0, none⟩), .agg #[.int .i64 36, .string tx, .slice xa xn xc, .int .i64 pa, .int .i64 pb]] w' (NextPost B o M w')) :
    Calls Tryz.prog 28 #[.pointer (some ⟨s, 0, none⟩), .agg #[.int .i64 36, .string tx, .slice xa xn xc, .int .i64 pa, .int .i64 pb]] w (NextPost B o M w) := by
  have hb0 : Below w.heap.size w (w.alloc (.cells #[.int .i64 36, .string tx, .slice xa xn xc, .int .i64 pa, .int .i64 pb] 27)) := (Below.refl _ _).alloc (Nat.le_refl _) _
  have hp : ∀ i u, (#[.int .i64 36, .string tx, .slice xa xn xc, .int .i64 pa, .int .i64 pb] : Array Value)[i]? = some u → (w.alloc (.cells #[.int .i64 36, .string tx, .slice xa xn xc, .int .i64 pa, .int .i64 pb] 27)).cell? ⟨w.heap.size, i, none⟩ = some u := fun i u h => cell_alloc_new' _ _ _ rfl h
  obtain ⟨w0, hw0⟩ : ∃ w0, w.alloc (.cells #[.int .i64 36, .string tx, .slice xa xn xc, .int .i64 pa, .int .i64 pb] 27) = w0 := ⟨_, rfl⟩
  rw [hw0] at hb0 hp
  have q0 : w0.cell? ⟨w.heap.size, 0, none⟩ = some (.int .i64 36) := hp 0 _ rfl
  have q1 : w0.cell? ⟨w.heap.size, 1, none⟩ = some (.string tx) := hp 1 _ rfl
  have q2 : w0.cell? ⟨w.heap.size, 2, none⟩ = some (.slice xa xn xc) := hp 2 _ rfl
  have q3 : w0.cell? ⟨w.heap.size, 3, none⟩ = some (.int .i64 pa) := hp 3 _ rfl
  have q4 : w0.cell? ⟨w.heap.size, 4, none⟩ = some (.int .i64 pb) := hp 4 _ rfl
  have HST := Lib.hid (hadd w0 hb0)
  have HB := Lib.hid (And.intro hb0 hB)
  clear hadd hb0 hB hp
  go_enter Tryz.func28, Tryz.ntmps28
  go_wp2_with fail
  refine HST.out.mono ?_
  rintro e w1 ⟨s', v', rfl, h1, h2, h3, h4⟩
  have hfin := NextPost.after (e := .returned (.pointer (some ⟨s', 0, none⟩))) ⟨s', v', rfl, h1, h2, h3, h4⟩ HB.out.1 HB.out.2
  have HF := Lib.hid hfin
  clear hfin h1 h2 h3 h4 HST q0 q1 q2 q3 q4
  go_wp2
  go_ret
  exact HF.out

end Go.Proofs.YtphppdbhofeagaaGreat

namespace Go.Proofs.YtphppdbhofeagaaGreat
open Go.RowKit
set_option linter.unusedVariables false
set_option linter.unusedSimpArgs false

theorem cutL_map (nb : Nat → Nat) (L : List Nat) (q : Nat × Nat) : cutL (L.map nb) q = (cutL L q).map nb := by
  unfold cutL
  rw [List.map_take, List.map_drop]

theorem filter_map_in {nb : Nat → Nat} {len : Nat} (hinj : ∀ i j, i < len → j < len → nb i = nb j → i = j) (P wl : List Nat) (hP : ∀ i ∈ P, i < len) (hw : ∀ i ∈ wl, i < len) :
    (P.map nb).filter (fun x => decide (x ∈ wl.map nb)) = (P.filter fun x => decide (x ∈ wl)).map nb := by
  induction P with
  | nil => rfl
  | cons a P ih =>
    have ha := hP a (by simp)
    have he : decide (nb a ∈ wl.map nb) = decide (a ∈ wl) := by
      by_cases hm : a ∈ wl
      · simp [hm, List.mem_map_of_mem hm]
      · have : nb a ∉ wl.map nb := fun h => by
          obtain ⟨z, hz, he⟩ := List.mem_map.1 h
          exact hm (hinj z a (hw z hz) ha he ▸ hz)
        simp [hm, this]
    rw [List.map_cons, List.filter_cons, List.filter_cons, he, ih (fun i hi => hP i (by simp [hi]))]
    split <;> simp

/-- What a step does. -/
def NextDoes (B s : Nat) (o : Option Nat) (M : List Nat) (tx : ByteArray) (xa : Option Addr) (xn xc : Nat) (p : PickP) (vw : Value) (w : World) : Prop :=
  Calls Tryz.prog 27 #[.pointer (some ⟨s, 0, none⟩), .agg #[.int .i64 p.op, .string tx, .slice xa xn xc, .int .i64 p.a, .int .i64 p.b], vw] w (NextPost B o M w) ∨
  (Calls Tryz.prog 27 #[.pointer (some ⟨s, 0, none⟩), .agg #[.int .i64 p.op, .string tx, .slice xa xn xc, .int .i64 p.a, .int .i64 p.b], vw] w (fun e w' => e = .returned (.pointer none) ∧ Below w.heap.size w w') ∧
    ∀ w1, Below w.heap.size w w1 → Calls Tryz.prog 28 #[.pointer (some ⟨s, 0, none⟩), .agg #[.int .i64 p.op, .string tx, .slice xa xn xc, .int .i64 p.a, .int .i64 p.b]] w1 (NextPost B o M w1))

/-- Where a part goes, when it is sure. -/
theorem part_bounds {p : PickP} {n f t : Nat} (h : partOf p n = some (f, t)) (hp : p.op = 32 ∨ p.op = 33) :
    f ≤ t ∧ t ≤ n ∧ ((p.a < 0 ∧ p.a = (f : Int) - n) ∨ (0 ≤ p.a ∧ p.a = f)) ∧ (if p.op = 33 then t = n else (p.b < 0 ∧ p.b = (t : Int) - n) ∨ (0 ≤ p.b ∧ p.b = t)) := by
  unfold partOf at h
  rw [if_neg (by omega), if_neg (by omega), if_neg (by omega)] at h
  simp only [] at h
  obtain ⟨f0, hf0⟩ : ∃ f0 : Int, (if p.a < 0 then p.a + n else p.a) = f0 := ⟨_, rfl⟩
  obtain ⟨b0, hb0⟩ : ∃ b0 : Int, (if p.op = 33 then (n : Int) else p.b) = b0 := ⟨_, rfl⟩
  rw [hf0, hb0] at h
  obtain ⟨t0, ht0⟩ : ∃ t0 : Int, (if b0 < 0 then b0 + n else b0) = t0 := ⟨_, rfl⟩
  rw [ht0] at h
  by_cases hbad : f0 < 0 ∨ (n : Int) < t0 ∨ t0 < f0
  · rw [if_pos hbad] at h; cases h
  rw [if_neg hbad] at h
  simp only [Option.some.injEq, Prod.mk.injEq] at h
  obtain ⟨h1, h2⟩ := h
  refine ⟨by omega, by omega, ?_, ?_⟩
  · split at hf0 <;> omega
  · by_cases h33 : p.op = 33
    · rw [if_pos h33] at hb0 ⊢
      split at ht0 <;> omega
    · rw [if_neg h33] at hb0 ⊢
      split at ht0 <;> omega

set_option maxHeartbeats 2000000 in
theorem next_any {ts : List NodeD} {len B B' s bl : Nat} {u : Value} {P N : List Nat} {w : World} {nb : Nat → Nat} {vv : Nat → Value} (tx : ByteArray) (xa : Option Addr) (xn xc : Nat) (p : PickP) (hra : -9223372036854775808 ≤ p.a ∧ p.a ≤ 9223372036854775807) (hrb : -9223372036854775808 ≤ p.b ∧ p.b ≤ 9223372036854775807)
    (hs : SelO w s u (P.map nb) B) (hF : Forest B' w bl len nb vv ts) (hR : RightT ts len) (hP : ∀ x ∈ P, x < len ∧ 0 < x) (hn : P.length ≤ 200) (hlow : ∀ i, i < len → nb i < B)
    (va : Option Addr) (vc : Nat) (hw : ∀ y ∈ p.wl, y < len ∧ kd ts y = 3) (hwn : p.wl.length ≤ 200) (hV : PtrsOf w (.slice va p.wl.length vc) (p.wl.map nb)) (hVb : ∀ b, (Value.slice va p.wl.length vc).ownBlock = some b → u.ownBlock ≠ some b)
    (hN : relW ts len p P = some N) (hop : (20 ≤ p.op ∧ p.op ≤ 39)) :
    NextDoes B s u.ownBlock (N.map nb) tx xa xn xc p (.slice va p.wl.length vc) w := by
  obtain ⟨op, wl, pa, pb⟩ := p
  simp only at hra hrb hw hwn hV hVb hop ⊢
  have hBs : B ≤ w.heap.size := Nat.le_trans hs.base (Nat.le_of_lt (World.block_lt_of_cell? _ _ hs.nodes))
  have hinj : ∀ i j, i < len → j < len → nb i = nb j → i = j := fun i j hi hj he => hF.seg.inj i j (Nat.zero_le _) hi (Nat.zero_le _) hj he
  have hin : ∀ i ∈ P, i < len := fun i hi => (hP i hi).1
  have hpos : ∀ i ∈ P, 0 < i := fun i hi => (hP i hi).2
  have hal : ∀ i, i < len → nb i < B ∧ Alive w (nb i) := fun i hi => ⟨hlow i hi, (hF.node hi).alive⟩
  have halP : ∀ q ∈ P.map nb, q < B ∧ Alive w q := fun q hq => by obtain ⟨i, hi, rfl⟩ := List.mem_map.1 hq; exact hal i (hin i hi)
  have halW : ∀ q ∈ wl.map nb, q < B ∧ Alive w q := fun q hq => by obtain ⟨i, hi, rfl⟩ := List.mem_map.1 hq; exact hal i (hw i hi).1
  have hnP : (P.map nb).length ≤ 200 := by rw [List.length_map]; exact hn
  have hnW : (wl.map nb).length ≤ 200 := by rw [List.length_map]; exact hwn
  have hlW : (wl.map nb).length = wl.length := by rw [List.length_map]
  have hBy := fun (h : op ≠ 2 ∧ op ≠ 4 ∧ op ≠ 6 ∧ op ≠ 8 ∧ op ≠ 10 ∧ op ≠ 11 ∧ op ≠ 24 ∧ op ≠ 27 ∧ op ≠ 30 ∧ op ≠ 37 ∧ op ≠ 38 ∧ op ≠ 39 ∧ op ≠ 40) => wbySet_no tx xa xn xc pa pb op h s va wl.length vc w
  by_cases h20 : op = 20
  · subst h20
    have hN2 : N = onceF (P.flatMap (kidL ts len)) := (Option.some.inj hN).symm
    subst hN2
    exact .inr ⟨hBy (by decide), fun w1 hb => (wkin_20 tx xa xn xc pa pb s u P w1 bl len nb vv ts (hs.r.below hb) (hF.below hb) hR hin hpos hn).mono fun e w2 h => StepPost.next h (Nat.le_trans hBs hb.size)⟩
  by_cases h21 : op = 21
  · subst h21
    have hN2 : N = onceF (P.flatMap (conL ts len)) := (Option.some.inj hN).symm
    subst hN2
    exact .inr ⟨hBy (by decide), fun w1 hb => (wkin_21 tx xa xn xc pa pb s u P w1 bl len nb vv ts (hs.r.below hb) (hF.below hb) hR hin hpos hn).mono fun e w2 h => StepPost.next h (Nat.le_trans hBs hb.size)⟩
  by_cases h22 : op = 22
  · subst h22
    have hN2 : N = onceF (P.flatMap (fun x => (parEl ts x).toList)) := (Option.some.inj hN).symm
    subst hN2
    exact .inr ⟨hBy (by decide), fun w1 hb => (wkin_22 tx xa xn xc pa pb s u P w1 bl len nb vv ts (hs.r.below hb) (hF.below hb) hR hin hpos hn).mono fun e w2 h => StepPost.next h (Nat.le_trans hBs hb.size)⟩
  by_cases h23 : op = 23
  · subst h23
    have hN2 : N = onceF (P.flatMap (ancL ts)) := (Option.some.inj hN).symm
    subst hN2
    exact .inr ⟨hBy (by decide), fun w1 hb => (wkin_23 tx xa xn xc pa pb s u P w1 bl len nb vv ts (hs.r.below hb) (hF.below hb) hR hin hpos hn).mono fun e w2 h => StepPost.next h (Nat.le_trans hBs hb.size)⟩
  by_cases h25 : op = 25
  · subst h25
    have hN2 : N = onceF (P.flatMap (fun x => (nextL ts len x).take 1)) := (Option.some.inj hN).symm
    subst hN2
    exact .inr ⟨hBy (by decide), fun w1 hb => (wkin_25 tx xa xn xc pa pb s u P w1 bl len nb vv ts (hs.r.below hb) (hF.below hb) hR hin hpos hn).mono fun e w2 h => StepPost.next h (Nat.le_trans hBs hb.size)⟩
  by_cases h26 : op = 26
  · subst h26
    have hN2 : N = onceF (P.flatMap (nextL ts len)) := (Option.some.inj hN).symm
    subst hN2
    exact .inr ⟨hBy (by decide), fun w1 hb => (wkin_26 tx xa xn xc pa pb s u P w1 bl len nb vv ts (hs.r.below hb) (hF.below hb) hR hin hpos hn).mono fun e w2 h => StepPost.next h (Nat.le_trans hBs hb.size)⟩
  by_cases h28 : op = 28
  · subst h28
    have hN2 : N = onceF (P.flatMap (fun x => (prevL ts x).take 1)) := (Option.some.inj hN).symm
    subst hN2
    exact .inr ⟨hBy (by decide), fun w1 hb => (wkin_28 tx xa xn xc pa pb s u P w1 bl len nb vv ts (hs.r.below hb) (hF.below hb) hR hin hpos hn).mono fun e w2 h => StepPost.next h (Nat.le_trans hBs hb.size)⟩
  by_cases h29 : op = 29
  · subst h29
    have hN2 : N = onceF (P.flatMap (prevL ts)) := (Option.some.inj hN).symm
    subst hN2
    exact .inr ⟨hBy (by decide), fun w1 hb => (wkin_29 tx xa xn xc pa pb s u P w1 bl len nb vv ts (hs.r.below hb) (hF.below hb) hR hin hpos hn).mono fun e w2 h => StepPost.next h (Nat.le_trans hBs hb.size)⟩
  by_cases h31 : op = 31
  · subst h31
    have hN2 : N = onceF (P.flatMap (sibL ts len)) := (Option.some.inj hN).symm
    subst hN2
    exact .inr ⟨hBy (by decide), fun w1 hb => (wkin_31 tx xa xn xc pa pb s u P w1 bl len nb vv ts (hs.r.below hb) (hF.below hb) hR hin hpos hn).mono fun e w2 h => StepPost.next h (Nat.le_trans hBs hb.size)⟩
  by_cases h24 : op = 24
  · subst h24
    have hN2 : N = onceF (P.flatMap (fun x => upToL (fun y => decide (y ∈ wl)) (ancL ts x))) := (Option.some.inj hN).symm
    subst hN2
    exact .inl ((wbySet_24 tx xa xn xc pa pb s u P w bl len nb vv ts hs.r hF hR hin hpos hn va vc wl hw hwn hV).mono fun e w2 h => StepPost.next h hBs)
  by_cases h27 : op = 27
  · subst h27
    have hN2 : N = onceF (P.flatMap (fun x => upToL (fun y => decide (y ∈ wl)) (nextL ts len x))) := (Option.some.inj hN).symm
    subst hN2
    exact .inl ((wbySet_27 tx xa xn xc pa pb s u P w bl len nb vv ts hs.r hF hR hin hpos hn va vc wl hw hwn hV).mono fun e w2 h => StepPost.next h hBs)
  by_cases h30 : op = 30
  · subst h30
    have hN2 : N = onceF (P.flatMap (fun x => upToL (fun y => decide (y ∈ wl)) (prevL ts x))) := (Option.some.inj hN).symm
    subst hN2
    exact .inl ((wbySet_30 tx xa xn xc pa pb s u P w bl len nb vv ts hs.r hF hR hin hpos hn va vc wl hw hwn hV).mono fun e w2 h => StepPost.next h hBs)
  by_cases h37 : op = 37
  · subst h37
    have hN2 : N = withAll P wl := (Option.some.inj hN).symm
    subst hN2
    have h := wbySet_37 tx xa xn xc pa pb B s u (P.map nb) (wl.map nb) w hs va vc (by rw [hlW]; exact hV) (by rw [hlW]; exact hVb) halP halW hnP hnW
    rw [hlW, withAll_map hinj wl P hin (fun i hi => (hw i hi).1)] at h
    exact .inl h
  by_cases h38 : op = 38
  · subst h38
    have hN2 : N = withAll P wl := (Option.some.inj hN).symm
    subst hN2
    have h := wbySet_38 tx xa xn xc pa pb B s u (P.map nb) (wl.map nb) w hs va vc (by rw [hlW]; exact hV) (by rw [hlW]; exact hVb) halP halW hnP hnW
    rw [hlW, withAll_map hinj wl P hin (fun i hi => (hw i hi).1)] at h
    exact .inl h
  by_cases h39 : op = 39
  · subst h39
    have hN2 : N = P.filter fun x => decide (x ∈ wl) := (Option.some.inj hN).symm
    subst hN2
    have h := wbySet_39 tx xa xn xc pa pb B s u (P.map nb) (wl.map nb) w hs va vc (by rw [hlW]; exact hV) (by rw [hlW]; exact hVb) halP halW hnP hnW
    rw [hlW, filter_map_in hinj P wl hin (fun i hi => (hw i hi).1)] at h
    exact .inl h
  -- parts
  have hpart : (⟨op, wl, pa, pb⟩ : PickP).part = true := by
    have h1 : 32 ≤ op := by omega
    have h2 : op ≤ 36 := by omega
    simp [PickP.part, h1, h2]
  have hN2 : (partOf ⟨op, wl, pa, pb⟩ P.length).map (cutL P) = some N := by
    unfold relW at hN
    rw [if_pos hpart] at hN
    exact hN
  obtain ⟨⟨f, t⟩, hq, rfl⟩ := Option.map_eq_some_iff.1 hN2
  rw [← cutL_map]
  have hlP : (P.map nb).length = P.length := by rw [List.length_map]
  have hnil : ∀ q, P = [] → cutL (P.map nb) q = [] := fun q h => by subst h; simp [cutL]
  refine .inr ⟨hBy (by omega), fun w1 hb => ?_⟩
  have hs1 := hs.below hb
  have hB1 : B ≤ w1.heap.size := Nat.le_trans hBs hb.size
  by_cases h32 : op = 32
  · subst h32
    obtain ⟨hft, htn, ha, hb2⟩ := part_bounds hq (.inl rfl)
    rw [if_neg (show ¬((32 : Int) = 33) by decide)] at hb2
    simp only at ha hb2
    rw [← hlP] at htn ha hb2
    refine wkin_32 tx xa xn xc pa pb B s _ _ w1 hB1 (fun w2 hb2' => wpart_32 tx xa xn xc pa pb B s _ _ w2 (Nat.le_trans hB1 hb2'.size) (fun w3 hb3 => ?_))
    have hs3 := (hs1.below hb2').below hb3
    refine slicedO B s u (P.map nb) _ _ w3 hs3 hnP pa pb hra hrb f t hft htn ha (.inr hb2) ?_
    rcases hs3.off.2 with hu | ⟨g, off, n, c, hu, _⟩
    · subst hu
      obtain ⟨a0, c0, he, _⟩ := hs3.off.1
      simp at he
      have hPn : P = [] := List.eq_nil_of_length_eq_zero (by have := he.2.1; omega)
      subst hPn
      rw [hnil _ rfl]
      simp at htn ha hb2
      obtain rfl : pa = 0 := by omega
      exact sliceN B s w3 hs3 pb (.inr (by omega)) _
    · subst hu
      obtain ⟨a0, c0, he, _⟩ := hs3.off.1
      simp at he
      obtain ⟨_, rfl, _⟩ := he
      rw [← hlP] at hs3 ⊢
      exact sliceO B s g off c (P.map nb) w3 hs3 hnP pa pb hra hrb f t hft htn ha (.inr hb2)
  by_cases h33 : op = 33
  · subst h33
    obtain ⟨hft, htn, ha, hb2⟩ := part_bounds hq (.inr rfl)
    rw [if_pos (show (33 : Int) = 33 from rfl)] at hb2
    simp only at ha hb2
    rw [← hlP] at htn ha hb2
    refine wkin_33 tx xa xn xc pa pb B s _ _ w1 hB1 (fun w2 hb2' => wpart_33 tx xa xn xc pa pb B s _ _ w2 (Nat.le_trans hB1 hb2'.size) (fun w3 hb3 => ?_))
    have hs3 := (hs1.below hb2').below hb3
    refine slicedO B s u (P.map nb) _ _ w3 hs3 hnP pa 9223372036854775807 hra (by omega) f t hft htn ha (.inl ⟨rfl, hb2⟩) ?_
    rcases hs3.off.2 with hu | ⟨g, off, n, c, hu, _⟩
    · subst hu
      obtain ⟨a0, c0, he, _⟩ := hs3.off.1
      simp at he
      have hPn : P = [] := List.eq_nil_of_length_eq_zero (by have := he.2.1; omega)
      subst hPn
      rw [hnil _ rfl]
      simp at htn ha hb2
      obtain rfl : pa = 0 := by omega
      exact sliceN B s w3 hs3 9223372036854775807 (.inl rfl) _
    · subst hu
      obtain ⟨a0, c0, he, _⟩ := hs3.off.1
      simp at he
      obtain ⟨_, rfl, _⟩ := he
      rw [← hlP] at hs3 ⊢
      exact sliceO B s g off c (P.map nb) w3 hs3 hnP pa 9223372036854775807 hra (by omega) f t hft htn ha (.inl ⟨rfl, hb2⟩)
  by_cases h34 : op = 34
  · subst h34
    have hq2 : (0, min P.length 1) = (f, t) := Option.some.inj hq
    simp only [Prod.mk.injEq] at hq2
    obtain ⟨rfl, rfl⟩ := hq2
    refine wkin_34 tx xa xn xc pa pb B s _ _ w1 hB1 (fun w2 hb2' => wpart_34 tx xa xn xc pa pb B s _ _ w2 (Nat.le_trans hB1 hb2'.size) (fun w3 hb3 => firstO s B _ _ w3 ?_))
    have hs3 := (hs1.below hb2').below hb3
    by_cases hr : 0 < P.length
    · rcases hs3.off.2 with hu | ⟨g, off, n, c, hu, _⟩
      · subst hu
        obtain ⟨a0, c0, he, _⟩ := hs3.off.1
        simp at he
        have hPn : P.length = 0 := by have := he.2.1; omega
        exfalso; omega
      · subst hu
        obtain ⟨a0, c0, he, _⟩ := hs3.off.1
        simp at he
        obtain ⟨_, rfl, _⟩ := he
        rw [← hlP] at hs3
        have h := eqO B s g off c (P.map nb) w3 hs3 hnP 0 (by omega) 0 (by rw [hlP]; omega) (by rw [hlP]; omega)
        have e1 : (0, 0 + 1) = (0, min P.length 1) := (by rw [(show min P.length 1 = 1 by omega)])
        rw [e1] at h
        exact h
    · have h := eqOut B s u (P.map nb) w3 hs3 hnP 0 (by omega) (by rw [hlP]; omega) u.ownBlock
      have e1 : cutL (P.map nb) (0, min P.length 1) = [] := hnil _ (List.eq_nil_of_length_eq_zero (by omega))
      rw [e1]
      exact h
  by_cases h35 : op = 35
  · subst h35
    have hq2 : (P.length - 1, P.length) = (f, t) := Option.some.inj hq
    simp only [Prod.mk.injEq] at hq2
    obtain ⟨rfl, rfl⟩ := hq2
    refine wkin_35 tx xa xn xc pa pb B s _ _ w1 hB1 (fun w2 hb2' => wpart_35 tx xa xn xc pa pb B s _ _ w2 (Nat.le_trans hB1 hb2'.size) (fun w3 hb3 => lastO s B _ _ w3 ?_))
    have hs3 := (hs1.below hb2').below hb3
    by_cases hr : 0 < P.length
    · rcases hs3.off.2 with hu | ⟨g, off, n, c, hu, _⟩
      · subst hu
        obtain ⟨a0, c0, he, _⟩ := hs3.off.1
        simp at he
        have hPn : P.length = 0 := by have := he.2.1; omega
        exfalso; omega
      · subst hu
        obtain ⟨a0, c0, he, _⟩ := hs3.off.1
        simp at he
        obtain ⟨_, rfl, _⟩ := he
        rw [← hlP] at hs3
        have h := eqO B s g off c (P.map nb) w3 hs3 hnP (-1) (by omega) (P.length - 1) (by rw [hlP]; omega) (by rw [hlP]; omega)
        have e1 : ((P.length - 1), (P.length - 1) + 1) = (P.length - 1, P.length) := (by rw [(show P.length - 1 + 1 = P.length by omega)])
        rw [e1] at h
        exact h
    · have h := eqOut B s u (P.map nb) w3 hs3 hnP (-1) (by omega) (by rw [hlP]; omega) u.ownBlock
      have e1 : cutL (P.map nb) (P.length - 1, P.length) = [] := hnil _ (List.eq_nil_of_length_eq_zero (by omega))
      rw [e1]
      exact h
  obtain rfl : op = 36 := by omega
  have hq2 := hq
  unfold partOf at hq2
  rw [if_neg (show ¬((36 : Int) = 34) by decide), if_neg (show ¬((36 : Int) = 35) by decide), if_pos (show (36 : Int) = 36 from rfl)] at hq2
  simp only [] at hq2
  obtain ⟨f0, hf0⟩ : ∃ f0 : Int, (if pa < 0 then pa + (P.length : Int) else pa) = f0 := ⟨_, rfl⟩
  rw [hf0] at hq2
  refine wkin_36 tx xa xn xc pa pb B s _ _ w1 hB1 (fun w2 hb2' => wpart_36 tx xa xn xc pa pb B s _ _ w2 (Nat.le_trans hB1 hb2'.size) (fun w3 hb3 => ?_))
  have hs3 := (hs1.below hb2').below hb3
  by_cases hbad : f0 < 0 ∨ (P.length : Int) ≤ f0
  · rw [if_pos hbad] at hq2
    simp only [Option.some.injEq, Prod.mk.injEq] at hq2
    obtain ⟨rfl, rfl⟩ := hq2
    have h := eqOut B s u (P.map nb) w3 hs3 hnP pa hra (by rw [hlP]; split at hf0 <;> omega) u.ownBlock
    have e1 : cutL (P.map nb) (0, 0) = [] := by simp [cutL]
    rw [e1]
    exact h
  · rw [if_neg hbad] at hq2
    simp only [Option.some.injEq, Prod.mk.injEq] at hq2
    obtain ⟨rfl, rfl⟩ := hq2
    rcases hs3.off.2 with hu | ⟨g, off, n, c, hu, _⟩
    · subst hu
      obtain ⟨a0, c0, he, _⟩ := hs3.off.1
      simp at he
      have hPn : P.length = 0 := by have := he.2.1; omega
      exfalso; omega
    · subst hu
      obtain ⟨a0, c0, he, _⟩ := hs3.off.1
      simp at he
      obtain ⟨_, rfl, _⟩ := he
      rw [← hlP] at hs3 ⊢
      exact eqO B s g off c (P.map nb) w3 hs3 hnP pa hra f0.toNat (by rw [hlP]; omega) (by rw [hlP]; split at hf0 <;> omega)

end Go.Proofs.YtphppdbhofeagaaGreat

