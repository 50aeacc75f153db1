/- impl.Changed at steps of classes. -/
import Derived.Test.YtkdomegcacgpnaaGreatMarks
import Derived.Deep.RegionHeld3
namespace Go.Proofs.YtkdomegcacgpnaaGreat
open Go.RowKit
set_option linter.unusedVariables false
set_option linter.unusedSimpArgs false

theorem NearC.refl (l : KVs) (h : DistKV l) : NearC l l := ⟨fun x hx _ => look_mem h hx, fun x hx _ => look_mem h hx⟩

theorem NearC.trans {l l2 l3 : KVs} (h : NearC l l2) (h2 : NearC l2 l3) : NearC l l3 := by
  refine ⟨fun x hx hn => ?_, fun x hx hn => ?_⟩
  · obtain ⟨y, hy, e1, e2⟩ := look_eq (h.1 x hx hn)
    rw [← look_key e1, ← e2]
    exact h2.1 y hy (by rw [e1]; exact hn)
  · obtain ⟨y, hy, e1, e2⟩ := look_eq (h2.2 x hx hn)
    rw [← look_key e1, ← e2]
    exact h.2 y hy (by rw [e1]; exact hn)

/-- Labels of which some have turned their class, by any step. -/
def LabN (f : Wds → Wds) (m s : Nat) (lab lab' : Nat → NodeD) (l : List Nat) : Prop :=
  ∀ i, (i ∉ l → lab' i = lab i) ∧ (i ∈ l → ∃ A, lab' i = { lab i with attrs := A } ∧ GoodC A (f (Wc (lab i).attrs)) m s ∧ NearC (lab i).attrs A)

theorem LabN.start {m s : Nat} {lab : Nat → NodeD} {l : List Nat} (h : ∀ x ∈ l, GoodC (lab x).attrs (Wc (lab x).attrs) m s) : LabN (fun W => W) m s lab lab l :=
  fun i => ⟨fun _ => rfl, fun hi => ⟨(lab i).attrs, rfl, h i hi, NearC.refl _ (h i hi).dist⟩⟩

theorem LabN.good {f : Wds → Wds} {m s : Nat} {lab lab' : Nat → NodeD} {l : List Nat} (h : LabN f m s lab lab' l) {x : Nat} (hx : x ∈ l) : (lab' x).kind = (lab x).kind ∧ GoodC (lab' x).attrs (Wc (lab' x).attrs) m s := by
  obtain ⟨A, h1, h2, h3⟩ := (h x).2 hx
  rw [h1]
  refine ⟨rfl, ?_⟩
  have e : Wc A = f (Wc (lab x).attrs) := h2.words
  show GoodC A (Wc A) m s
  rw [e]
  exact h2

theorem LabN.step {f : Wds → Wds} {m s m' s' : Nat} {lab lab1 lab2 : Nat → NodeD} {l : List Nat} {op : Wds → Wds → Wds} {N : Wds} (h : LabN f m s lab lab1 l) (h2 : LabC op N m' s' lab1 lab2 l) : LabN (fun W => op (f W) N) m' s' lab lab2 l := by
  intro i
  refine ⟨fun hi => ((h2 i).1 hi).trans ((h i).1 hi), fun hi => ?_⟩
  obtain ⟨A, a1, a2, a3⟩ := (h i).2 hi
  obtain ⟨A2, b1, b2, b3⟩ := (h2 i).2 hi
  rw [a1] at b1 b2 b3
  have e : Wc A = f (Wc (lab i).attrs) := a2.words
  refine ⟨A2, b1, ?_, a3.trans b3⟩
  have b4 : GoodC A2 (op (Wc A) N) m' s' := b2
  rwa [e] at b4

/-- What steps do to the words of a class. -/
def opsF (os : List Int) (N W : Wds) : Wds := os.foldl (fun W o => clsOp o W N) W

theorem opsF_snoc (os : List Int) (o : Int) (N W : Wds) : opsF (os ++ [o]) N W = clsOp o (opsF os N W) N := by
  unfold opsF
  rw [List.foldl_append]
  rfl

/-- Steps of classes in memory: one selection, one list of names. -/
structure StepsC (w : World) (a : Option Addr) (os : List Int) (ov : Value) (la : Option Addr) (ln lc : Nat) : Prop where
  cells : 0 < os.length → ∃ b off, a = some ⟨b, off, none⟩ ∧ ∀ i, i < os.length → w.cell? ⟨b, off + i * 6, none⟩ = some (.int .i64 (os.getD i 0)) ∧ w.cell? ⟨b, off + i * 6 + 1, none⟩ = some ov ∧ w.cell? ⟨b, off + i * 6 + 2, none⟩ = some (.slice none 0 0) ∧ w.cell? ⟨b, off + i * 6 + 3, none⟩ = some (.string ⟨#[]⟩) ∧ w.cell? ⟨b, off + i * 6 + 4, none⟩ = some (.string ⟨#[]⟩) ∧ w.cell? ⟨b, off + i * 6 + 5, none⟩ = some (.slice la ln lc)

theorem nil_reads (w : World) : ReadsAs w (.slice none 0 0) (([] : List Nat).map intV) := ⟨none, 0, rfl, Nat.le_refl _, Nat.zero_le _, rfl, Nat.zero_le _, fun h => absurd h (Nat.lt_irrefl _)⟩

def ChangedCPost (os : List Int) (N : Wds) (m s : Nat) (lab : Nat → NodeD) (l : List Nat) (C : List (Nat × Nat)) (W : World) (e : Ending) (w' : World) : Prop :=
  ∃ tv pv lab', e = .returned (.tuple #[tv, pv, .bool true]) ∧ Hid (OutAt w' W.heap.size tv lab' C) ∧ Hid (LabN (opsF os N) m s lab lab' l) ∧ Hid (Below W.heap.size W w')

theorem take_snoc' {l : List Int} {k : Nat} (h : k < l.length) : l.take (k + 1) = l.take k ++ [l.getD k 0] := by
  rw [List.take_add_one, List.getD_eq_getElem?_getD, List.getElem?_eq_getElem h]
  rfl

theorem DomAt.alive {B : Nat} {w : World} {n : Nat} {nb : Nat → Nat} {v : Nat → Value} {lab : Nat → NodeD} {F : Wd} (h : DomAt B w n nb v lab F) {l : List Nat} (hin : ∀ i ∈ l, i < n) : ∀ i, i < (l.map nb).length → Alive w ((l.map nb).getD i 0) := fun i hi => by
  have hi' : i < l.length := by simpa using hi
  have e1 : (l.map nb).getD i 0 = nb (l.getD i 0) := by simp only [List.getD_eq_getElem?_getD, List.getElem?_map, List.getElem?_eq_getElem hi', Option.map_some, Option.getD_some]
  rw [e1]
  exact (h.node _ (hin _ (getD_mem' hi'))).alive

theorem DomAt.once {B : Nat} {w : World} {n : Nat} {nb : Nat → Nat} {v : Nat → Value} {lab : Nat → NodeD} {F : Wd} (h : DomAt B w n nb v lab F) {l : List Nat} (hin : ∀ i ∈ l, i < n) (hon : Once l) : Once (l.map nb) := fun i j hi hj he => by
  have hi' : i < l.length := by simpa using hi
  have hj' : j < l.length := by simpa using hj
  have e1 : ∀ k, k < l.length → (l.map nb).getD k 0 = nb (l.getD k 0) := fun k hk => by simp only [List.getD_eq_getElem?_getD, List.getElem?_map, List.getElem?_eq_getElem hk, Option.map_some, Option.getD_some]
  rw [e1 i hi', e1 j hj'] at he
  exact hon i j hi' hj' (h.inj _ _ (hin _ (getD_mem' hi')) (hin _ (getD_mem' hj')) he)

theorem own_ptrs2 {w : World} {B : Nat} {g cap : Nat} {nb : Nat → Nat} {l : List Nat} (h : w.ownsRow B 75 1 (.slice (some ⟨g, 0, none⟩) l.length cap) l.length (l.map fun y => ptrV (nb y))) : ∀ i, i < l.length → w.cell? ⟨g, i, none⟩ = some (.pointer (some ⟨nb (l.getD i 0), 0, none⟩)) := fun i hi => by
  have := World.ownsRow.cells (h := h) (g := g) rfl i (ptrV (nb (l.getD i 0))) (by simp [List.getD, hi])
  have hadd : (⟨g, 0, none⟩ : Addr).add i = ⟨g, 0 + i, none⟩ := by unfold Addr.add; split <;> simp_all
  rw [hadd, Nat.zero_add] at this
  exact this

/-- The loop's round so far. -/
structure ChgMid (os : List Int) (N : Wds) (m s : Nat) (W : World) (g bl n s0 d : Nat) (p : Value) (nb : Nat → Nat) (lab : Nat → NodeD) (F : Wd) (l : List Nat) (k : Nat) (w : World) : Prop where
  ex : ∃ v' lab', ChgAt W w g bl n s0 d p nb v' lab' F ∧ LabN (opsF (os.take k) N) (m + k) (s + k * 1100000000000) lab lab' l

set_option maxRecDepth 100000 in
set_option maxHeartbeats 4000000 in
theorem changedC_any (W : World) (a : Option Addr) (len cap : Nat) (ts : List NodeD) (hR : RightT ts len) (hN : Nodes W a len ts) (sa : Option Addr) (scap : Nat) (os : List Int) (ov : Value) (l : List Nat) (h : ReadsAs W ov (l.map intV)) (hin : ∀ i ∈ l, i < len) (hon : Once l) (hn : l.length ≤ 200) (hel : ∀ i ∈ l, (ts.getD i default).kind = 3)
    (la : Option Addr) (xs : List ByteArray) (lc : Nat) (hx : NamesAt W la xs lc) (hst : StepsC W sa os ov la xs.length lc) (hos : os.length ≤ 2) (hops : ∀ o ∈ os, o = 14 ∨ o = 15 ∨ o = 16) (m s : Nat) (hm : m ≤ 48) (hs : s ≤ 300000000000) (hgood : ∀ x ∈ l, GoodC (ts.getD x default).attrs (Wc (ts.getD x default).attrs) m s) (C : List (Nat × Nat)) (hC : Fs (wd0 (sz ts) len).kids [0] C) :
    Calls Tryz.prog 8 #[.slice a len cap, .slice sa os.length scap] W (ChangedCPost os (xs.map (·.data.toList)) (m + os.length) (s + os.length * 1100000000000) (fun i => ts.getD i default) l C W) := by
  have hlen := hR.le
  have hpos := hR.pos
  have hbeg := begun2_any W a len cap ts hR hN
  have HBEG := Lib.hid hbeg
  have HR := Lib.hid hR
  have HL := Lib.hid (And.intro hin (And.intro hon (And.intro hn hel)))
  have HV := Lib.hid h
  have HX := Lib.hid hx
  have HST := Lib.hid hst
  have HOPS := Lib.hid hops
  have HG := Lib.hid hgood
  have HC := Lib.hid hC
  have HF := Lib.hid (wd0_ok hR.nest)
  have HKO := Lib.hid (show ∀ i, i < len → KindOk (ts.getD i default) from fun i hi => (hR.node i hi).kindOk)
  clear hbeg hR hN h hin hon hn hel hx hst hops hgood hC
  obtain ⟨va, vn, vc, rfl⟩ : ∃ va vn vc, ov = .slice va vn vc := by
    obtain ⟨x1, x2, x3, _⟩ := HV.out
    exact ⟨x1, _, x2, x3⟩
  go_enter Tryz.func8, Tryz.ntmps8
  go_wp2_with fail
  refine HBEG.out.mono ?_
  rintro e w1 ⟨g, bl, nb, vv, s0, d, p, rfl, hch⟩
  clear HBEG
  go_wp2
  go_loopw [25] (fun iv wr => ∃ i : Nat, iv = .int .i64 (i : Int) ∧ i ≤ os.length ∧ Hid (ChgMid os (xs.map (·.data.toList)) m s W g bl len s0 d p nb (fun i => ts.getD i default) (wd0 (sz ts) len) l i wr)) (fun iv _ => os.length - (intOf iv).toNat)
  case atStart => exact ⟨0, by go_num, by omega, Lib.hid ⟨vv, _, hch.out, by
    have := LabN.start HG.out
    simpa [show opsF [] (xs.map (·.data.toList)) = (fun W => W) from rfl] using this⟩⟩
  case round =>
    clear hch
    obtain ⟨i, rfl, hi, hmid⟩ := hrel
    obtain ⟨v', lab', hch, hlab⟩ := hmid.out.ex
    have o0 := hch.obj.cell (i := 0) (v := .slice (some ⟨bl, 0, none⟩) len len) rfl
    have o1 := hch.obj.cell (i := 1) (v := .pointer (some ⟨s0, 0, none⟩)) rfl
    by_cases hlt : i < os.length
    · obtain ⟨b, off, rfl, hcc⟩ := HST.out.cells (by omega)
      obtain ⟨q0, q1, q2, q3, q4, q5⟩ := hcc i hlt
      have q0 := cell_below hch.bel q0
      have q1 := cell_below hch.bel q1
      have q2 := cell_below hch.bel q2
      have q3 := cell_below hch.bel q3
      have q4 := cell_below hch.bel q4
      have q5 := cell_below hch.bel q5
      have ho := HOPS.out _ (getD_mem' (d := 0) hlt)
      obtain ⟨o, hoe⟩ : ∃ o, os.getD i 0 = o := ⟨_, rfl⟩
      rw [hoe] at q0 ho
      have HOE := Lib.hid hoe
      have HO := Lib.hid ho
      have HLAB := Lib.hid hlab
      have hiI : (i : Int) < (os.length : Int) := by omega
      have hb0 : Below wr.heap.size wr (wr.alloc (.cells #[.int .i64 o, .slice va vn vc, .slice none 0 0, .string ⟨#[]⟩, .string ⟨#[]⟩, .slice la xs.length lc] 28)) := (Below.refl _ _).alloc (Nat.le_refl _) _
      have hobj : World.objAt (wr.alloc (.cells #[.int .i64 o, .slice va vn vc, .slice none 0 0, .string ⟨#[]⟩, .string ⟨#[]⟩, .slice la xs.length lc] 28)) wr.heap.size #[.int .i64 o, .slice va vn vc, .slice none 0 0, .string ⟨#[]⟩, .string ⟨#[]⟩, .slice la xs.length lc] 28 := objAt_alloc_new wr _ _
      obtain ⟨w0, hw0⟩ : ∃ w0, wr.alloc (.cells #[.int .i64 o, .slice va vn vc, .slice none 0 0, .string ⟨#[]⟩, .string ⟨#[]⟩, .slice la xs.length lc] 28) = w0 := ⟨_, rfl⟩
      rw [hw0] at hb0 hobj
      have HCH := Lib.hid (hch.below hb0)
      have HOBJ := Lib.hid hobj
      have p0 := cell_below hb0 o0
      have p1 := cell_below hb0 o1
      have r0 := hobj.cell (i := 0) (v := .int .i64 o) rfl
      have r1 := hobj.cell (i := 1) (v := .slice va vn vc) rfl
      have r2 := hobj.cell (i := 2) (v := .slice none 0 0) rfl
      obtain ⟨q, hq⟩ : ∃ q, wr.heap.size = q := ⟨_, rfl⟩
      rw [hq] at hobj r0 r1 r2
      have hbd : Below w0.heap.size w0 w0.drew := (Below.refl _ _).drew
      have hth := these_any bl len len nb (.slice va vn vc) l w0.drew (fun i hi => cell_below hbd (HCH.out.cell i hi)) hlen (HV.out.below (HCH.out.bel.drew)) HL.out.1 HL.out.2.2.1
      have HTH := Lib.hid hth
      have p0d := cell_below hbd p0
      have r1d := cell_below hbd r1
      have HQ := Lib.hid hq
      have HQO := Lib.hid hobj
      clear hth hcc hch hlab hmid hoe ho hb0 hobj
      go_wp2
      go_region_held3 (fun w' => Below w0.heap.size w0 w' ∧ w'.cell? ⟨g, 0, none⟩ = some (.slice (some ⟨bl, 0, none⟩) len len) ∧ w'.cell? ⟨q, 1, none⟩ = some (.slice va vn vc)) (first | exact ⟨hbd.trans (hb8.out.mono hbd.size), cell_below hb8.out p0d, cell_below hb8.out r1d⟩ | exact ⟨hbd, p0d, r1d⟩) (first | (go_at_call 17; refine HTH.out.mono ?_; rintro e w8 ⟨sv, rfl, hsv, hb8⟩))
      have hb08 : Below w0.heap.size w0 w8 := hbd.trans (hb8.out.mono hbd.size)
      have t0 := cell_below hb08 p0
      have t2 := cell_below hb08 r2
      have hbe : Below w8.heap.size w8 w8.drew := (Below.refl _ _).drew
      have HCH8 := Lib.hid (HCH.out.below hb08)
      have hth2 := these_any bl len len nb (.slice none 0 0) [] w8.drew (fun i hi => cell_below hbe (HCH8.out.cell i hi)) hlen (nil_reads _) (fun i hi => by simp at hi) (by simp)
      have HTH2 := Lib.hid hth2
      have t0d := cell_below hbe t0
      have t2d := cell_below hbe t2
      have HSV := Lib.hid (OwnPtrs.ptrs hsv.out)
      have HB08 := Lib.hid hb08
      clear hth2 hb08 p0d r1d hbd hsv hb8 HTH
      go_wp2
      go_region_held3 (fun w' => Below w8.heap.size w8 w' ∧ w'.cell? ⟨g, 0, none⟩ = some (.slice (some ⟨bl, 0, none⟩) len len) ∧ w'.cell? ⟨q, 2, none⟩ = some (.slice none 0 0)) (first | exact ⟨hbe.trans (hb9.out.mono hbe.size), cell_below hb9.out t0d, cell_below hb9.out t2d⟩ | exact ⟨hbe, t0d, t2d⟩) (first | (go_at_call 17; refine HTH2.out.mono ?_; rintro e w9 ⟨wv, rfl, hwv, hb9⟩))
      have hb89 : Below w8.heap.size w8 w9 := hbe.trans (hb9.out.mono hbe.size)
      have HCH9 := Lib.hid (HCH8.out.below hb89)
      have HQ9 := Lib.hid ((HQO.out.below HB08.out HQO.out.lt).below hb89 (HQO.out.below HB08.out HQO.out.lt).lt)
      have z1 := HCH9.out.obj.cell (i := 1) (v := .pointer (some ⟨s0, 0, none⟩)) rfl
      have hadd := addNodes_any s0 d sv (l.map nb) w9 (HCH9.out.sel.cell (i := 0) (v := .slice none 0 0) rfl) (HCH9.out.sel.cell (i := 1) (v := .pointer (some ⟨d, 0, none⟩)) rfl) (HSV.out.below hb89) (HCH9.out.dom.alive HL.out.1) (HCH9.out.dom.once HL.out.1 HL.out.2.1) (by simpa using HL.out.2.2.1)
      have HADD := Lib.hid hadd
      obtain ⟨xv, xn, xc, rfl⟩ : ∃ xv xn xc, wv = .slice xv xn xc := by
        obtain ⟨x1, x2, x3, _⟩ := OwnPtrs.ptrs hwv.out
        exact ⟨x1, _, x2, x3⟩
      clear hadd hbe hb9 hwv HTH2 t0d t2d t0 t2 p0 p1 r0 r1 r2 HSV hb89
      go_wp2_with fail
      refine HADD.out.mono ?_
      rintro e w10 ⟨s3, v3, rfl, hs3, hb10⟩
      have HCH10 := Lib.hid (HCH9.out.below hb10.out)
      have HQ10 := Lib.hid (HQ9.out.below hb10.out HQ9.out.lt)
      have hown := hs3.out.own
      have c0 := hs3.out.nodes
      unfold OwnPtrs at hown
      rw [List.length_map, List.map_map] at hown
      obtain ⟨ga, gcap, rfl⟩ := ownsRow_slice hown
      obtain ⟨sg, hsg⟩ : ∃ sg, 0 < l.length → ga = some ⟨sg, 0, none⟩ := by
        rcases hown.2 with ⟨_, h2⟩ | ⟨g0, c0_, cur, hv, _⟩
        · exact ⟨0, fun h => by omega⟩
        · simp at hv; exact ⟨g0, fun _ => hv.1⟩
      have hsel : SelEl w10 s3 W.heap.size len nb v' lab' (wd0 (sz ts) len) l ga sg gcap := by
        refine ⟨HCH10.out.dom, HL.out.1, HL.out.2.1, HL.out.2.2.1, hsg, c0, fun i hi => ?_, fun h0 i hi => ?_⟩
        · obtain rfl := hsg (by omega)
          exact own_ptrs2 hown i hi
        · obtain rfl := hsg h0
          have h1 := (HCH9.out.dom.node i hi).lt
          have h2 := (World.ownsRow.lt hown sg rfl).1
          exact ⟨by omega, fun hb => own_ne_own (HCH10.out.dom.own i hi) hown (by decide) hb rfl⟩
      have hil : i ≤ 1 := by omega
      have hmk := marks_any hsel hpos (m + i) (s + i * 1100000000000) (by omega) (by omega) (fun x hx => by
        obtain ⟨g1, g2⟩ := HLAB.out.good hx
        exact ⟨g1.trans (HL.out.2.2.2 x hx), g2⟩) la xs lc (HX.out.below HCH10.out.bel) o HO.out (.slice va vn vc) (.slice none 0 0) ⟨#[]⟩ ⟨#[]⟩ ⟨_, _, _, rfl⟩ ⟨_, _, _, rfl⟩
      have HMK := Lib.hid hmk
      have y0 := HQ10.out.cell (i := 0) (v := .int .i64 o) rfl
      have y1 := HQ10.out.cell (i := 1) (v := .slice va vn vc) rfl
      have y2 := HQ10.out.cell (i := 2) (v := .slice none 0 0) rfl
      have y3 := HQ10.out.cell (i := 3) (v := .string ⟨#[]⟩) rfl
      have y4 := HQ10.out.cell (i := 4) (v := .string ⟨#[]⟩) rfl
      have y5 := HQ10.out.cell (i := 5) (v := .slice la xs.length lc) rfl
      clear hmk hsel hsg hown c0 hs3 hb10 HADD z1
      go_wp2_with fail
      refine HMK.out.mono ?_
      rintro e w11 ⟨rfl, v2, lab2, h1, h2, h3⟩
      have hnew := HCH10.out.turn h3.out h1.out
      have hl2 := HLAB.out.step h2.out
      rw [← HOE.out, show (fun Wd => clsOp (os.getD i 0) (opsF (os.take i) (xs.map (·.data.toList)) Wd) (xs.map (·.data.toList))) = opsF (os.take (i + 1)) (xs.map (·.data.toList)) from funext fun Wd => by rw [← opsF_snoc, ← take_snoc' (by omega)], show m + i + 1 = m + (i + 1) by omega, show s + i * 1100000000000 + 1100000000000 = s + (i + 1) * 1100000000000 by omega] at hl2
      have HNEW := Lib.hid (ChgMid.mk (os := os) (k := i + 1) ⟨v2, lab2, hnew, hl2⟩)
      clear hnew hl2 h1 h2 h3 HMK y0 y1 y2 y3 y4 y5
      go_wp2
      refine ⟨?rel, ?measure⟩
      case rel => exact ⟨i + 1, by go_num, by omega, HNEW⟩
      case measure => simp [intOf]; omega
    · obtain rfl : i = os.length := by omega
      rw [List.take_length] at hlab
      have hord : (C.map (·.1)).Nodup ∧ (∀ y ∈ C, y.1 < len) ∧ C.length ≤ len := by
        obtain ⟨C', h1, h2, h3, h4⟩ := HF.out.sized hpos
        rw [HC.out.det h1]
        exact ⟨h2, h3, h4⟩
      obtain ⟨z1, z2, z3⟩ := hord
      have hok : ∀ i, i < len → KindOk (lab' i) := fun i hi => by
        by_cases e : i ∈ l
        · obtain ⟨A, h1, h2, _⟩ := (hlab i).2 e
          have h3 := HKO.out i hi
          rw [h1]
          exact ⟨h3.kinds, fun hk => absurd (HL.out.2.2.2 i e) hk, by have := h2.len; show A.length ≤ 100; omega, h3.txt⟩
        · rw [(hlab i).1 e]
          exact HKO.out i hi
      have hends := ends_anyK hch.dom HF.out hok hpos hlen g bl o0 (fun i hi => hch.cell i hi) C HC.out z1 z2 (by omega)
      have HE := Lib.hid hends
      have HB2 := Lib.hid hch.bel
      have HLB := Lib.hid hlab
      clear hends hch hok z1 z2 z3 hmid hlab
      go_wp2_with fail
      refine HE.out.mono ?_
      rintro e w3 ⟨tv, pv, rfl, hot, hz, hb3⟩
      have hbs := HB2.out.size
      have HB3 := Lib.hid (HB2.out.trans (hb3.out.mono hbs))
      have HOT := Lib.hid (hot.out.base hbs)
      clear hot hz hb3 HE
      go_wp2
      go_ret3
      exact ⟨_, _, _, rfl, HOT, HLB, HB3⟩

end Go.Proofs.YtkdomegcacgpnaaGreat
