/- impl.Walked at a step to relatives and AddBack; laws.goes7. -/
import Derived.Test.YtphppdbhofeagaaGreatStepAll
import Derived.Test.YtphppdbhofeagaaGreatPlacesOf
import Derived.Test.YtphppdbhofeagaaGreatChosen
namespace Go.Proofs.YtphppdbhofeagaaGreat
open Go.RowKit
set_option linter.unusedVariables false
set_option linter.unusedSimpArgs false

theorem Tryz.infoInts : (Tryz.prog.info? 23).map (fun i => (i.zero, i.size, i.bytes)) = some (some (.slice none 0 0), 1, 24) := by kernel_rfl

/-- A pick in memory. -/
def PickAt (w : World) (b o : Nat) (op : Int) : Prop := w.cell? ⟨b, o, none⟩ = some (.int .i64 op) ∧ w.cell? ⟨b, o + 1, none⟩ = some (.string ⟨#[]⟩) ∧ w.cell? ⟨b, o + 2, none⟩ = some (.slice none 0 0) ∧ w.cell? ⟨b, o + 3, none⟩ = some (.int .i64 0) ∧ w.cell? ⟨b, o + 4, none⟩ = some (.int .i64 0)

theorem PickAt.below {w w' : World} {b o : Nat} {op : Int} (h : PickAt w b o op) (hb : Below w.heap.size w w') : PickAt w' b o op :=
  ⟨cell_below hb h.1, cell_below hb h.2.1, cell_below hb h.2.2.1, cell_below hb h.2.2.2.1, cell_below hb h.2.2.2.2⟩

/-- What a step to relatives does. -/
def KinOf (op : Int) (F : Nat → List Nat) (ts : List NodeD) (len : Nat) : Prop :=
  (∀ (s : Nat) (a : Option Addr) (n c : Nat) (w : World), Calls Tryz.prog 27 #[.pointer (some ⟨s, 0, none⟩), .agg #[.int .i64 op, .string ⟨#[]⟩, .slice none 0 0, .int .i64 0, .int .i64 0], .slice a n c] w (fun e w' => e = .returned (.pointer none) ∧ Below w.heap.size w w')) ∧
  ∀ (B B' s : Nat) (v : Value) (l : List Nat) (w : World) (bl : Nat) (nb : Nat → Nat) (vv : Nat → Value), SelAt w s v (l.map nb) B → Forest B' w bl len nb vv ts → (∀ i ∈ l, i < len) → (∀ i ∈ l, 0 < i) → l.length ≤ 200 →
    Calls Tryz.prog 28 #[.pointer (some ⟨s, 0, none⟩), .agg #[.int .i64 op, .string ⟨#[]⟩, .slice none 0 0, .int .i64 0, .int .i64 0]] w (StepPost s ((onceF (l.flatMap F)).map nb) w)

/-- Behind the first step. -/
structure Mid1 (wk w1 wr : World) (K : List Nat) (nb : Nat → Nat) (s s1 : Nat) (u : Value) (gs cs : Nat) (v0 : Value) : Prop where
  ha : Below w1.heap.size w1 wk
  sel : SelAt wr s1 u (K.map nb) wk.heap.size
  prev : wr.cell? ⟨s1, 2, none⟩ = some (.pointer (some ⟨s, 0, none⟩))
  ne : u.ownBlock ≠ some s1
  bel : Below wk.heap.size wk wr
  row : wr.ownsRow wk.heap.size 23 1 (.slice (some ⟨gs, 0, none⟩) 1 cs) 1 [v0]
  own : u.ownBlock ≠ some gs

/-- Two sets of places, the second one as said. -/
def WalkPost (K : List Nat) (W : World) (e : Ending) (w' : World) : Prop := ∃ g c v, e = .returned (.tuple #[.slice (some ⟨g, 0, none⟩) 2 c, .bool true]) ∧ w'.cell? ⟨g, 1, none⟩ = some v ∧ Hid (ReadsAs w' v (K.map intV)) ∧ Hid (Below W.heap.size W w')

set_option maxRecDepth 100000 in
set_option maxHeartbeats 8000000 in
theorem walked_any (op : Int) (F : Nat → List Nat) (W : World) (a : Option Addr) (len cap : Nat) (ts : List NodeD) (hR : RightT ts len) (hN : Nodes W a len ts) (v1 : Value) (l : List Nat) (r1 : ReadsAs W v1 (l.map intV))
    (i1 : ∀ i ∈ l, i < len) (o1 : Once l) (n1 : l.length ≤ 200) (hpos : ∀ i ∈ l, 0 < i) (hgood : ∀ x ∈ l, GoodL len (F x)) (hkin : KinOf op F ts len) (pb pc : Nat) (hp0 : PickAt W pb 0 op) (hp1 : PickAt W pb 5 40) :
    Calls Tryz.prog 15 #[.slice a len cap, v1, .slice (some ⟨pb, 0, none⟩) 2 pc] W (WalkPost (withAll (onceF (l.flatMap F)) l) W) := by
  have hlen := hR.le
  have hch := chosen_any W a len cap ts hR hN v1 l r1 i1 o1 n1
  obtain ⟨K, hK⟩ : ∃ K, onceF (l.flatMap F) = K := ⟨_, rfl⟩
  have hKm : ∀ i ∈ K, i < len := fun i hi => flat_lt hgood i (by rw [hK]; exact hi)
  have hKo : Once K := by rw [← hK]; exact onceF_once _
  have hKn : K.length ≤ 200 := Nat.le_trans (once_le hKo hKm) hlen
  have hkin1 := hkin.1
  have hkin2 := hkin.2
  rw [hK]
  have HK := Lib.hid (And.intro hKm (And.intro hKo hK))
  have HI := Lib.hid (And.intro i1 (And.intro hpos o1))
  have HCH := Lib.hid hch
  have HK1 := Lib.hid hkin1
  have HK2 := Lib.hid hkin2
  have HP := Lib.hid (And.intro hp0 hp1)
  clear hR hN hch r1 i1 o1 hK hKm hKo hgood hpos hkin hkin1 hkin2 hp0 hp1
  obtain ⟨i0, hi, hz0, hz1, hz2⟩ := info_parts Tryz.infoInts
  go_enter Tryz.func15, Tryz.ntmps15
  go_wp2_with fail
  refine HCH.out.mono ?_
  rintro e w1 ⟨bl, nb, vv, s, v, rfl, hF, hs, hb⟩
  have hF1 := hF.out
  have hs1 := hs.out
  have hb1 := hb.out
  have HF := Lib.hid hF1
  have HS := Lib.hid hs1
  have HB := Lib.hid hb1
  have HP1 := Lib.hid (And.intro (HP.out.1.below hb1) (HP.out.2.below hb1))
  clear hF hs hb hF1 hs1 hb1 HCH
  go_wp2
  go_loopw [6, 8, 27] (fun st sv iv wr => (iv = .int .i64 0 ∧ wr = w1 ∧ st = .slice none 0 0 ∧ sv = .pointer (some ⟨s, 0, none⟩)) ∨
    (iv = .int .i64 1 ∧ ∃ wk s1 u gs cs v0, st = .slice (some ⟨gs, 0, none⟩) 1 cs ∧ sv = .pointer (some ⟨s1, 0, none⟩) ∧ Hid (Mid1 wk w1 wr K nb s s1 u gs cs v0)) ∨
    (iv = .int .i64 2 ∧ ∃ gs cs v2 s2, st = .slice (some ⟨gs, 0, none⟩) 2 cs ∧ sv = .pointer (some ⟨s2, 0, none⟩) ∧ wr.cell? ⟨gs, 1, none⟩ = some v2 ∧ Hid (ReadsAs wr v2 ((withAll K l).map intV)) ∧ Hid (Below W.heap.size W wr))) (fun _ _ iv _ => 2 - (intOf iv).toNat)
  case atStart => exact .inl ⟨rfl, rfl, rfl, rfl⟩
  case round =>
    rcases hrel with ⟨rfl, rfl, rfl, rfl⟩ | ⟨rfl, wk, s1, u, gs, cs, v0, rfl, rfl, hm⟩ | ⟨rfl, gs, cs, v2, s2, rfl, rfl, hc, hr, hbf⟩
    · obtain ⟨⟨p0, p1, p2, p3, p4⟩, _⟩ := HP1.out
      have hbp : Below wr.heap.size wr (wr.alloc (.cells #[.int .i64 op, .string ⟨#[]⟩, .slice none 0 0, .int .i64 0, .int .i64 0] 27)) := (Below.refl _ _).alloc (Nat.le_refl _) _
      have hx : ∀ i u, (#[.int .i64 op, .string ⟨#[]⟩, .slice none 0 0, .int .i64 0, .int .i64 0] : Array Value)[i]? = some u → (wr.alloc (.cells #[.int .i64 op, .string ⟨#[]⟩, .slice none 0 0, .int .i64 0, .int .i64 0] 27)).cell? ⟨wr.heap.size, i, none⟩ = some u := fun i u h => cell_alloc_new' _ _ _ rfl h
      obtain ⟨wp, hwp⟩ : ∃ wp, wr.alloc (.cells #[.int .i64 op, .string ⟨#[]⟩, .slice none 0 0, .int .i64 0, .int .i64 0] 27) = wp := ⟨_, rfl⟩
      rw [hwp] at hbp hx
      have x0 := hx 0 _ rfl
      have x1 := hx 1 _ rfl
      have x2 := hx 2 _ rfl
      have x3 := hx 3 _ rfl
      have x4 := hx 4 _ rfl
      have hth := these_any bl len len nb (.slice none 0 0) [] wp (fun i hi => cell_below hbp (HF.out.cell hi)) hlen ⟨none, 0, rfl, Nat.le_refl _, Nat.zero_le _, rfl, Nat.zero_le _, fun h => absurd h (Nat.lt_irrefl 0)⟩ (by simp) (by simp)
      have HTH := Lib.hid hth
      have HWP := Lib.hid (And.intro hwp hbp)
      clear hth hwp hx hbp
      go_wp2_with fail
      rw [HWP.out.1]
      refine HTH.out.mono ?_
      rintro e w2 ⟨vw, rfl, how, hb2⟩
      obtain ⟨wa, wc, hvw, _⟩ := how.out.ptrs.nil
      simp only [List.map_nil, List.length_nil] at hvw
      subst hvw
      have y0 := cell_below hb2.out x0
      have y1 := cell_below hb2.out x1
      have y2 := cell_below hb2.out x2
      have y3 := cell_below hb2.out x3
      have y4 := cell_below hb2.out x4
      clear how HTH p0 p1 p2 p3 p4 x0 x1 x2 x3 x4
      go_wp2_with fail
      refine (HK1.out s wa 0 wc w2).mono ?_
      rintro e w3 ⟨rfl, hb3⟩
      have hb13 : Below wr.heap.size wr w3 := (HWP.out.2.trans (hb2.out.mono HWP.out.2.size)).trans (hb3.mono (by have := HWP.out.2.size; have := hb2.out.size; omega))
      have z0 := cell_below hb3 y0
      have z1 := cell_below hb3 y1
      have z2 := cell_below hb3 y2
      have z3 := cell_below hb3 y3
      have z4 := cell_below hb3 y4
      clear y0 y1 y2 y3 y4
      have hk := HK2.out _ _ s v l w3 bl nb vv (HS.out.below hb13) (HF.out.below hb13) HI.out.1 HI.out.2.1 n1
      have HK3 := Lib.hid hk
      have HB13 := Lib.hid hb13
      clear hb2 hb3 hb13 hk HWP
      go_wp2_with fail
      refine HK3.out.mono ?_
      rintro e w4 ⟨s1, u, rfl, hs4, hp4, hn4, hb4⟩
      rw [HK.out.2.2] at hs4
      have c0 := hs4.out.nodes
      have hF4 := (HF.out.below HB13.out).below hb4.out
      have hpl := placesOf_any w4 bl len len nb vv ts hF4 hlen u K hs4.out.own.ptrs HK.out.1 hKn
      have HPL := Lib.hid hpl
      have HS4 := Lib.hid (And.intro hs4.out (And.intro hp4 (And.intro hn4.out hb4.out)))
      obtain ⟨ua, uc, hu, _⟩ := hs4.out.own.ptrs.nil
      rw [List.length_map] at hu
      subst hu
      clear hF4 hpl hs4 hp4 hn4 hb4 HK3 z0 z1 z2 z3 z4
      rw [List.length_map] at HPL
      go_wp2_with fail
      refine HPL.out.mono ?_
      rintro e w5 ⟨v0, rfl, ho5, hb5⟩
      obtain ⟨va, vc, hv0, _⟩ := ho5.out.reads.nil
      rw [List.length_map] at hv0
      subst hv0
      have hs5 : w3.heap.size ≤ w5.heap.size := Nat.le_trans HS4.out.2.2.2.size hb5.out.size
      have hnews : ∀ j u, [Value.slice va K.length vc][j]? = some u → (w5.alloc (.cells #[.slice va K.length vc] 23)).cell? ((⟨w5.heap.size, 0, none⟩ : Addr).add j) = some u := by
        intro j u hj
        match j, hj with
        | 0, hj => simp at hj; subst hj; simp [Addr.add]
      have hnil : (w5.alloc (.cells #[.slice va K.length vc] 23)).ownsRow w3.heap.size 23 1 (.slice none 0 0) 0 [] := World.ownsRow_nil _ _ _ _
      have HN5 := Lib.hid (And.intro hnews hnil)
      have HB5 := Lib.hid hb5.out
      clear hnews hnil hb5 ho5 HPL
      go_wp2_with (at_builtin; refine wpList_append_lies _ rfl _ _ 36 rfl w3.heap.size 23 i0 (.slice none 0 0) 1 24 Tryz.underlying36 hi hz0 hz1 hz2 rfl (by decide) _ _ _ rfl HN5.out.2 ⟨w5.heap.size, 0, none⟩ 1 1 [.slice va K.length vc] rfl rfl HN5.out.1 (by intro u hu; simp at hu; subst hu; rfl) (by omega) (by unfold maxLen; omega) (by omega) (by simp; omega) _ rfl ?_)
      intro g cap w6 hown6 hgrow6 hat6 hlt6
      have hb36 : Below w3.heap.size w3 w6 := by
        have h1 : Below w3.heap.size w3 w5 := HS4.out.2.2.2.trans (HB5.out.mono HS4.out.2.2.2.size)
        exact (h1.alloc hs5 _).grown hgrow6 (by simp; omega) (fun q hq => by simp [Value.ownBlock] at hq)
      have hb46 : Below w4.heap.size w4 w6 := (HB5.out.alloc HB5.out.size _).grown hgrow6 (by have := HB5.out.size; simp; omega) (fun q hq => by simp [Value.ownBlock] at hq)
      have hgnew : w4.heap.size ≤ g := by
        rcases hat6 with h | h
        · simp [Value.ownBlock] at h
        · have := HB5.out.size
          omega
      have hmid : Mid1 w3 wr w6 K nb s s1 (.slice ua K.length uc) g cap (.slice va K.length vc) := by
        have h4 := HS4.out
        rw [List.length_map] at h4
        exact ⟨HB13.out, h4.1.below hb46, cell_below hb46 h4.2.1, h4.2.2.1, hb36, by simpa using hown6, fun e => by
          have := (World.ownsRow.lt h4.1.own _ e).2
          omega⟩
      have HM := Lib.hid hmid
      clear hb36 hb46 hgnew hmid hown6 hgrow6 hat6 hlt6 HN5 HB5 HS4
      go_wp2
      go_roundw
      case rel => exact .inr (.inl ⟨rfl, w3, s1, _, g, cap, _, rfl, rfl, HM⟩)
      case measure => simp [intOf]
    · have hbw : Below w1.heap.size w1 wr := hm.out.ha.trans (hm.out.bel.mono hm.out.ha.size)
      obtain ⟨p0, p1, p2, p3, p4⟩ := HP1.out.2.below hbw
      have hbp : Below wr.heap.size wr (wr.alloc (.cells #[.int .i64 40, .string ⟨#[]⟩, .slice none 0 0, .int .i64 0, .int .i64 0] 27)) := (Below.refl _ _).alloc (Nat.le_refl _) _
      have hx : ∀ i u, (#[.int .i64 40, .string ⟨#[]⟩, .slice none 0 0, .int .i64 0, .int .i64 0] : Array Value)[i]? = some u → (wr.alloc (.cells #[.int .i64 40, .string ⟨#[]⟩, .slice none 0 0, .int .i64 0, .int .i64 0] 27)).cell? ⟨wr.heap.size, i, none⟩ = some u := fun i u h => cell_alloc_new' _ _ _ rfl h
      obtain ⟨wp, hwp⟩ : ∃ wp, wr.alloc (.cells #[.int .i64 40, .string ⟨#[]⟩, .slice none 0 0, .int .i64 0, .int .i64 0] 27) = wp := ⟨_, rfl⟩
      rw [hwp] at hbp hx
      have x0 := hx 0 _ rfl
      have x1 := hx 1 _ rfl
      have x2 := hx 2 _ rfl
      have x3 := hx 3 _ rfl
      have x4 := hx 4 _ rfl
      have hbwp : Below w1.heap.size w1 wp := hbw.trans (hbp.mono hbw.size)
      have hth := these_any bl len len nb (.slice none 0 0) [] wp (fun i hi => cell_below hbwp (HF.out.cell hi)) hlen ⟨none, 0, rfl, Nat.le_refl _, Nat.zero_le _, rfl, Nat.zero_le _, fun h => absurd h (Nat.lt_irrefl 0)⟩ (by simp) (by simp)
      have HTH := Lib.hid hth
      have HWP := Lib.hid (And.intro hwp (And.intro hbp (And.intro hbw hbwp)))
      clear hth hwp hx hbp hbw hbwp
      go_wp2_with fail
      rw [HWP.out.1]
      refine HTH.out.mono ?_
      rintro e w2 ⟨vw, rfl, how, hb2⟩
      obtain ⟨wa, wc, hvw, _⟩ := how.out.ptrs.nil
      simp only [List.map_nil, List.length_nil] at hvw
      subst hvw
      have y0 := cell_below hb2.out x0
      have y1 := cell_below hb2.out x1
      have y2 := cell_below hb2.out x2
      have y3 := cell_below hb2.out x3
      have y4 := cell_below hb2.out x4
      have hbr2 : Below wr.heap.size wr w2 := HWP.out.2.1.trans (hb2.out.mono HWP.out.2.1.size)
      have hb12 : Below w1.heap.size w1 w2 := HWP.out.2.2.1.trans (hbr2.mono HWP.out.2.2.1.size)
      have hF2 := HF.out.below hb12
      have hinj : ∀ i j, i < len → j < len → nb i = nb j → i = j := fun i j hi hj he => HF.out.seg.inj i j (Nat.zero_le _) hi (Nat.zero_le _) hj he
      have hwm : withAll (K.map nb) (l.map nb) = (withAll K l).map nb := withAll_map hinj l K HK.out.1 HI.out.1
      have hlo : ∀ i, i < len → nb i < wk.heap.size ∧ Alive w2 (nb i) := fun i hi => ⟨Nat.lt_of_lt_of_le (HF.out.node hi).alive.lt hm.out.ha.size, (hF2.node hi).alive⟩
      have hset := bySet_40 wk.heap.size s s1 u v (K.map nb) (l.map nb) W.heap.size wa 0 wc w2 (hm.out.sel.below hbr2) hm.out.ne (cell_below hbr2 hm.out.prev) (HS.out.below hb12)
        (Nat.lt_of_lt_of_le (World.block_lt_of_cell? _ _ HS.out.nodes) hm.out.ha.size)
        (fun b off c h => Nat.lt_of_lt_of_le (World.ownsRow.lt HS.out.own b (by rw [h]; rfl)).2 hm.out.ha.size)
        (fun q hq => by obtain ⟨i, hi, rfl⟩ := List.mem_map.1 hq; exact hlo i (HK.out.1 i hi))
        (fun q hq => by obtain ⟨i, hi, rfl⟩ := List.mem_map.1 hq; exact hlo i (HI.out.1 i hi))
        (by rw [List.length_map, List.length_map]; omega)
      rw [hwm] at hset
      obtain ⟨M, hM⟩ : ∃ M, withAll K l = M := ⟨_, rfl⟩
      have hMl : ∀ i ∈ M, i < len := fun i hi => by
        rw [← hM] at hi
        rcases withAll_mem hi with h | h
        · exact HK.out.1 i h
        · exact HI.out.1 i h
      have hMn : M.length ≤ 200 := by
        have h1 : M = onceF (l.flatMap F ++ l) := by rw [once_withAll, HK.out.2.2, hM]
        exact Nat.le_trans (once_le (by rw [h1]; exact onceF_once _) hMl) hlen
      rw [hM] at hset
      have HSET := Lib.hid hset
      have HMM := Lib.hid (And.intro hM (And.intro hMl hbr2))
      have HM2 := hm
      clear how HTH p0 p1 p2 p3 p4 x0 x1 x2 x3 x4 hm hset hM hMl hbr2 hb12 hF2 hinj hwm hlo
      go_wp2_with fail
      refine HSET.out.mono ?_
      rintro e w3 ⟨s2, u2, rfl, hs3, hb3, hk3⟩
      have c0 := hs3.out.nodes
      have hbk2 : Below wk.heap.size wk w2 := HM2.out.bel.trans (HMM.out.2.2.mono HM2.out.bel.size)
      have hbk3 : Below wk.heap.size wk w3 := hbk2.trans hb3.out
      have hb13 : Below w1.heap.size w1 w3 := HM2.out.ha.trans (hbk3.mono HM2.out.ha.size)
      have hrow3 : w3.ownsRow wk.heap.size 23 1 (.slice (some ⟨gs, 0, none⟩) 1 cs) 1 [v0] := ownsRow_kept HM2.out.row (fun q hq => by
        simp [Value.ownBlock] at hq
        subst hq
        have hlt := (World.ownsRow.lt HM2.out.row gs rfl).2
        rw [hk3.out.block gs (Nat.lt_of_lt_of_le hlt HMM.out.2.2.size) HM2.out.own, HMM.out.2.2.block gs hlt])
      have hpl := placesOf_any w3 bl len len nb vv ts (HF.out.below hb13) hlen u2 M hs3.out.own.ptrs HMM.out.2.1 hMn
      obtain ⟨ua, uc, hu, _⟩ := hs3.out.own.ptrs.nil
      rw [List.length_map, List.length_map] at hu
      subst hu
      have HPL := Lib.hid hpl
      have H3 := Lib.hid (And.intro hrow3 (And.intro hbk3 HM2.out.ha))
      clear hs3 hb3 hk3 hbk2 hbk3 hb13 hrow3 hpl HSET HM2 y0 y1 y2 y3 y4
      go_wp2_with fail
      refine HPL.out.mono ?_
      rintro e w5 ⟨v5, rfl, ho5, hb5⟩
      obtain ⟨va, vc, hv0, _⟩ := ho5.out.reads.nil
      rw [List.length_map] at hv0
      subst hv0
      have hnews : ∀ j u, [Value.slice va M.length vc][j]? = some u → (w5.alloc (.cells #[.slice va M.length vc] 23)).cell? ((⟨w5.heap.size, 0, none⟩ : Addr).add j) = some u := by
        intro j u hj
        match j, hj with
        | 0, hj => simp at hj; subst hj; simp [Addr.add]
      have hrow5 : w5.ownsRow wk.heap.size 23 1 (.slice (some ⟨gs, 0, none⟩) 1 cs) 1 [v0] := ownsRow_kept H3.out.1 (fun q hq => hb5.out.block q (World.ownsRow.lt H3.out.1 q hq).2)
      have hs5 : wk.heap.size ≤ w5.heap.size := Nat.le_trans H3.out.2.1.size hb5.out.size
      have HN5 := Lib.hid (And.intro hnews (And.intro (hrow5.alloc (.cells #[.slice va M.length vc] 23)) ho5.out))
      have HB5 := Lib.hid hb5.out
      clear hnews hb5 ho5 HPL hrow5
      go_wp2_with (at_builtin; refine wpList_append_lies _ rfl _ _ 36 rfl wk.heap.size 23 i0 (.slice none 0 0) 1 24 Tryz.underlying36 hi hz0 hz1 hz2 rfl (by decide) _ _ _ rfl HN5.out.2.1 ⟨w5.heap.size, 0, none⟩ 1 1 [.slice va M.length vc] rfl rfl HN5.out.1 (by intro u hu; simp at hu; subst hu; rfl) (by omega) (by unfold maxLen; omega) (by omega) (by simp; omega) _ rfl ?_)
      intro g cap w6 hown6 hgrow6 hat6 hlt6
      have hbk6 : Below wk.heap.size wk w6 := by
        have h1 : Below wk.heap.size wk w5 := H3.out.2.1.trans (HB5.out.mono H3.out.2.1.size)
        exact (h1.alloc hs5 _).grown hgrow6 (by simp; omega) (fun q hq => (World.ownsRow.lt HN5.out.2.1 q hq).1)
      have hc6 : w6.cell? ⟨g, 1, none⟩ = some (.slice va M.length vc) := by
        have h := owns_reads (l := [v0, .slice va M.length vc]) (v := .slice (some ⟨g, 0, none⟩) 2 cap) (by simpa using hown6)
        obtain ⟨b9, off9, cap9, he9, _, hcl⟩ := h.at (by simp)
        simp at he9
        obtain ⟨⟨rfl, rfl⟩, rfl⟩ := he9
        exact hcl 1 (by simp)
      have hrd6 : ReadsAs w6 (.slice va M.length vc) (M.map intV) := by
        have h1 : OwnPl w6 w3.heap.size (.slice va M.length vc) M := ownsRow_kept HN5.out.2.2 (fun q hq => by
          have h2 := World.ownsRow.lt HN5.out.2.2 q hq
          have h3 := (World.ownsRow.lt H3.out.1 gs rfl).2
          rw [hgrow6.block q (by simp; omega) (fun e => by simp [Value.ownBlock] at e; omega)]
          exact ((Below.refl w5.heap.size w5).alloc (Nat.le_refl _) _).block q h2.2)
        exact h1.reads
      have hfin : Below W.heap.size W w6 := HB.out.trans ((H3.out.2.2.trans (hbk6.mono H3.out.2.2.size)).mono HB.out.size)
      have HE := Lib.hid (And.intro hc6 (And.intro hrd6 hfin))
      clear hc6 hrd6 hfin hbk6 hown6 hgrow6 hat6 hlt6 HN5 HB5 H3
      go_wp2
      go_roundw
      case rel => exact .inr (.inr ⟨rfl, g, cap, _, s2, rfl, rfl, HE.out.1, Lib.hid (by rw [HMM.out.1]; exact HE.out.2.1), Lib.hid HE.out.2.2⟩)
      case measure => simp [intOf]
    · go_wp2
      go_ret2
      exact ⟨gs, cs, v2, rfl, hc, hr, hbf⟩

def GoesPost (K : List Nat) (W : World) (e : Ending) (w' : World) : Prop := ∃ v, e = .returned (.tuple #[v, .bool true]) ∧ Hid (ReadsAs w' v (K.map intV)) ∧ Hid (Below W.heap.size W w')

set_option maxRecDepth 100000 in
set_option maxHeartbeats 2000000 in
theorem goes_of (K : List Nat) (W : World) (ta : Option Addr) (len cap : Nat) (v1 : Value) (pb pc : Nat) (h : Calls Tryz.prog 15 #[.slice ta len cap, v1, .slice (some ⟨pb, 0, none⟩) 2 pc] W (WalkPost K W)) :
    Calls Tryz.prog 9 #[.slice ta len cap, v1, .slice (some ⟨pb, 0, none⟩) 2 pc] W (GoesPost K W) := by
  have H := Lib.hid h
  clear h
  go_enter Tryz.func9, Tryz.ntmps9
  go_wp2_with fail
  refine H.out.mono ?_
  rintro e w1 ⟨g, c, v, rfl, hc, hr, hb⟩
  go_wp2
  go_ret2
  exact ⟨v, rfl, hr, hb⟩

end Go.Proofs.YtphppdbhofeagaaGreat
