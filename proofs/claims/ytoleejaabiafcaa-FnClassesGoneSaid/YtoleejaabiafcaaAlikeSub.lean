/- The reference's AlikeTrees: the same nodes, their attributes in any order, none of them class. -/
import Derived.Test.YtoleejaabiafcaaAs7All
import Derived.Deep.RegionHeld3
namespace Go.Proofs.Ytoleejaabiafcaa
open Go.RowKit
set_option linter.unusedVariables false
set_option linter.unusedSimpArgs false

/-- The same node, its attributes the same, or in any order without class. -/
structure AlikeN (m n : NodeD) : Prop where
  kind : m.kind = n.kind
  tag : m.tag = n.tag
  text : m.text = n.text
  size : m.size = n.size
  or : (m.attrs = n.attrs ∧ DistKV m.attrs ∧ (∀ x ∈ m.attrs, x.2.size ≤ 4000) ∧ m.attrs.length ≤ 100) ∨ ((∀ x ∈ m.attrs, lookKV n.attrs x.1 = some x.2) ∧ (∀ x ∈ n.attrs, lookKV m.attrs x.1 = some x.2) ∧ (∀ x ∈ m.attrs, (x.1.toList == [99, 108, 97, 115, 115]) = false) ∧ ∀ x ∈ n.attrs, (x.1.toList == [99, 108, 97, 115, 115]) = false)

set_option maxRecDepth 100000 in
set_option maxHeartbeats 4000000 in
theorem withinSub_any (k1 z1 : Int) (tag1 text1 : ByteArray) (aa1 : Option Addr) (al1 ac1 : Nat) (k2 z2 : Int) (tag2 text2 : ByteArray) (aa2 : Option Addr) (al2 ac2 : Nat) (l l2 : KVs) (w : World) (h1 : AttrsAt w aa1 al1 l) (h2 : AttrsAt w aa2 al2 l2) (hd : ∀ x ∈ l, lookKV l2 x.1 = some x.2) (hv : ∀ x ∈ l, (x.1.toList == [99, 108, 97, 115, 115]) = false) :
    Calls Try.prog 71 #[.agg #[.int .i64 k1, .string tag1, .string text1, .slice aa1 al1 ac1, .int .i64 z1], .agg #[.int .i64 k2, .string tag2, .string text2, .slice aa2 al2 ac2, .int .i64 z2]] w (YesB w) := by
  obtain ⟨W0, hW0⟩ : ∃ W0, (w.alloc (.cells #[.int .i64 k1, .string tag1, .string text1, .slice aa1 al1 ac1, .int .i64 z1] 39)).alloc (.cells #[.int .i64 k2, .string tag2, .string text2, .slice aa2 al2 ac2, .int .i64 z2] 39) = W0 := ⟨_, rfl⟩
  have hb0 : Below w.heap.size w W0 := by rw [← hW0]; exact ((Below.refl _ _).alloc (Nat.le_refl _) _).alloc (by simp) _
  have o1 : World.objAt W0 w.heap.size #[.int .i64 k1, .string tag1, .string text1, .slice aa1 al1 ac1, .int .i64 z1] 39 := by rw [← hW0]; exact World.objAt.below (B := w.heap.size + 1) (objAt_alloc_new w _ _) ((Below.refl _ _).alloc (by simp) _) (by omega)
  have o2 : World.objAt W0 (w.heap.size + 1) #[.int .i64 k2, .string tag2, .string text2, .slice aa2 al2 ac2, .int .i64 z2] 39 := by rw [← hW0]; have := objAt_alloc_new (w.alloc (.cells #[.int .i64 k1, .string tag1, .string text1, .slice aa1 al1 ac1, .int .i64 z1] 39)) #[.int .i64 k2, .string tag2, .string text2, .slice aa2 al2 ac2, .int .i64 z2] 39; rwa [World.size_alloc] at this
  have q13 : W0.cell? ⟨w.heap.size, 3, none⟩ = some (.slice aa1 al1 ac1) := o1.cell (i := 3) rfl
  have q20 : W0.cell? ⟨w.heap.size + 1, 0, none⟩ = some (.int .i64 k2) := o2.cell (i := 0) rfl
  have q21 : W0.cell? ⟨w.heap.size + 1, 1, none⟩ = some (.string tag2) := o2.cell (i := 1) rfl
  have q22 : W0.cell? ⟨w.heap.size + 1, 2, none⟩ = some (.string text2) := o2.cell (i := 2) rfl
  have q23 : W0.cell? ⟨w.heap.size + 1, 3, none⟩ = some (.slice aa2 al2 ac2) := o2.cell (i := 3) rfl
  have q24 : W0.cell? ⟨w.heap.size + 1, 4, none⟩ = some (.int .i64 z2) := o2.cell (i := 4) rfl
  have hal1 : l.length = al1 := h1.1
  have hlm : al1 ≤ 9223372036854775807 := h1.2.1
  have H1 := Lib.hid (h1.below hb0)
  have H2 := Lib.hid (h2.below hb0)
  have HQ := Lib.hid (And.intro q13 (And.intro q20 (And.intro q21 (And.intro q22 (And.intro q23 q24)))))
  have HB0 := Lib.hid hb0
  have HDV := Lib.hid (And.intro hd hv)
  have hs0 : W0.heap.size = w.heap.size + 2 := by rw [← hW0]; simp
  clear h1 h2 hd hv hb0 o1 o2 q20 q21 q22 q23 q24
  subst hal1
  go_enter Try.func71, Try.ntmps71
  go_wp2
  go_loopw [5] (fun i wr => ∃ k : Nat, k ≤ l.length ∧ i = .int .i64 (k : Int) ∧ Hid (Below W0.heap.size W0 wr)) (fun i _ => l.length - (intOf i).toNat)
  case atStart => exact ⟨0, by omega, by go_num, Lib.hid (by first | exact Below.refl _ _ | (rw [hW0]; exact Below.refl _ _))⟩
  case round =>
    obtain ⟨k, hk, rfl, HB⟩ := hrel
    clear q13
    have q13 := cell_below HB.out HQ.out.1
    by_cases hlt : k < l.length
    · obtain ⟨_, _, _, hcc⟩ := H1.out
      obtain ⟨b, off, rfl, hc⟩ := hcc (by omega)
      obtain ⟨c1, c2⟩ := hc k hlt
      have c1 := cell_below HB.out c1
      have c2 := cell_below HB.out c2
      have hmem : l.getD k default ∈ l := by rw [List.getD_eq_getElem?_getD, List.getElem?_eq_getElem hlt]; exact List.getElem_mem _
      have hlook := HDV.out.1 _ hmem
      have hq := HDV.out.2 _ hmem
      obtain ⟨x, hxx⟩ : ∃ x, (l.getD k default).1 = x := ⟨_, rfl⟩
      obtain ⟨y, hyy⟩ : ∃ y, (l.getD k default).2 = y := ⟨_, rfl⟩
      rw [hxx] at c1 hlook hq
      rw [hyy] at c2 hlook
      have hkI : (k : Int) < (l.length : Int) := by omega
      have HLK := Lib.hid hlook
      have hbs := HB.out.size
      obtain ⟨X, hX⟩ : ∃ X, wr.alloc (.cells #[.string x, .string y] 86) = X := ⟨_, rfl⟩
      have hbX : Below wr.heap.size wr X := by rw [← hX]; exact (Below.refl _ _).alloc (Nat.le_refl _) _
      have hbX0 : Below W0.heap.size W0 X := HB.out.trans (hbX.mono hbs)
      have p0 : X.cell? ⟨wr.heap.size, 0, none⟩ = some (.string x) := by rw [← hX]; exact cell_alloc_new' _ _ _ rfl rfl
      have p1 : X.cell? ⟨wr.heap.size, 1, none⟩ = some (.string y) := by rw [← hX]; exact cell_alloc_new' _ _ _ rfl rfl
      have p20 := cell_below hbX0 HQ.out.2.1
      have p21 := cell_below hbX0 HQ.out.2.2.1
      have p22 := cell_below hbX0 HQ.out.2.2.2.1
      have p23 := cell_below hbX0 HQ.out.2.2.2.2.1
      have p24 := cell_below hbX0 HQ.out.2.2.2.2.2
      have HX := Lib.hid (And.intro hbX0 (H2.out.below hbX0))
      clear hc hcc hmem hxx hyy hlook hbX hbX0
      have HC := Lib.hid (look_any k2 z2 tag2 text2 aa2 al2 ac2 l2 x X HX.out.2)
      go_wp2_with fail
      refine HC.out.mono ?_
      rintro e w2 ⟨rfl, hb2⟩
      rw [HLK.out, Option.getD_some, Option.isSome_some]
      have p1' := cell_below hb2.out p1
      have gy : (y.toList != y.toList) = false := by simp
      have HB2 := Lib.hid (HX.out.1.trans (hb2.out.mono HX.out.1.size))
      clear hb2 HC p0 p1 p20 p21 p22 p23 p24
      go_wp2
      refine ⟨?rel, ?measure⟩
      case rel => exact ⟨k + 1, by omega, by go_num, HB2⟩
      case measure => simp [intOf]; omega
    · obtain rfl : k = l.length := by omega
      go_wp2
      go_ret
      exact ⟨rfl, HB0.out.trans (HB.out.mono (by omega))⟩

set_option maxRecDepth 100000 in
set_option maxHeartbeats 4000000 in
theorem alikeSub_any (a1 a2 : Option Addr) (len c1 c2 : Nat) (ts1 ts2 : List NodeD) (w : World) (h1 : Nodes w a1 len ts1) (h2 : Nodes w a2 len ts2) (hs : ∀ i, i < len → AlikeN (ts1.getD i default) (ts2.getD i default)) :
    Calls Try.prog 45 #[.slice a1 len c1, .slice a2 len c2] w (YesB w) := by
  have hm := h1.len.2
  have gl : ((len : Int) != (len : Int)) = false := by simp
  have H1 := Lib.hid h1
  have H2 := Lib.hid h2
  have HS := Lib.hid hs
  clear h1 h2 hs
  go_enter Try.func45, Try.ntmps45
  go_wp2
  go_loopw [5] (fun i wr => ∃ k : Nat, k ≤ len ∧ i = .int .i64 (k : Int) ∧ Hid (Below w.heap.size w wr)) (fun i _ => len - (intOf i).toNat)
  case atStart => exact ⟨0, by omega, by go_num, Lib.hid (Below.refl _ _)⟩
  case round =>
    obtain ⟨k, hk, rfl, HB⟩ := hrel
    by_cases hlt : k < len
    · obtain ⟨b1, o1, rfl, hc1⟩ := H1.out.at (by omega)
      obtain ⟨b2, o2, rfl, hc2⟩ := H2.out.at (by omega)
      have n1 := (hc1 k hlt).below HB.out
      have n2 := (hc2 k hlt).below HB.out
      obtain ⟨e1, e2, e3, e5, d⟩ := HS.out k hlt
      obtain ⟨m1, hm1⟩ : ∃ m, ts1.getD k default = m := ⟨_, rfl⟩
      obtain ⟨m2, hm2⟩ : ∃ m, ts2.getD k default = m := ⟨_, rfl⟩
      rw [hm1] at n1 e1 e2 e3 e5 d
      rw [hm2] at n2 e1 e2 e3 e5 d
      obtain ⟨k1, g1, x1, aa1, al1, ac1, l1, z1⟩ := m1
      obtain ⟨k2, g2, x2, aa2, al2, ac2, l2, z2⟩ := m2
      simp only at e1 e2 e3 e5 d
      subst e1 e2 e3 e5
      have p0 := n1.kind
      have p1 := n1.tag
      have p2 := n1.text
      have p3 := n1.attrs
      have p4 := n1.size
      have q0 := n2.kind
      have q1 := n2.tag
      have q2 := n2.text
      have q3 := n2.attrs
      have q4 := n2.size
      simp only at p0 p1 p2 p3 p4 q0 q1 q2 q3 q4
      have r1 := n1.at_
      have r2 := n2.at_
      simp only at r1 r2
      have hw1 : ∀ (w' : World), Below wr.heap.size wr w' → Calls Try.prog 71 #[.agg #[.int .i64 k1, .string g1, .string x1, .slice aa1 al1 ac1, .int .i64 z1], .agg #[.int .i64 k1, .string g1, .string x1, .slice aa2 al2 ac2, .int .i64 z1]] w' (YesB w') := fun w' hb => by
        rcases d with ⟨e, d1, d2, d3⟩ | ⟨d1, d2, d3, d4⟩
        · subst e
          exact within_any k1 z1 g1 x1 aa1 al1 ac1 k1 z1 g1 x1 aa2 al2 ac2 l1 w' (r1.below hb) (r2.below hb) d1 d2 d3
        · exact withinSub_any k1 z1 g1 x1 aa1 al1 ac1 k1 z1 g1 x1 aa2 al2 ac2 l1 l2 w' (r1.below hb) (r2.below hb) d1 d3
      have hw2 : ∀ (w' : World), Below wr.heap.size wr w' → Calls Try.prog 71 #[.agg #[.int .i64 k1, .string g1, .string x1, .slice aa2 al2 ac2, .int .i64 z1], .agg #[.int .i64 k1, .string g1, .string x1, .slice aa1 al1 ac1, .int .i64 z1]] w' (YesB w') := fun w' hb => by
        rcases d with ⟨e, d1, d2, d3⟩ | ⟨d1, d2, d3, d4⟩
        · subst e
          exact within_any k1 z1 g1 x1 aa2 al2 ac2 k1 z1 g1 x1 aa1 al1 ac1 l1 w' (r2.below hb) (r1.below hb) d1 d2 d3
        · exact withinSub_any k1 z1 g1 x1 aa2 al2 ac2 k1 z1 g1 x1 aa1 al1 ac1 l2 l1 w' (r2.below hb) (r1.below hb) d2 d4
      have HW := Lib.hid (And.intro hw1 hw2)
      have hkI : (k : Int) < (len : Int) := by omega
      have gk : (k1 != k1) = false := by simp
      have gz : (z1 != z1) = false := by simp
      have gt : (g1.toList != g1.toList) = false := by simp
      have gx : (x1.toList != x1.toList) = false := by simp
      clear n1 n2 hc1 hc2 hm1 hm2 d r1 r2 hw1 hw2
      have hSS : ∀ w', Below wr.heap.size wr w' → (fun w' => Below wr.heap.size wr w' ∧ w'.cell? ⟨b1, o1 + k * 5, none⟩ = some (.int .i64 k1) ∧ w'.cell? ⟨b1, o1 + k * 5 + 1, none⟩ = some (.string g1) ∧ w'.cell? ⟨b1, o1 + k * 5 + 2, none⟩ = some (.string x1) ∧ w'.cell? ⟨b1, o1 + k * 5 + 3, none⟩ = some (.slice aa1 al1 ac1) ∧ w'.cell? ⟨b1, o1 + k * 5 + 4, none⟩ = some (.int .i64 z1) ∧ w'.cell? ⟨b2, o2 + k * 5, none⟩ = some (.int .i64 k1) ∧ w'.cell? ⟨b2, o2 + k * 5 + 1, none⟩ = some (.string g1) ∧ w'.cell? ⟨b2, o2 + k * 5 + 2, none⟩ = some (.string x1) ∧ w'.cell? ⟨b2, o2 + k * 5 + 3, none⟩ = some (.slice aa2 al2 ac2) ∧ w'.cell? ⟨b2, o2 + k * 5 + 4, none⟩ = some (.int .i64 z1)) w' := fun w' hb => ⟨hb, cell_below hb p0, cell_below hb p1, cell_below hb p2, cell_below hb p3, cell_below hb p4, cell_below hb q0, cell_below hb q1, cell_below hb q2, cell_below hb q3, cell_below hb q4⟩
      have HSS := Lib.hid hSS
      clear hSS p0 p1 p2 p3 p4 q0 q1 q2 q3 q4
      have hbd : Below wr.heap.size wr wr.drew := (Below.refl _ _).drew
      have hbY : ∀ w', Below wr.drew.heap.size wr.drew w' → Below wr.heap.size wr w' := fun w' hb => hbd.trans hb
      have hbZ : ∀ {w8 : World} (w' : World), Below w8.heap.size w8 w' → Below wr.heap.size wr w8 → Below wr.heap.size wr w' := fun w' hb h8 => h8.trans (hb.mono h8.size)
      go_wp2
      go_region_held3 (fun w' => Below wr.heap.size wr w' ∧ w'.cell? ⟨b1, o1 + k * 5, none⟩ = some (.int .i64 k1) ∧ w'.cell? ⟨b1, o1 + k * 5 + 1, none⟩ = some (.string g1) ∧ w'.cell? ⟨b1, o1 + k * 5 + 2, none⟩ = some (.string x1) ∧ w'.cell? ⟨b1, o1 + k * 5 + 3, none⟩ = some (.slice aa1 al1 ac1) ∧ w'.cell? ⟨b1, o1 + k * 5 + 4, none⟩ = some (.int .i64 z1) ∧ w'.cell? ⟨b2, o2 + k * 5, none⟩ = some (.int .i64 k1) ∧ w'.cell? ⟨b2, o2 + k * 5 + 1, none⟩ = some (.string g1) ∧ w'.cell? ⟨b2, o2 + k * 5 + 2, none⟩ = some (.string x1) ∧ w'.cell? ⟨b2, o2 + k * 5 + 3, none⟩ = some (.slice aa2 al2 ac2) ∧ w'.cell? ⟨b2, o2 + k * 5 + 4, none⟩ = some (.int .i64 z1)) (first | exact HSS.out _ (hbZ _ hb9 (hbY _ hb8)) | exact HSS.out _ (hbY _ hb8) | exact HSS.out _ hbd) (first | (have h3 := hbY _ hb8; go_at_call 71; refine (HW.out.2 _ h3).mono ?_; rintro e w9 ⟨rfl, hb9⟩) | (go_at_call 71; refine (HW.out.1 _ hbd).mono ?_; rintro e w8 ⟨rfl, hb8⟩))
      all_goals
        have HB9 := Lib.hid (HB.out.trans ((hbZ _ hb9 (hbY _ hb8)).mono HB.out.size))
        go_wp2
        refine ⟨?rel, ?measure⟩
        case rel => exact ⟨k + 1, by omega, by go_num, HB9⟩
        case measure => simp [intOf]; omega
    · obtain rfl : k = len := by omega
      go_wp2
      go_ret
      exact ⟨rfl, HB.out⟩

end Go.Proofs.Ytoleejaabiafcaa
