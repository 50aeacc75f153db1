/- Two slices of the same integers. The reference's AlikeTrees: two lists of the same nodes. laws.as7: the outcome is as the reference's. -/
import Derived.Test.YtoleejaabiafcaaTakenAll
import Derived.Test.YtoleejaabiafcaaOutMore
import Derived.Test.YtoleejaabiafcaaAttrsAll
import Derived.Test.YtoleejaabiafcaaSameN
import Derived.Deep.RegionHeld3
import Derived.Test.YtoleejaabiafcaaSure
namespace Go.Proofs.Ytoleejaabiafcaa
open Go.RowKit
set_option linter.unusedVariables false
set_option linter.unusedSimpArgs false

set_option maxRecDepth 100000 in
set_option maxHeartbeats 1000000 in
theorem sameZ_any (a1 : Option Addr) (c1 : Nat) (a2 : Option Addr) (c2 n : Nat) (l : List Int) (w : World) (h1 : Ints w a1 n l) (h2 : Ints w a2 n l) :
    Calls Try.prog 52 #[.slice a1 n c1, .slice a2 n c2] w (YesB w) := by
  obtain ⟨hl, hm, b1, off1, ha1, hc1⟩ := h1.open
  obtain ⟨_, _, b2, off2, ha2, hc2⟩ := h2.open
  have HA1 := Lib.hid ha1
  have HC1 := Lib.hid hc1
  have HA2 := Lib.hid ha2
  have HC2 := Lib.hid hc2
  clear h1 h2 ha1 ha2 hc1 hc2
  have gl : ((n : Int) != (n : Int)) = false := by simp
  go_enter Try.func52, Try.ntmps52
  go_wp2
  go_loopw [5] (fun i wr => ∃ k : Nat, k ≤ n ∧ i = .int .i64 (k : Int) ∧ Below w.heap.size w wr) (fun i _ => n - (intOf i).toNat)
  case atStart => exact ⟨0, by omega, by go_num, Below.refl _ _⟩
  case round =>
    obtain ⟨k, hk, rfl, hbel⟩ := hrel
    have HBEL := Lib.hid hbel
    clear hbel
    by_cases hlt : k < n
    · obtain rfl := HA1.out (by omega)
      obtain rfl := HA2.out (by omega)
      have ck1 := cell_below HBEL.out (HC1.out k hlt)
      have ck2 := cell_below HBEL.out (HC2.out k hlt)
      obtain ⟨x, hx⟩ : ∃ x, l.getD k 0 = x := ⟨_, rfl⟩
      rw [hx] at ck1 ck2
      have hkI : (k : Int) < (n : Int) := by omega
      have gx : (x != x) = false := by simp
      clear hx
      go_wp2
      go_quiet (fail)
      go_wp2
      go_roundw
      case rel => exact ⟨k + 1, by omega, by go_num, below_drewN HBEL.out _⟩
      case measure => simp [intOf]; omega
    · obtain rfl : k = n := by omega
      go_wp2
      go_ret
      exact ⟨rfl, HBEL.out⟩

end Go.Proofs.Ytoleejaabiafcaa

namespace Go.Proofs.Ytoleejaabiafcaa
open Go.RowKit
set_option linter.unusedVariables false
set_option linter.unusedSimpArgs false

theorem inW_self {ws : List ByteArray} : ∀ {n i : Nat}, i < n → inW ws (ws.getD i ByteArray.empty) n = true := by
  intro n
  induction n with
  | zero => intro i h; omega
  | succ n ih =>
    intro i h
    by_cases e : i = n
    · subst e
      simp [inW]
    · simp only [inW, ih (show i < n by omega), Bool.true_or]

theorem kv_eq {a b : ByteArray} (h : (a.toList == b.toList) = true) : a = b := by
  have h1 := eq_of_beq h
  rw [ByteArray.toList_eq, ByteArray.toList_eq] at h1
  cases a
  cases b
  simp only [Array.toList_inj] at h1
  rw [h1]

theorem kv_cls {x : ByteArray} (h : (x.toList == [99, 108, 97, 115, 115]) = true) : x = ⟨#[99, 108, 97, 115, 115]⟩ := by
  have h1 := eq_of_beq h
  rw [ByteArray.toList_eq] at h1
  cases x with
  | mk d =>
    have h2 : d = #[99, 108, 97, 115, 115] := Array.toList_inj.1 h1
    rw [h2]

set_option maxRecDepth 100000 in
set_option maxHeartbeats 4000000 in
theorem within_any (k1 z1 : Int) (tag1 text1 : ByteArray) (aa1 : Option Addr) (al1 ac1 : Nat) (k2 z2 : Int) (tag2 text2 : ByteArray) (aa2 : Option Addr) (al2 ac2 : Nat) (l : KVs) (w : World) (h1 : AttrsAt w aa1 al1 l) (h2 : AttrsAt w aa2 al2 l) (hd : DistKV l) (hv : ∀ x ∈ l, x.2.size ≤ 4000) (hl : l.length ≤ 100) :
    Calls Try.prog 71 #[.agg #[.int .i64 k1, .string tag1, .string text1, .slice aa1 al1 ac1, .int .i64 z1], .agg #[.int .i64 k2, .string tag2, .string text2, .slice aa2 al2 ac2, .int .i64 z2]] w (YesB w) := by
  obtain ⟨W0, hW0⟩ : ∃ W0, (w.alloc (.cells #[.int .i64 k1, .string tag1, .string text1, .slice aa1 al1 ac1, .int .i64 z1] 39)).alloc (.cells #[.int .i64 k2, .string tag2, .string text2, .slice aa2 al2 ac2, .int .i64 z2] 39) = W0 := ⟨_, rfl⟩
  have hb0 : Below w.heap.size w W0 := by rw [← hW0]; exact ((Below.refl _ _).alloc (Nat.le_refl _) _).alloc (by simp) _
  have o1 : World.objAt W0 w.heap.size #[.int .i64 k1, .string tag1, .string text1, .slice aa1 al1 ac1, .int .i64 z1] 39 := by rw [← hW0]; exact World.objAt.below (B := w.heap.size + 1) (objAt_alloc_new w _ _) ((Below.refl _ _).alloc (by simp) _) (by omega)
  have o2 : World.objAt W0 (w.heap.size + 1) #[.int .i64 k2, .string tag2, .string text2, .slice aa2 al2 ac2, .int .i64 z2] 39 := by rw [← hW0]; have := objAt_alloc_new (w.alloc (.cells #[.int .i64 k1, .string tag1, .string text1, .slice aa1 al1 ac1, .int .i64 z1] 39)) #[.int .i64 k2, .string tag2, .string text2, .slice aa2 al2 ac2, .int .i64 z2] 39; rwa [World.size_alloc] at this
  have q13 : W0.cell? ⟨w.heap.size, 3, none⟩ = some (.slice aa1 al1 ac1) := o1.cell (i := 3) rfl
  have q20 : W0.cell? ⟨w.heap.size + 1, 0, none⟩ = some (.int .i64 k2) := o2.cell (i := 0) rfl
  have q21 : W0.cell? ⟨w.heap.size + 1, 1, none⟩ = some (.string tag2) := o2.cell (i := 1) rfl
  have q22 : W0.cell? ⟨w.heap.size + 1, 2, none⟩ = some (.string text2) := o2.cell (i := 2) rfl
  have q23 : W0.cell? ⟨w.heap.size + 1, 3, none⟩ = some (.slice aa2 al2 ac2) := o2.cell (i := 3) rfl
  have q24 : W0.cell? ⟨w.heap.size + 1, 4, none⟩ = some (.int .i64 z2) := o2.cell (i := 4) rfl
  have hal1 : l.length = al1 := h1.1
  have H1 := Lib.hid (h1.below hb0)
  have H2 := Lib.hid (h2.below hb0)
  have HQ := Lib.hid (And.intro q13 (And.intro q20 (And.intro q21 (And.intro q22 (And.intro q23 q24)))))
  have HB0 := Lib.hid hb0
  have HDV := Lib.hid (And.intro hd hv)
  have hs0 : W0.heap.size = w.heap.size + 2 := by rw [← hW0]; simp
  clear h1 h2 hd hv hb0 o1 o2 q20 q21 q22 q23 q24
  subst hal1
  go_enter Try.func71, Try.ntmps71
  go_wp2
  go_loopw [5] (fun i wr => ∃ k : Nat, k ≤ l.length ∧ i = .int .i64 (k : Int) ∧ Hid (Below W0.heap.size W0 wr)) (fun i _ => l.length - (intOf i).toNat)
  case atStart => exact ⟨0, by omega, by go_num, Lib.hid (by first | exact Below.refl _ _ | (rw [hW0]; exact Below.refl _ _))⟩
  case round =>
    obtain ⟨k, hk, rfl, HB⟩ := hrel
    clear q13
    have q13 := cell_below HB.out HQ.out.1
    by_cases hlt : k < l.length
    · obtain ⟨_, _, _, hcc⟩ := H1.out
      obtain ⟨b, off, rfl, hc⟩ := hcc (by omega)
      obtain ⟨c1, c2⟩ := hc k hlt
      have c1 := cell_below HB.out c1
      have c2 := cell_below HB.out c2
      have hmem : l.getD k default ∈ l := by rw [List.getD_eq_getElem?_getD, List.getElem?_eq_getElem hlt]; exact List.getElem_mem _
      have hlook := look_mem HDV.out.1 hmem
      have hsz := HDV.out.2 _ hmem
      obtain ⟨x, hxx⟩ : ∃ x, (l.getD k default).1 = x := ⟨_, rfl⟩
      obtain ⟨y, hyy⟩ : ∃ y, (l.getD k default).2 = y := ⟨_, rfl⟩
      rw [hxx] at c1 hlook
      rw [hyy] at c2 hsz hlook
      have hkI : (k : Int) < (l.length : Int) := by omega
      have HLK := Lib.hid hlook
      have hbs := HB.out.size
      obtain ⟨X, hX⟩ : ∃ X, wr.alloc (.cells #[.string x, .string y] 86) = X := ⟨_, rfl⟩
      have hbX : Below wr.heap.size wr X := by rw [← hX]; exact (Below.refl _ _).alloc (Nat.le_refl _) _
      have hbX0 : Below W0.heap.size W0 X := HB.out.trans (hbX.mono hbs)
      have p0 : X.cell? ⟨wr.heap.size, 0, none⟩ = some (.string x) := by rw [← hX]; exact cell_alloc_new' _ _ _ rfl rfl
      have p1 : X.cell? ⟨wr.heap.size, 1, none⟩ = some (.string y) := by rw [← hX]; exact cell_alloc_new' _ _ _ rfl rfl
      have p20 := cell_below hbX0 HQ.out.2.1
      have p21 := cell_below hbX0 HQ.out.2.2.1
      have p22 := cell_below hbX0 HQ.out.2.2.2.1
      have p23 := cell_below hbX0 HQ.out.2.2.2.2.1
      have p24 := cell_below hbX0 HQ.out.2.2.2.2.2
      have HX := Lib.hid (And.intro hbX0 (H2.out.below hbX0))
      clear hc hcc hmem hxx hyy hlook hbX hbX0
      cases hq : (x.toList == [99, 108, 97, 115, 115])
      · have HC := Lib.hid (look_any k2 z2 tag2 text2 aa2 al2 ac2 l x X HX.out.2)
        go_wp2_with fail
        refine HC.out.mono ?_
        rintro e w2 ⟨rfl, hb2⟩
        rw [HLK.out, Option.getD_some, Option.isSome_some]
        have p1' := cell_below hb2.out p1
        have gy : (y.toList != y.toList) = false := by simp
        have HB2 := Lib.hid (HX.out.1.trans (hb2.out.mono HX.out.1.size))
        clear hb2 HC p0 p1 p20 p21 p22 p23 p24
        go_wp2
        refine ⟨?rel, ?measure⟩
        case rel => exact ⟨k + 1, by omega, by go_num, HB2⟩
        case measure => simp [intOf]; omega
      · have hxc : x = ⟨#[99, 108, 97, 115, 115]⟩ := kv_cls hq
        subst hxc
        have HC := Lib.hid (look_any k2 z2 tag2 text2 aa2 al2 ac2 l ⟨#[99, 108, 97, 115, 115]⟩ X HX.out.2)
        go_wp2_with fail
        refine HC.out.mono ?_
        rintro e w2 ⟨rfl, hb2⟩
        rw [HLK.out, Option.getD_some, Option.isSome_some]
        have p1' := cell_below hb2.out p1
        have HB2 := Lib.hid (HX.out.1.trans (hb2.out.mono HX.out.1.size))
        have HW := Lib.hid (fun (w : World) => words_any y w (by omega))
        clear hb2 HC p0 p1 p20 p21 p22 p23 p24
        go_wp2_with fail
        refine (HW.out _).mono ?_
        rintro e w3 ⟨v3, rfl, ho3, hb3⟩
        have HB3 := Lib.hid (HB2.out.trans (hb3.out.mono HB2.out.size))
        clear p1'
        go_wp2_with fail
        refine (HW.out _).mono ?_
        rintro e w4 ⟨v4, rfl, ho4, hb4⟩
        have HB4 := Lib.hid (HB3.out.trans (hb4.out.mono HB3.out.size))
        obtain ⟨a3, d3, rfl, _, hs3⟩ := ho3.out.open
        obtain ⟨a4, d4, rfl, _, hs4⟩ := ho4.out.open
        have HS3 := Lib.hid (hs3.below hb4.out)
        have HS4 := Lib.hid hs4
        obtain ⟨ws, hws⟩ : ∃ ws, wordsF y = ws := ⟨_, rfl⟩
        have hwl := wordsF_len y
        rw [hws] at HS3 HS4 hwl ⊢
        clear hb3 hb4 ho3 ho4 hs3 hs4 hws
        go_wp2
        go_loopw [11] (fun jv w5 => ∃ j : Nat, j ≤ ws.length ∧ jv = .int .i64 (j : Int) ∧ Hid (w5 = w4)) (fun i _ => ws.length - (intOf i).toNat)
        case atStart => exact ⟨0, by omega, by go_num, Lib.hid rfl⟩
        case round =>
          obtain ⟨j, hj, rfl, HE⟩ := hrel
          have he := HE.out
          subst he
          by_cases hjl : j < ws.length
          · obtain ⟨_, hcc⟩ := HS3.out
            obtain ⟨b3, off3, rfl, hc3⟩ := hcc (by omega)
            have cj := hc3 j hjl
            have hin := inW_self (ws := ws) hjl
            obtain ⟨q, hqq⟩ : ∃ q, ws.getD j ByteArray.empty = q := ⟨_, rfl⟩
            rw [hqq] at cj hin
            have HIN := Lib.hid hin
            have hjI : (j : Int) < (ws.length : Int) := by omega
            have HCW := Lib.hid (isWord_any a4 ws.length d4 ws q wr HS4.out)
            clear hcc hc3 hqq hin
            go_wp2_with fail
            refine HCW.out.mono ?_
            rintro e w6 ⟨b6, hb6, rfl, rfl⟩
            rw [HIN.out] at hb6
            subst hb6
            go_wp2
            refine ⟨?rel, ?measure⟩
            case rel => exact ⟨j + 1, by omega, by go_num, Lib.hid (by simp)⟩
            case measure => simp [intOf]; omega
          · obtain rfl : j = ws.length := by omega
            go_wp2
            refine ⟨?rel, ?measure⟩
            case rel => exact ⟨k + 1, by omega, by go_num, HB4⟩
            case measure => simp [intOf]; omega
    · obtain rfl : k = l.length := by omega
      go_wp2
      go_ret
      exact ⟨rfl, HB0.out.trans (HB.out.mono (by omega))⟩

set_option maxRecDepth 100000 in
set_option maxHeartbeats 4000000 in
theorem alike_any (a1 a2 : Option Addr) (len c1 c2 : Nat) (ts1 ts2 : List NodeD) (w : World) (h1 : Nodes w a1 len ts1) (h2 : Nodes w a2 len ts2) (hs : ∀ i, i < len → SameN (ts1.getD i default) (ts2.getD i default)) (hd : ∀ i, i < len → DistKV (ts1.getD i default).attrs ∧ (∀ x ∈ (ts1.getD i default).attrs, x.2.size ≤ 4000) ∧ (ts1.getD i default).attrs.length ≤ 100) :
    Calls Try.prog 45 #[.slice a1 len c1, .slice a2 len c2] w (YesB w) := by
  have hm := h1.len.2
  have gl : ((len : Int) != (len : Int)) = false := by simp
  have H1 := Lib.hid h1
  have H2 := Lib.hid h2
  have HS := Lib.hid hs
  have HD := Lib.hid hd
  clear h1 h2 hs hd
  go_enter Try.func45, Try.ntmps45
  go_wp2
  go_loopw [5] (fun i wr => ∃ k : Nat, k ≤ len ∧ i = .int .i64 (k : Int) ∧ Hid (Below w.heap.size w wr)) (fun i _ => len - (intOf i).toNat)
  case atStart => exact ⟨0, by omega, by go_num, Lib.hid (Below.refl _ _)⟩
  case round =>
    obtain ⟨k, hk, rfl, HB⟩ := hrel
    by_cases hlt : k < len
    · obtain ⟨b1, o1, rfl, hc1⟩ := H1.out.at (by omega)
      obtain ⟨b2, o2, rfl, hc2⟩ := H2.out.at (by omega)
      have n1 := (hc1 k hlt).below HB.out
      have n2 := (hc2 k hlt).below HB.out
      obtain ⟨e1, e2, e3, e4, e5⟩ := HS.out k hlt
      obtain ⟨d1, d2, d3⟩ := HD.out k hlt
      obtain ⟨m1, hm1⟩ : ∃ m, ts1.getD k default = m := ⟨_, rfl⟩
      obtain ⟨m2, hm2⟩ : ∃ m, ts2.getD k default = m := ⟨_, rfl⟩
      rw [hm1] at n1 e1 e2 e3 e4 e5 d1 d2 d3
      rw [hm2] at n2 e1 e2 e3 e4 e5
      obtain ⟨k1, g1, x1, aa1, al1, ac1, l1, z1⟩ := m1
      obtain ⟨k2, g2, x2, aa2, al2, ac2, l2, z2⟩ := m2
      simp only at e1 e2 e3 e4 e5 d1 d2 d3
      subst e1 e2 e3 e4 e5
      have p0 := n1.kind
      have p1 := n1.tag
      have p2 := n1.text
      have p3 := n1.attrs
      have p4 := n1.size
      have q0 := n2.kind
      have q1 := n2.tag
      have q2 := n2.text
      have q3 := n2.attrs
      have q4 := n2.size
      simp only at p0 p1 p2 p3 p4 q0 q1 q2 q3 q4
      have r1 := n1.at_
      have r2 := n2.at_
      simp only at r1 r2
      have hw1 := fun (w' : World) (hb : Below wr.heap.size wr w') => within_any k1 z1 g1 x1 aa1 al1 ac1 k1 z1 g1 x1 aa2 al2 ac2 l1 w' (r1.below hb) (r2.below hb) d1 d2 d3
      have hw2 := fun (w' : World) (hb : Below wr.heap.size wr w') => within_any k1 z1 g1 x1 aa2 al2 ac2 k1 z1 g1 x1 aa1 al1 ac1 l1 w' (r2.below hb) (r1.below hb) d1 d2 d3
      have HW := Lib.hid (And.intro hw1 hw2)
      have hkI : (k : Int) < (len : Int) := by omega
      have gk : (k1 != k1) = false := by simp
      have gz : (z1 != z1) = false := by simp
      have gt : (g1.toList != g1.toList) = false := by simp
      have gx : (x1.toList != x1.toList) = false := by simp
      clear n1 n2 hc1 hc2 hm1 hm2 d1 d2 d3 r1 r2 hw1 hw2
      have hSS : ∀ w', Below wr.heap.size wr w' → (fun w' => Below wr.heap.size wr w' ∧ w'.cell? ⟨b1, o1 + k * 5, none⟩ = some (.int .i64 k1) ∧ w'.cell? ⟨b1, o1 + k * 5 + 1, none⟩ = some (.string g1) ∧ w'.cell? ⟨b1, o1 + k * 5 + 2, none⟩ = some (.string x1) ∧ w'.cell? ⟨b1, o1 + k * 5 + 3, none⟩ = some (.slice aa1 al1 ac1) ∧ w'.cell? ⟨b1, o1 + k * 5 + 4, none⟩ = some (.int .i64 z1) ∧ w'.cell? ⟨b2, o2 + k * 5, none⟩ = some (.int .i64 k1) ∧ w'.cell? ⟨b2, o2 + k * 5 + 1, none⟩ = some (.string g1) ∧ w'.cell? ⟨b2, o2 + k * 5 + 2, none⟩ = some (.string x1) ∧ w'.cell? ⟨b2, o2 + k * 5 + 3, none⟩ = some (.slice aa2 al2 ac2) ∧ w'.cell? ⟨b2, o2 + k * 5 + 4, none⟩ = some (.int .i64 z1)) w' := fun w' hb => ⟨hb, cell_below hb p0, cell_below hb p1, cell_below hb p2, cell_below hb p3, cell_below hb p4, cell_below hb q0, cell_below hb q1, cell_below hb q2, cell_below hb q3, cell_below hb q4⟩
      have HSS := Lib.hid hSS
      clear hSS p0 p1 p2 p3 p4 q0 q1 q2 q3 q4
      have hbd : Below wr.heap.size wr wr.drew := (Below.refl _ _).drew
      have hbY : ∀ w', Below wr.drew.heap.size wr.drew w' → Below wr.heap.size wr w' := fun w' hb => hbd.trans hb
      have hbZ : ∀ {w8 : World} (w' : World), Below w8.heap.size w8 w' → Below wr.heap.size wr w8 → Below wr.heap.size wr w' := fun w' hb h8 => h8.trans (hb.mono h8.size)
      go_wp2
      go_region_held3 (fun w' => Below wr.heap.size wr w' ∧ w'.cell? ⟨b1, o1 + k * 5, none⟩ = some (.int .i64 k1) ∧ w'.cell? ⟨b1, o1 + k * 5 + 1, none⟩ = some (.string g1) ∧ w'.cell? ⟨b1, o1 + k * 5 + 2, none⟩ = some (.string x1) ∧ w'.cell? ⟨b1, o1 + k * 5 + 3, none⟩ = some (.slice aa1 al1 ac1) ∧ w'.cell? ⟨b1, o1 + k * 5 + 4, none⟩ = some (.int .i64 z1) ∧ w'.cell? ⟨b2, o2 + k * 5, none⟩ = some (.int .i64 k1) ∧ w'.cell? ⟨b2, o2 + k * 5 + 1, none⟩ = some (.string g1) ∧ w'.cell? ⟨b2, o2 + k * 5 + 2, none⟩ = some (.string x1) ∧ w'.cell? ⟨b2, o2 + k * 5 + 3, none⟩ = some (.slice aa2 al2 ac2) ∧ w'.cell? ⟨b2, o2 + k * 5 + 4, none⟩ = some (.int .i64 z1)) (first | exact HSS.out _ (hbZ _ hb9 (hbY _ hb8)) | exact HSS.out _ (hbY _ hb8) | exact HSS.out _ hbd) (first | (have h3 := hbY _ hb8; go_at_call 71; refine (HW.out.2 _ h3).mono ?_; rintro e w9 ⟨rfl, hb9⟩) | (go_at_call 71; refine (HW.out.1 _ hbd).mono ?_; rintro e w8 ⟨rfl, hb8⟩))
      all_goals
        have HB9 := Lib.hid (HB.out.trans ((hbZ _ hb9 (hbY _ hb8)).mono HB.out.size))
        go_wp2
        refine ⟨?rel, ?measure⟩
        case rel => exact ⟨k + 1, by omega, by go_num, HB9⟩
        case measure => simp [intOf]; omega
    · obtain rfl : k = len := by omega
      go_wp2
      go_ret
      exact ⟨rfl, HB.out⟩

end Go.Proofs.Ytoleejaabiafcaa

namespace Go.Proofs.Ytoleejaabiafcaa
open Go.RowKit
set_option linter.unusedVariables false
set_option linter.unusedSimpArgs false

set_option maxRecDepth 100000 in
set_option maxHeartbeats 2000000 in
theorem as7_any (W : World) (a : Option Addr) (len cap : Nat) (ts : List NodeD) (hN : Nodes W a len ts) (op : Int) (a1 : Option Addr) (n1 c1 : Nat) (a2 : Option Addr) (n2 c2 : Nat) (Φ : Nat → (Nat → Int) → (Nat → NodeD) → Wd → Prop) (hΦ : PhiOk len ts Φ) (hs : StepSays len ts op a1 n1 c1 a2 n2 c2 Φ W)
    {B : Nat} (tv pv : Value) (lab0 : Nat → NodeD) (C0 : List (Nat × Nat)) (zs : List Int) (hout : OutAt W B tv lab0 C0) (hzs : OwnZ W B pv zs) (hf : ∀ y ∈ C0, FitN (lab0 y.1) ∧ y.2 ≤ 100000) (hC0 : C0.length ≤ 100000)
    (hdet : ∀ n pl lab F C, Φ n pl lab F → Fs F.kids [0] C → (C.map fun y => (lab y.1, y.2)) = (C0.map fun y => (lab0 y.1, y.2)) ∧ atSet pl (List.replicate len (-1)) 0 C = zs) :
    Calls Try.prog 16 #[.slice a len cap, .agg #[.int .i64 op, .slice a1 n1 c1, .slice a2 n2 c2, .string ⟨#[]⟩, .string ⟨#[]⟩, .slice none 0 0], tv, pv, .bool true] W (YesB W) := by
  obtain ⟨W0, hW0⟩ : ∃ W0, (W.alloc (.cells #[.int .i64 op, .slice a1 n1 c1, .slice a2 n2 c2, .string ⟨#[]⟩, .string ⟨#[]⟩, .slice none 0 0] 27)).alloc (.cells #[.int .i64 op, .slice a1 n1 c1, .slice a2 n2 c2, .string ⟨#[]⟩, .string ⟨#[]⟩, .slice none 0 0] 27) = W0 := ⟨_, rfl⟩
  have hb0 : Below W.heap.size W W0 := by rw [← hW0]; exact ((Below.refl _ _).alloc (Nat.le_refl _) _).alloc (by simp) _
  have o2 : World.objAt W0 (W.heap.size + 1) #[.int .i64 op, .slice a1 n1 c1, .slice a2 n2 c2, .string ⟨#[]⟩, .string ⟨#[]⟩, .slice none 0 0] 27 := by rw [← hW0]; have := objAt_alloc_new (W.alloc (.cells #[.int .i64 op, .slice a1 n1 c1, .slice a2 n2 c2, .string ⟨#[]⟩, .string ⟨#[]⟩, .slice none 0 0] 27)) #[.int .i64 op, .slice a1 n1 c1, .slice a2 n2 c2, .string ⟨#[]⟩, .string ⟨#[]⟩, .slice none 0 0] 27; rwa [World.size_alloc] at this
  have hch := changed_any W0 a len cap ts (hN.below hb0) (W.heap.size + 1) op a1 n1 c1 a2 n2 c2 Φ (o2.cell (i := 0) rfl) (o2.cell (i := 1) rfl) (o2.cell (i := 2) rfl) (o2.cell (i := 3) rfl) (o2.cell (i := 4) rfl) (o2.cell (i := 5) rfl) hΦ (hs W0 hb0)
  have HCH := Lib.hid hch
  have HB0 := Lib.hid hb0
  obtain ⟨ta, tc, rfl⟩ : ∃ ta tc, tv = .slice ta C0.length tc := by
    obtain ⟨a, cap, _, h1, _⟩ := hout.nodes (fun y hy => (hf y hy).1) (fun y hy => (hf y hy).2) hC0
    exact ⟨a, cap, h1⟩
  obtain ⟨pa, pc, rfl, _⟩ := hzs.ints
  have HO := Lib.hid (And.intro hout hzs)
  have HF := Lib.hid (And.intro hf (And.intro hC0 hdet))
  clear hch hb0 o2 hN hs hΦ hout hzs hf hC0 hdet
  go_enter Try.func16, Try.ntmps16
  go_wp2_with fail
  refine HCH.out.mono ?_
  intro e w1 hp
  rcases hp with ⟨rfl, hb⟩ | ⟨n, pl, lab, F, C, ov, qv, hR, hphi, hC, rfl, ho, hz, hb⟩
  · have HB := Lib.hid (HB0.out.trans (hb.out.mono HB0.out.size))
    clear hb HCH
    go_wp2
    go_ret
    exact ⟨rfl, HB.out⟩
  · have hb01 := HB0.out.trans (hb.out.mono HB0.out.size)
    obtain ⟨e1, e2⟩ := HF.out.2.2 n pl lab F C hphi hC
    have hlen : C.length = C0.length := by
      have := congrArg List.length e1
      simpa using this
    have hCf : ∀ y ∈ C, FitN (lab y.1) ∧ y.2 ≤ 100000 := fun y hy => by
      have h1 : (lab y.1, y.2) ∈ C0.map fun y => (lab0 y.1, y.2) := by rw [← e1]; exact List.mem_map_of_mem (f := fun y : Nat × Nat => (lab y.1, y.2)) hy
      obtain ⟨q, hq, he⟩ := List.mem_map.1 h1
      simp only [Prod.mk.injEq] at he
      have := HF.out.1 q hq
      rw [he.1, he.2] at this
      exact this
    obtain ⟨oa, oc, ts2, hov, hn2, hl2⟩ := ho.out.nodes (fun y hy => (hCf y hy).1) (fun y hy => (hCf y hy).2) (by rw [hlen]; exact HF.out.2.1)
    obtain ⟨ta', tc', ts1, htv, hn1, hl1⟩ := (HO.out.1.below hb01).nodes (fun y hy => (HF.out.1 y hy).1) (fun y hy => (HF.out.1 y hy).2) HF.out.2.1
    simp only [Value.slice.injEq] at htv
    obtain ⟨rfl, _, rfl⟩ := htv
    subst hov
    obtain ⟨qa, qc, hqv, hq⟩ := hz.out.ints
    obtain ⟨pa', pc', hpv, hp⟩ := (HO.out.2.below hb01).ints
    simp only [Value.slice.injEq] at hpv
    obtain ⟨rfl, _, rfl⟩ := hpv
    subst hqv
    rw [e2] at hq ⊢
    rw [hlen] at hn2 hl2 ⊢
    have hpair : ∀ i, i < C0.length → (lab (C.getD i default).1, (C.getD i default).2) = (lab0 (C0.getD i default).1, (C0.getD i default).2) := fun i hi => by
      have h1 := congrArg (fun l => l[i]?) e1
      simp only [List.getElem?_map, List.getElem?_eq_getElem hi, List.getElem?_eq_getElem (show i < C.length by omega), Option.map_some, Option.some.injEq] at h1
      simp only [List.getD_eq_getElem?_getD, List.getElem?_eq_getElem hi, List.getElem?_eq_getElem (show i < C.length by omega), Option.getD_some]
      exact h1
    have hal := alike_any ta oa C0.length tc oc ts1 ts2 w1 hn1 hn2 (fun i hi => by
      obtain ⟨x1, x2, x3, x4, x5⟩ := hl1 i hi
      obtain ⟨y1, y2, y3, y4, y5⟩ := hl2 i hi
      have h1 := hpair i hi
      simp only [Prod.mk.injEq] at h1
      rw [h1.1] at y1 y2 y3 y4
      rw [h1.2] at y5
      exact ⟨x1.trans y1.symm, x2.trans y2.symm, x3.trans y3.symm, x4.trans y4.symm, x5.trans y5.symm⟩) (fun i hi => by
      obtain ⟨x1, x2, x3, x4, x5⟩ := hl1 i hi
      have h1 := (HF.out.1 (C0.getD i default) (by rw [List.getD_eq_getElem?_getD, List.getElem?_eq_getElem hi]; exact List.getElem_mem _)).1
      rw [x4]
      exact ⟨h1.dist, h1.vals, h1.few⟩)
    have HAL := Lib.hid hal
    have HZZ := Lib.hid (And.intro hp hq)
    have HB1 := Lib.hid hb01
    clear hal hp hq hb01 hn1 hn2 hl1 hl2 hpair hCf e1 e2 hlen ho hz hb hC hphi hR HCH HO HF HB0
    go_wp2_with fail
    refine HAL.out.mono ?_
    rintro e w2 ⟨rfl, hb2⟩
    have HB2 := Lib.hid (HB1.out.trans (hb2.mono HB1.out.size))
    have hsz := sameZ_any pa pc qa qc zs.length zs w2 (HZZ.out.1.below hb2) (HZZ.out.2.below hb2)
    have HSZ := Lib.hid hsz
    clear hsz hb2 HAL
    go_wp2_with fail
    refine HSZ.out.mono ?_
    rintro e w3 ⟨rfl, hb3⟩
    have HB3 := Lib.hid (HB2.out.trans (hb3.mono HB2.out.size))
    clear hb3 HSZ
    go_wp2
    go_ret
    exact ⟨rfl, HB3.out⟩

end Go.Proofs.Ytoleejaabiafcaa

