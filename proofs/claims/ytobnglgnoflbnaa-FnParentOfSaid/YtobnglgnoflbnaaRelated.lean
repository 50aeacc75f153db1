/- spec.Related of a parent. -/
import Derived.Test.YtobnglgnoflbnaaRelOf
import Derived.Deep.RegionWith
namespace Go.Proofs.Ytobnglgnoflbnaa
open Go.RowKit
set_option linter.unusedVariables false
set_option linter.unusedSimpArgs false

def RelatedPost (l : List Nat) (w : World) (e : Ending) (w' : World) : Prop := ∃ v, e = .returned (.tuple #[v, .bool true]) ∧ Hid (OwnPl w' w.heap.size v l) ∧ Hid (Below w.heap.size w w')

theorem parEl_root (ts : List NodeD) : parEl ts 0 = none := parEl_none (by
  cases h : par (sz ts) 0 with
  | none => rfl
  | some p => exact absurd (par_some h).1 (by omega))

set_option maxRecDepth 100000 in
set_option maxHeartbeats 3000000 in
theorem relatedParent_any (a : Option Addr) (len cap : Nat) (ts : List NodeD) (v : Value) (l : List Nat) (w : World) (hR : RightT ts len) (hN : Nodes w a len ts) (hv : ReadsAs w v (l.map intV)) (hin : ∀ i ∈ l, i < len) (hn : l.length ≤ 200) :
    Calls Try.prog 28 #[.slice a len cap, v, pickV 22] w (RelatedPost (onceF (parList ts l)) w) := by
  have hpos := hR.pos
  obtain ⟨va, vcap, b, off, rfl, hm, ha, hc⟩ := ints_open hv
  have hrel := fun (x : Nat) (w' : World) (h : Nodes w' a len ts) (hx : x < len) => relOfParent_any a len cap ts x w' hR h hx
  have hlen := parList_len (ts := ts) (l := l)
  unfold pickV at hrel ⊢
  have hb0 : Below w.heap.size w (w.alloc (.cells #[.int .i64 22, .string ⟨#[]⟩, .slice none 0 0, .int .i64 0, .int .i64 0] 49)) := (Below.refl _ _).alloc (Nat.le_refl _) _
  have hp : ∀ i u, (#[.int .i64 22, .string ⟨#[]⟩, .slice none 0 0, .int .i64 0, .int .i64 0] : Array Value)[i]? = some u → (w.alloc (.cells #[.int .i64 22, .string ⟨#[]⟩, .slice none 0 0, .int .i64 0, .int .i64 0] 49)).cell? ⟨w.heap.size, i, none⟩ = some u := fun i u h => cell_alloc_new' _ _ _ rfl h
  obtain ⟨w0, hw0⟩ : ∃ w0, w.alloc (.cells #[.int .i64 22, .string ⟨#[]⟩, .slice none 0 0, .int .i64 0, .int .i64 0] 49) = w0 := ⟨_, rfl⟩
  rw [hw0] at hb0 hp
  have q0 : w0.cell? ⟨w.heap.size, 0, none⟩ = some (.int .i64 22) := hp 0 _ rfl
  have q1 : w0.cell? ⟨w.heap.size, 1, none⟩ = some (.string ⟨#[]⟩) := hp 1 _ rfl
  have q2 : w0.cell? ⟨w.heap.size, 2, none⟩ = some (.slice none 0 0) := hp 2 _ rfl
  have q3 : w0.cell? ⟨w.heap.size, 3, none⟩ = some (.int .i64 0) := hp 3 _ rfl
  have q4 : w0.cell? ⟨w.heap.size, 4, none⟩ = some (.int .i64 0) := hp 4 _ rfl
  have hml : w.heap.size < w0.heap.size := World.block_lt_of_cell? _ _ q0
  have HN0 := Lib.hid (hN.below hb0)
  have HA := Lib.hid ha
  have HC : Hid (∀ i, i < l.length → w0.cell? ⟨b, off + i, none⟩ = some (.int .i64 ((l.getD i 0 : Nat) : Int))) := Lib.hid (fun i hi => cell_below hb0 (hc i hi))
  have HREL := Lib.hid hrel
  have HIN := Lib.hid hin
  have HB := Lib.hid hb0
  obtain ⟨i0, hi, hz0, hz1, hz2⟩ := info_parts Try.infoInt
  clear hv ha hc hrel hin hN hR hb0 hp
  go_enter Try.func28, Try.ntmps28
  go_wp2
  clear hw0
  go_loopw [10, 11] (fun x i wr => ∃ (k : Nat) (done : List Nat), i = .int .i64 k ∧ k ≤ l.length ∧ done.length ≤ k ∧ parList ts (l.take k) = done ∧ OwnPl wr w0.heap.size x done ∧ Below w0.heap.size w0 wr)
    (fun _ i _ => l.length - (intOf i).toNat)
  case atStart => exact ⟨0, [], by go_num, by omega, by simp, rfl, World.ownsRow_nil _ _ _ _, Below.refl _ _⟩
  case round =>
    obtain ⟨k, done, rfl, hk, hdl, hdone, hown, hbel⟩ := hrel
    have r0 := cell_below hbel q0
    have r1 := cell_below hbel q1
    have r2 := cell_below hbel q2
    have r3 := cell_below hbel q3
    have r4 := cell_below hbel q4
    have hmr : w.heap.size < wr.heap.size := Nat.lt_of_lt_of_le hml hbel.size
    by_cases hlt : k < l.length
    · obtain rfl := HA.out (by omega)
      have hxl := HIN.out _ (getD_mem' (d := 0) hlt)
      have ck := cell_below hbel (HC.out k hlt)
      have htk := parList_take (ts := ts) hlt
      obtain ⟨x, hxx⟩ : ∃ x, l.getD k 0 = x := ⟨_, rfl⟩
      rw [hxx] at ck hxl htk
      rw [hdone] at htk
      have hkI : (k : Int) < (l.length : Int) := by omega
      have hRL := fun w' (h : Nodes w' a len ts) => HREL.out x w' h hxl
      obtain ⟨oa, oc, hu10, hnc, hcm, _⟩ := hown.reads
      rw [List.length_map] at hu10 hnc
      subst hu10
      have hbd : Below w0.heap.size w0 wr.drew := Below.drew hbel
      have hownd : OwnPl wr.drew w0.heap.size (.slice oa done.length oc) done := ownsRow_kept hown (fun q _ => rfl)
      have HBD := Lib.hid (And.intro hbd hownd)
      cases hpe : parEl ts x with
      | none =>
        rw [hpe] at hRL htk
        have hRL' : ∀ w', Nodes w' a len ts → Calls Try.prog 65 #[.slice a len cap, .int .i64 (x : Int), .agg #[.int .i64 22, .string ⟨#[]⟩, .slice none 0 0, .int .i64 0, .int .i64 0]] w' (RelNo w') := hRL
        have HRL := Lib.hid hRL'
        have HT := Lib.hid (show parList ts (l.take (k + 1)) = done by rw [htk]; simp)
        clear hRL hRL' htk hxx hown hbel hbd hownd hpe hdone
        go_wp2_with fail
        go_region_with (go_at_call 65; refine Calls.mono (HRL.out _ (HN0.out.below HBD.out.1)) ?_; rintro e w2 ⟨rfl, hb2⟩)
        all_goals
          have hb3 := HBD.out.1.trans (hb2.out.mono HBD.out.1.size)
          have hown2 : w2.ownsRow w0.heap.size 3 1 (.slice oa done.length oc) done.length (done.map intV) := ownsRow_kept HBD.out.2 (fun q hq => hb2.out.block q (World.ownsRow.lt HBD.out.2 q hq).2)
          have H2 := Lib.hid (And.intro (show OwnPl w2 w0.heap.size (.slice oa done.length oc) done from hown2) hb3)
          clear hb2 hb3 hown2 r0 r1 r2 r3 r4 ck
          go_wp2_with (at_builtin; refine wpList_append_none rfl _ _ 32 rfl 3 i0 Try.underlying32 hi oa done.length oc hnc rfl rfl ?_)
          go_wp2
          go_roundw
          case rel => exact ⟨k + 1, done, by go_num, by omega, by omega, HT.out, H2.out.1, H2.out.2⟩
          case measure => simp [intOf]; omega
      | some p =>
        rw [hpe] at hRL htk
        have hRL' : ∀ w', Nodes w' a len ts → Calls Try.prog 65 #[.slice a len cap, .int .i64 (x : Int), .agg #[.int .i64 22, .string ⟨#[]⟩, .slice none 0 0, .int .i64 0, .int .i64 0]] w' (RelOne p w') := hRL
        have HRL := Lib.hid hRL'
        have HT := Lib.hid (show parList ts (l.take (k + 1)) = done ++ [p] by rw [htk]; simp)
        clear hRL hRL' htk hxx hown hbel hbd hownd hpe hdone
        go_wp2_with fail
        go_region_with (go_at_call 65; refine Calls.mono (HRL.out _ (HN0.out.below HBD.out.1)) ?_; rintro e w2 ⟨g, rfl, cg, hb2⟩)
        all_goals
          have hb3 := HBD.out.1.trans (hb2.out.mono HBD.out.1.size)
          have hown2 : w2.ownsRow w0.heap.size 3 1 (.slice oa done.length oc) done.length (done.map intV) := ownsRow_kept HBD.out.2 (fun q hq => hb2.out.block q (World.ownsRow.lt HBD.out.2 q hq).2)
          have HB3 := Lib.hid hb3
          have hsz2 : w0.heap.size ≤ w2.heap.size := hb3.size
          clear hb2 hb3 r0 r1 r2 r3 r4 ck
          go_wp2_with (at_builtin; refine wpList_append_own _ rfl _ _ 32 rfl w0.heap.size 3 i0 (.int .i64 0) 1 8 Try.underlying32 hi hz0 hz1 hz2 rfl (by decide) _ _ _ rfl hown2 ⟨g, 0, none⟩ 1 1 [.int .i64 (p : Int)] rfl rfl ?c1 ?c2 ?c3 ?c4 ?c5 ?_)
          case c1 =>
            intro j u hj
            match j, hj with
            | 0, hj => simp at hj; subst hj; simpa [Addr.add] using cg
          case c2 => intro u hu; simp at hu; subst hu; rfl
          case c3 => unfold maxLen; omega
          case c4 => omega
          case c5 => exact hsz2
          intro v' w3 hown3 hgrow _
          have hbel3 : Below w0.heap.size w0 w3 := HB3.out.grown hgrow HB3.out.size (fun q hq => (World.ownsRow.lt hown2 q hq).1)
          have hsn := ownInts_any_snoc (k := p) hown3
          have H3 := Lib.hid (And.intro hsn hbel3)
          clear hown3 hgrow hbel3 hsn hown2 cg
          go_wp2
          go_roundw
          case rel => exact ⟨k + 1, done ++ [p], by go_num, by omega, by simp; omega, HT.out, H3.out.1, H3.out.2⟩
          case measure => simp [intOf]; omega
    · obtain rfl : k = l.length := by omega
      have hd := hdone
      rw [List.take_length] at hd
      have hRL := HREL.out 0 wr (HN0.out.below hbel) hpos
      rw [parEl_root] at hRL
      have hRL' : Calls Try.prog 65 #[.slice a len cap, .int .i64 0, .agg #[.int .i64 22, .string ⟨#[]⟩, .slice none 0 0, .int .i64 0, .int .i64 0]] wr (RelNo wr) := hRL
      have HRL := Lib.hid hRL'
      have HO := Lib.hid (And.intro hown (And.intro hbel hd))
      clear hRL hRL' hown hbel hd hdone hlt
      go_wp2_with fail
      refine HRL.out.mono ?_
      rintro e w2 ⟨rfl, hb2⟩
      have hon := once_any u10 done w2 ((HO.out.1.reads).below hb2.out) (by omega)
      have HON := Lib.hid hon
      have HB2 := Lib.hid (HB.out.trans ((HO.out.2.1.trans (hb2.out.mono HO.out.2.1.size)).mono HB.out.size))
      clear hon hb2 HRL r0 r1 r2 r3 r4
      go_wp2_with fail
      refine HON.out.mono ?_
      rintro e w3 ⟨v3, rfl, ho3, hb3⟩
      have hfin := Lib.hid (HB2.out.trans (hb3.out.mono HB2.out.size))
      have hown3 : Hid (OwnPl w3 w.heap.size v3 (onceF (parList ts l))) := Lib.hid (by rw [HO.out.2.2]; exact ownsRow_base ho3.out HB2.out.size)
      clear ho3 hb3 HON
      go_wp2
      go_ret2
      exact ⟨v3, rfl, hown3, hfin⟩

end Go.Proofs.Ytobnglgnoflbnaa
