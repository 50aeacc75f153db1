/- impl.FilterBy, impl.NotBy. (Printed by gen_filterby.py.) -/
import Derived.Test.YtobnglgnoflbnaaWinnow
namespace Go.Proofs.Ytobnglgnoflbnaa
open Go.RowKit
set_option linter.unusedVariables false
set_option linter.unusedSimpArgs false

def OwnPl2Post (l : List Nat) (w : World) (e : Ending) (w' : World) : Prop := ∃ v, e = .returned (.tuple #[v, .bool true]) ∧ Hid (OwnPl w' w.heap.size v l) ∧ Hid (Below w.heap.size w w')

theorem kept_eq (P : Nat → Bool) (l : List Nat) (nb : Nat → Nat) : kept P (l.map nb) (l.map nb).length = (kept P l l.length).map nb := by
  rw [List.length_map]; exact kept_map P l nb l.length (Nat.le_refl _)


set_option maxRecDepth 100000 in
theorem cloF_any (a : Option Addr) (n cap : Nat) (bs : List Bool) (bx k s' : Nat) (w : World) (h : Bools w a n bs) (hx : w.cell? ⟨bx, 0, none⟩ = some (.slice a n cap)) :
    Calls Try.prog 70 #[.int .i64 (k : Int), .pointer (some ⟨s', 0, none⟩), .pointer (some ⟨bx, 0, none⟩)] w (BoolPost (bs.getD k false) w) := by
  have hy := yes_any a n cap bs k w h
  have HY := Lib.hid hy
  clear hy h
  go_enter Try.func70, Try.ntmps70
  go_wp2_with fail
  refine HY.out.mono ?_
  rintro e w1 ⟨rfl, rfl⟩
  go_wp2
  go_ret
  exact ⟨rfl, rfl⟩

set_option maxRecDepth 100000 in
set_option maxHeartbeats 1000000 in
theorem fnF_any {B : Nat} (s : Nat) (v : Value) (l : List Nat) (px : Value) (P : Nat → Bool) (w : World) (hs : SelAt w s v l B) (hn : l.length ≤ 200)
    (hf : ∀ k, k < l.length → ∀ w' : World, Below w.heap.size w w' → ∀ s' : Nat, Calls Try.prog 70 #[.int .i64 (k : Int), .pointer (some ⟨s', 0, none⟩), px] w' (BoolPost (P k) w')) :
    Calls Try.prog 69 #[.pointer (some ⟨s, 0, none⟩), .func (.func 70) #[] #[px]] w (SelPost (kept (fun k => P k == true) l l.length) w) := by
  have hw := winnowF_any s v l px P true w hs hn hf
  obtain ⟨L, hL⟩ : ∃ L, kept (fun k => P k == true) l l.length = L := ⟨_, rfl⟩
  rw [hL] at hw ⊢
  clear hL
  obtain ⟨d, hd⟩ := hs.doc
  have HW := Lib.hid hw
  have HD := Lib.hid hd
  clear hw hs hf hd
  go_enter Try.func69, Try.ntmps69
  go_wp2_with fail
  refine HW.out.mono ?_
  rintro e w1 ⟨v', rfl, ho, hb⟩
  have c1' := cell_below hb.out HD.out
  obtain ⟨a', cap', hv, _⟩ := ho.out.ptrs.nil
  rw [List.length_map] at hv
  subst hv
  clear HW HD
  go_wp2
  go_ret
  refine ⟨w1.heap.size, .slice a' L.length cap', rfl, Lib.hid ⟨?_, ⟨d, ?_⟩, ?_, hb.out.size⟩, Lib.hid ?_⟩
  · exact cell_alloc_new' _ _ _ (by simp) rfl
  · exact cell_alloc_new' _ _ _ (by simp) rfl
  · exact ho.out.alloc _
  · exact hb.out.alloc hb.out.size _

set_option maxRecDepth 100000 in
set_option maxHeartbeats 1000000 in
theorem byF_any (W : World) (a : Option Addr) (len cap : Nat) (ts : List NodeD) (hR : RightT ts len) (hN : Nodes W a len ts) (v : Value) (l : List Nat) (r1 : ReadsAs W v (l.map intV)) (i1 : ∀ i ∈ l, i < len) (o1 : Once l) (n1 : l.length ≤ 200)
    (ba : Option Addr) (bn bc : Nat) (bs : List Bool) (hbs : Bools W ba bn bs) :
    Calls Try.prog 37 #[.slice a len cap, v, .slice ba bn bc] W (OwnPl2Post (kept (fun k => bs.getD k false == true) l l.length) W) := by
  have hlen := hR.le
  have hb0 : Below W.heap.size W (W.alloc (.cells #[.slice ba bn bc] 55)) := (Below.refl _ _).alloc (Nat.le_refl _) _
  have hx0 : (W.alloc (.cells #[.slice ba bn bc] 55)).cell? ⟨W.heap.size, 0, none⟩ = some (.slice ba bn bc) := cell_alloc_new' _ _ _ rfl rfl
  have hch := chosen_any _ a len cap ts hR (hN.below hb0) v l (r1.below hb0) i1 o1 n1
  have hbs0 := hbs.below hb0
  obtain ⟨w0, hw0⟩ : ∃ w0, W.alloc (.cells #[.slice ba bn bc] 55) = w0 := ⟨_, rfl⟩
  rw [hw0] at hb0 hx0 hch hbs0
  obtain ⟨K, hK⟩ : ∃ K, kept (fun k => bs.getD k false == true) l l.length = K := ⟨_, rfl⟩
  have hKm : ∀ i ∈ K, i < len := fun i hi => i1 i (kept_mem _ l _ (Nat.le_refl _) i (by rw [← hK] at hi; exact hi))
  have hKn : K.length ≤ 200 := Nat.le_trans (by rw [← hK]; exact kept_length _ l _) n1
  rw [hK]
  have HK := Lib.hid hK
  have HKM := Lib.hid hKm
  clear hK hKm
  have HCH := Lib.hid hch
  have HX0 := Lib.hid hx0
  have HB0 := Lib.hid hb0
  have HBS := Lib.hid hbs0
  have HI1 := Lib.hid i1
  have HO := Lib.hid o1
  clear hR hN hch r1 i1 o1 hbs hx0 hb0 hbs0
  have hmf : ∀ (fn : Fn) (first cap : Array Value) (w : World), (Instr.makeFunc fn first cap).run Try.prog w = .ok (.func fn first cap) w := fun _ _ _ _ => rfl
  go_enter Try.func37, Try.ntmps37
  go_wp2_with fail
  refine HCH.out.mono ?_
  rintro e w1 ⟨bl, nb, vv, s, v, rfl, hF, hs, hb⟩
  have hfn := fnF_any s v (l.map nb) (.pointer (some ⟨W.heap.size, 0, none⟩)) (fun k => bs.getD k false) w1 hs.out (by simpa using n1) (fun k hk w' hb' s' => cloF_any ba bn bc bs W.heap.size k s' w' ((HBS.out.below hb.out).below hb') (cell_below hb' (cell_below hb.out HX0.out)))
  rw [kept_eq, HK.out] at hfn
  have HFN := Lib.hid hfn
  clear hfn HCH hs
  go_wp2_with fail
  refine HFN.out.mono ?_
  rintro e w2 ⟨s2, v2, rfl, hs2, hb2⟩
  have hF2 := hF.out.below hb2.out
  have c0 := hs2.out.nodes
  have hpl := placesOf_any w2 bl len len nb vv ts hF2 hlen v2 K hs2.out.own.ptrs HKM.out hKn
  have HPL := Lib.hid hpl
  have hb02 : Below W.heap.size W w2 := HB0.out.trans ((hb.out.trans (hb2.out.mono hb.out.size)).mono HB0.out.size)
  have HB02 := Lib.hid hb02
  clear hpl hF2 hF hs2 hb hb2 hb02 HFN
  go_wp2_with fail
  refine HPL.out.mono ?_
  rintro e w3 ⟨v3, rfl, ho3, hb3⟩
  have hfin := Lib.hid (HB02.out.trans (hb3.out.mono HB02.out.size))
  have hown : Hid (OwnPl w3 W.heap.size v3 K) := Lib.hid (ownsRow_base ho3.out HB02.out.size)
  clear HPL ho3 hb3
  go_wp2
  go_ret2
  exact ⟨v3, rfl, hown, hfin⟩


set_option maxRecDepth 100000 in
theorem cloN_any (a : Option Addr) (n cap : Nat) (bs : List Bool) (bx k s' : Nat) (w : World) (h : Bools w a n bs) (hx : w.cell? ⟨bx, 0, none⟩ = some (.slice a n cap)) :
    Calls Try.prog 73 #[.int .i64 (k : Int), .pointer (some ⟨s', 0, none⟩), .pointer (some ⟨bx, 0, none⟩)] w (BoolPost (bs.getD k false) w) := by
  have hy := yes_any a n cap bs k w h
  have HY := Lib.hid hy
  clear hy h
  go_enter Try.func73, Try.ntmps73
  go_wp2_with fail
  refine HY.out.mono ?_
  rintro e w1 ⟨rfl, rfl⟩
  go_wp2
  go_ret
  exact ⟨rfl, rfl⟩

set_option maxRecDepth 100000 in
set_option maxHeartbeats 1000000 in
theorem fnN_any {B : Nat} (s : Nat) (v : Value) (l : List Nat) (px : Value) (P : Nat → Bool) (w : World) (hs : SelAt w s v l B) (hn : l.length ≤ 200)
    (hf : ∀ k, k < l.length → ∀ w' : World, Below w.heap.size w w' → ∀ s' : Nat, Calls Try.prog 73 #[.int .i64 (k : Int), .pointer (some ⟨s', 0, none⟩), px] w' (BoolPost (P k) w')) :
    Calls Try.prog 72 #[.pointer (some ⟨s, 0, none⟩), .func (.func 73) #[] #[px]] w (SelPost (kept (fun k => P k == false) l l.length) w) := by
  have hw := winnowN_any s v l px P false w hs hn hf
  obtain ⟨L, hL⟩ : ∃ L, kept (fun k => P k == false) l l.length = L := ⟨_, rfl⟩
  rw [hL] at hw ⊢
  clear hL
  obtain ⟨d, hd⟩ := hs.doc
  have HW := Lib.hid hw
  have HD := Lib.hid hd
  clear hw hs hf hd
  go_enter Try.func72, Try.ntmps72
  go_wp2_with fail
  refine HW.out.mono ?_
  rintro e w1 ⟨v', rfl, ho, hb⟩
  have c1' := cell_below hb.out HD.out
  obtain ⟨a', cap', hv, _⟩ := ho.out.ptrs.nil
  rw [List.length_map] at hv
  subst hv
  clear HW HD
  go_wp2
  go_ret
  refine ⟨w1.heap.size, .slice a' L.length cap', rfl, Lib.hid ⟨?_, ⟨d, ?_⟩, ?_, hb.out.size⟩, Lib.hid ?_⟩
  · exact cell_alloc_new' _ _ _ (by simp) rfl
  · exact cell_alloc_new' _ _ _ (by simp) rfl
  · exact ho.out.alloc _
  · exact hb.out.alloc hb.out.size _

set_option maxRecDepth 100000 in
set_option maxHeartbeats 1000000 in
theorem byN_any (W : World) (a : Option Addr) (len cap : Nat) (ts : List NodeD) (hR : RightT ts len) (hN : Nodes W a len ts) (v : Value) (l : List Nat) (r1 : ReadsAs W v (l.map intV)) (i1 : ∀ i ∈ l, i < len) (o1 : Once l) (n1 : l.length ≤ 200)
    (ba : Option Addr) (bn bc : Nat) (bs : List Bool) (hbs : Bools W ba bn bs) :
    Calls Try.prog 38 #[.slice a len cap, v, .slice ba bn bc] W (OwnPl2Post (kept (fun k => bs.getD k false == false) l l.length) W) := by
  have hlen := hR.le
  have hb0 : Below W.heap.size W (W.alloc (.cells #[.slice ba bn bc] 55)) := (Below.refl _ _).alloc (Nat.le_refl _) _
  have hx0 : (W.alloc (.cells #[.slice ba bn bc] 55)).cell? ⟨W.heap.size, 0, none⟩ = some (.slice ba bn bc) := cell_alloc_new' _ _ _ rfl rfl
  have hch := chosen_any _ a len cap ts hR (hN.below hb0) v l (r1.below hb0) i1 o1 n1
  have hbs0 := hbs.below hb0
  obtain ⟨w0, hw0⟩ : ∃ w0, W.alloc (.cells #[.slice ba bn bc] 55) = w0 := ⟨_, rfl⟩
  rw [hw0] at hb0 hx0 hch hbs0
  obtain ⟨K, hK⟩ : ∃ K, kept (fun k => bs.getD k false == false) l l.length = K := ⟨_, rfl⟩
  have hKm : ∀ i ∈ K, i < len := fun i hi => i1 i (kept_mem _ l _ (Nat.le_refl _) i (by rw [← hK] at hi; exact hi))
  have hKn : K.length ≤ 200 := Nat.le_trans (by rw [← hK]; exact kept_length _ l _) n1
  rw [hK]
  have HK := Lib.hid hK
  have HKM := Lib.hid hKm
  clear hK hKm
  have HCH := Lib.hid hch
  have HX0 := Lib.hid hx0
  have HB0 := Lib.hid hb0
  have HBS := Lib.hid hbs0
  have HI1 := Lib.hid i1
  have HO := Lib.hid o1
  clear hR hN hch r1 i1 o1 hbs hx0 hb0 hbs0
  have hmf : ∀ (fn : Fn) (first cap : Array Value) (w : World), (Instr.makeFunc fn first cap).run Try.prog w = .ok (.func fn first cap) w := fun _ _ _ _ => rfl
  go_enter Try.func38, Try.ntmps38
  go_wp2_with fail
  refine HCH.out.mono ?_
  rintro e w1 ⟨bl, nb, vv, s, v, rfl, hF, hs, hb⟩
  have hfn := fnN_any s v (l.map nb) (.pointer (some ⟨W.heap.size, 0, none⟩)) (fun k => bs.getD k false) w1 hs.out (by simpa using n1) (fun k hk w' hb' s' => cloN_any ba bn bc bs W.heap.size k s' w' ((HBS.out.below hb.out).below hb') (cell_below hb' (cell_below hb.out HX0.out)))
  rw [kept_eq, HK.out] at hfn
  have HFN := Lib.hid hfn
  clear hfn HCH hs
  go_wp2_with fail
  refine HFN.out.mono ?_
  rintro e w2 ⟨s2, v2, rfl, hs2, hb2⟩
  have hF2 := hF.out.below hb2.out
  have c0 := hs2.out.nodes
  have hpl := placesOf_any w2 bl len len nb vv ts hF2 hlen v2 K hs2.out.own.ptrs HKM.out hKn
  have HPL := Lib.hid hpl
  have hb02 : Below W.heap.size W w2 := HB0.out.trans ((hb.out.trans (hb2.out.mono hb.out.size)).mono HB0.out.size)
  have HB02 := Lib.hid hb02
  clear hpl hF2 hF hs2 hb hb2 hb02 HFN
  go_wp2_with fail
  refine HPL.out.mono ?_
  rintro e w3 ⟨v3, rfl, ho3, hb3⟩
  have hfin := Lib.hid (HB02.out.trans (hb3.out.mono HB02.out.size))
  have hown : Hid (OwnPl w3 W.heap.size v3 K) := Lib.hid (ownsRow_base ho3.out HB02.out.size)
  clear HPL ho3 hb3
  go_wp2
  go_ret2
  exact ⟨v3, rfl, hown, hfin⟩

end Go.Proofs.Ytobnglgnoflbnaa
