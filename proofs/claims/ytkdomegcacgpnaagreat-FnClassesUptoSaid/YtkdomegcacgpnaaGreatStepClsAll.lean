/- The reference's step at ChAddClass. laws.sure7 at the step that adds classes. -/
import Derived.Test.YtkdomegcacgpnaaGreatAttrsK
import Derived.Test.YtkdomegcacgpnaaGreatApartK
import Derived.Test.YtkdomegcacgpnaaGreatSure
namespace Go.Proofs.YtkdomegcacgpnaaGreat
open Go.RowKit
set_option linter.unusedVariables false
set_option linter.unusedSimpArgs false

/-- Classes set. -/
def ClsK (o : Int) (xs : List ByteArray) (len : Nat) (pl0 : Nat → Int) (lab0 : Nat → NodeD) (F0 : Wd) (zs : List Int) (n : Nat) (pl : Nat → Int) (lab : Nat → NodeD) (F : Wd) : Prop :=
  n = len ∧ pl = pl0 ∧ F = F0 ∧ ∃ l, Picks len zs l ∧ 0 < l.length ∧ (∀ x ∈ l, (lab0 x).kind = 3) ∧ NamesSure xs ∧ 0 < xs.length ∧ (∀ x ∈ l, SimpleC (ClsVal (lab0 x).attrs)) ∧ AttrsK o xs lab0 lab l

set_option maxRecDepth 100000 in
set_option maxHeartbeats 4000000 in
theorem stepCls_any (W : World) (xs : List ByteArray) (xa : Option Addr) (c : Nat) (hx : StrCells W xa xs.length xs) (hxn : xs.length ≤ 1048576) (hz : ∀ x ∈ xs, x.size ≤ 1048576) (w : World) (hbel : Below W.heap.size W w) (f len : Nat) (vf : Value) (kn : Nat → Nat) (kv av : Nat → Value) (pl : Nat → Int) (lab : Nat → NodeD) (F : Wd) (many : Int) (hK : Knots W.heap.size w len kn kv av pl lab F) (hFo : ForestK W.heap.size w f vf len kn many false) (h0 : 0 < len) (hlen : len ≤ 200) (a : Option Addr) (n ncap : Nat) (zs : List Int) (h : Ints W a n zs)
    (hfit : ∀ x, x < len → (lab x).attrs.length ≤ 1000 ∧ (∀ y ∈ (lab x).attrs, y.1.size ≤ maxLen ∧ y.2.size ≤ maxLen) ∧ (ClsVal (lab x).attrs).size ≤ 10000) :
    Calls Tryz.prog 27 #[.pointer (some ⟨f, 0, none⟩), .agg #[.int .i64 14, .slice a n ncap, .slice none 0 0, .string ⟨#[]⟩, .string ⟨#[]⟩, .slice xa xs.length c]] w (fun e w' => StepKPost W.heap.size f len vf kn (ClsK 14 xs len pl lab F zs) e w' w) := by
  obtain ⟨w0, hw0⟩ : ∃ w0, w.alloc (.cells #[.int .i64 14, .slice a n ncap, .slice none 0 0, .string ⟨#[]⟩, .string ⟨#[]⟩, .slice xa xs.length c] 28) = w0 := ⟨_, rfl⟩
  have hb0 : Below w.heap.size w w0 := by rw [← hw0]; exact (Below.refl _ _).alloc (Nat.le_refl _) _
  have hobj : World.objAt w0 w.heap.size #[.int .i64 14, .slice a n ncap, .slice none 0 0, .string ⟨#[]⟩, .string ⟨#[]⟩, .slice xa xs.length c] 28 := by rw [← hw0]; exact objAt_alloc_new w _ _
  have hWw := hbel.size
  have hbel0 : Below W.heap.size W w0 := hbel.trans (hb0.mono hWw)
  have r0 := hobj.cell (i := 0) (v := .int .i64 14) rfl
  have r1 := hobj.cell (i := 1) (v := .slice a n ncap) rfl
  have r2 := hobj.cell (i := 2) (v := .slice none 0 0) rfl
  have r3 := hobj.cell (i := 3) (v := .string ⟨#[]⟩) rfl
  have r4 := hobj.cell (i := 4) (v := .string ⟨#[]⟩) rfl
  have r5 := hobj.cell (i := 5) (v := .slice xa xs.length c) rfl
  have hs0 := hb0.size
  have hFo0 := hFo.below hb0
  have hch := chosenK_any w0 f len vf kn many false hFo0 h0 hlen a n ncap zs (h.below hbel0)
  have hch2 := fun (w1 : World) (hb : Below w0.heap.size w0 w1) => chosenK_any w1 f len vf kn many false (hFo0.below hb) h0 hlen none 0 0 [] ⟨rfl, Nat.zero_le _, fun h => absurd h (Nat.lt_irrefl 0)⟩
  have hend : ∀ wr, Below w0.heap.size w0 wr → Below W.heap.size w wr := fun wr hb => (hb0.mono hWw).trans (hb.mono (by omega))
  have HCH := Lib.hid hch
  have HCH2 := Lib.hid hch2
  have H0 := Lib.hid (And.intro (hK.below hb0) (And.intro hFo0 hbel0))
  have HEND := Lib.hid hend
  have HARG := Lib.hid (And.intro hx (And.intro hz hfit))
  have HBK := Lib.hid (And.intro hK.base hb0)
  clear hch hch2 hK hFo0 hb0 hFo h hx hz hfit hend hobj hbel hbel0
  go_enter Tryz.func27, Tryz.ntmps27
  go_wp2_with fail
  refine HCH.out.mono ?_
  intro e w1 hp
  rcases hp with ⟨rfl, hb1⟩ | ⟨v1, l, hpk, rfl, ho1, hb1⟩
  · have HC2 := Lib.hid (HCH2.out w1 hb1.out)
    have r2' := cell_below hb1.out r2
    clear r0 r1 r2 r3 r4 r5 HCH
    go_wp2_with fail
    refine HC2.out.mono ?_
    intro e w2 hp
    rcases hp with ⟨rfl, hb2⟩ | ⟨v2, l2, _, rfl, _, hb2⟩
    · have hb02 := hb1.out.trans (hb2.out.mono hb1.out.size)
      go_wp2
      go_ret
      exact .inl ⟨rfl, Lib.hid (HEND.out _ hb02)⟩
    · have hb02 := hb1.out.trans (hb2.out.mono hb1.out.size)
      go_wp2
      go_ret
      exact .inl ⟨rfl, Lib.hid (HEND.out _ hb02)⟩
  · have HC2 := Lib.hid (HCH2.out w1 hb1.out)
    have r2' := cell_below hb1.out r2
    have HP := Lib.hid hpk
    obtain ⟨va, vc, rfl⟩ := ownsRow_slice ho1.out
    clear HCH hpk
    go_wp2_with fail
    refine HC2.out.mono ?_
    intro e w2 hp
    rcases hp with ⟨rfl, hb2⟩ | ⟨v2, l2, hl2, rfl, hv2, hb2⟩
    · have hb02 := hb1.out.trans (hb2.out.mono hb1.out.size)
      go_wp2
      go_ret
      exact .inl ⟨rfl, Lib.hid (HEND.out _ hb02)⟩
    · have hb02 : Below w0.heap.size w0 w2 := hb1.out.trans (hb2.out.mono hb1.out.size)
      have q0 := cell_below hb02 r0
      have q1 := cell_below hb02 r1
      have q2 := cell_below hb02 r2
      have q3 := cell_below hb02 r3
      have q4 := cell_below hb02 r4
      have q5 := cell_below hb02 r5
      by_cases hl0 : l.length = 0
      · have gl : ((l.length : Int) == 0) = true := by simp [hl0]
        clear hl0 hl2 hv2
        go_wp2
        go_ret
        exact .inl ⟨rfl, Lib.hid (HEND.out _ hb02)⟩
      · have gl : ((l.length : Int) == 0) = false := by simp [hl0]
        have hK2 := H0.out.1.below hb02
        have hF2 := H0.out.2.1.below hb02
        have hlle : l.length ≤ 200 := Nat.le_trans HP.out.le hlen
        have ho2 := ownsRow_kept ho1.out (fun k hk => hb2.out.block k (World.ownsRow.lt ho1.out k hk).2)
        obtain ⟨a9, cap9, g9, hv9, hkr⟩ := krow_of ho2
        simp only [Value.slice.injEq] at hv9
        obtain ⟨rfl, _, rfl⟩ := hv9
        have hare := areK_any hK2 va g9 vc l hkr HP.out.lt hlle
        have hbW2 : Below W.heap.size W w2 := H0.out.2.2.trans (hb02.mono (by have := H0.out.2.2.size; omega))
        have hat := attributes_cls W xs xa c HARG.out.1 hxn HARG.out.2.1 w2 hbW2 hK2 l HP.out.lt HP.out.nd hlle w0.heap.size va vc ho2 (fun x hx => HARG.out.2.2 x (HP.out.lt x hx)) a none n ncap 0 0
        have HARE := Lib.hid hare
        have HAT := Lib.hid hat
        have HF2 := Lib.hid (And.intro hF2 hK2)
        have HE2 := Lib.hid (HEND.out _ hb02)
        have HL0 := Lib.hid hl0
        clear hare hat hF2 hK2 ho2 hkr hb02 hbW2 hl2 hv2 ho1 hb1 hb2 r0 r1 r2 r3 r4 r5 r2' hl0 HC2 HCH2
        go_wp2_with fail
        refine HARE.out.mono ?_
        rintro e w3 ⟨bb, rfl, hbb, rfl⟩
        have HBB := Lib.hid hbb
        clear HARE hbb
        cases bb
        · go_wp2
          go_ret
          exact .inl ⟨rfl, HE2⟩
        · go_wp2_with fail
          refine HAT.out.mono ?_
          intro e w4 hp
          clear HAT q0 q1 q2 q3 q4 q5
          rcases hp with ⟨rfl, hb4⟩ | ⟨av4, lab4, rfl, hns, hsim, hpos, hk4, ha4, ho4⟩
          · have HB4 := Lib.hid (HE2.out.trans hb4.out)
            clear hb4
            go_wp2
            go_ret
            exact .inl ⟨rfl, HB4⟩
          · have HN := Lib.hid (And.intro hns (And.intro hsim hpos))
            have HF4 := Lib.hid (HF2.out.1.turn HF2.out.2 ho4.out)
            have HB4 := Lib.hid (HE2.out.trans (ho4.out.below W.heap.size (by have := HE2.out.size; omega) HBK.out.1))
            clear hns hsim hpos ho4
            go_wp2
            go_ret
            refine .inr (.inl ⟨len, kn, kv, av4, pl, lab4, F, many, false, rfl, ⟨rfl, rfl, rfl, l, HP.out, Nat.pos_of_ne_zero HL0.out, fun x hx => ?_, HN.out.1, HN.out.2.2 (Nat.pos_of_ne_zero HL0.out), HN.out.2.1, ha4.out⟩, rfl, hk4, HF4, HB4⟩)
            obtain ⟨i, hi, rfl⟩ := List.getElem_of_mem hx
            have := HBB.out trivial i hi
            rwa [List.getD_eq_getElem?_getD, List.getElem?_eq_getElem hi] at this

end Go.Proofs.YtkdomegcacgpnaaGreat

namespace Go.Proofs.YtkdomegcacgpnaaGreat
open Go.RowKit
set_option linter.unusedVariables false
set_option linter.unusedSimpArgs false

/-- What 'sure' says. -/
structure SureC (ts : List NodeD) (len : Nat) (zs : List Int) (xs : List ByteArray) (l : List Nat) : Prop where
  right : RightT ts len
  picks : Picks len zs l
  some_ : 0 < l.length
  el : ∀ x ∈ l, (ts.getD x default).kind = 3
  names : NamesSure xs
  pos : 0 < xs.length
  simp_ : ∀ x ∈ l, SimpleC (ClsVal (ts.getD x default).attrs)

def SureCPost (ts : List NodeD) (len : Nat) (zs : List Int) (xs : List ByteArray) (W : World) (e : Ending) (w' : World) : Prop :=
  ∃ b, e = .returned (.bool b) ∧ (b = true → ∃ l, SureC ts len zs xs l) ∧ Hid (Below W.heap.size W w')

theorem clsVal_le {l : KVs} {m : Nat} (h : ∀ x ∈ l, x.2.size ≤ m) : (ClsVal l).size ≤ m := by
  unfold ClsVal
  cases hq : lookKV l clsK with
  | none => exact Nat.zero_le _
  | some v =>
    obtain ⟨x, hx, _, rfl⟩ := look_eq hq
    exact h x hx

set_option maxRecDepth 100000 in
set_option maxHeartbeats 1000000 in
theorem sureC_any (W : World) (a : Option Addr) (len cap : Nat) (ts : List NodeD) (hN : Nodes W a len ts) (a1 : Option Addr) (n1 c1 : Nat) (zs : List Int) (hz1 : Ints W a1 n1 zs) (xs : List ByteArray) (xa : Option Addr) (c : Nat) (hx : StrCells W xa xs.length xs) (hxn : xs.length ≤ 1048576) (hz : ∀ x ∈ xs, x.size ≤ 1048576) :
    Calls Tryz.prog 7 #[.slice a len cap, .agg #[.int .i64 14, .slice a1 n1 c1, .slice none 0 0, .string ⟨#[]⟩, .string ⟨#[]⟩, .slice xa xs.length c]] W (SureCPost ts len zs xs W) := by
  obtain ⟨W0, hW0⟩ : ∃ W0, (W.alloc (.cells #[.int .i64 14, .slice a1 n1 c1, .slice none 0 0, .string ⟨#[]⟩, .string ⟨#[]⟩, .slice xa xs.length c] 28)).alloc (.cells #[.int .i64 14, .slice a1 n1 c1, .slice none 0 0, .string ⟨#[]⟩, .string ⟨#[]⟩, .slice xa xs.length c] 28) = W0 := ⟨_, rfl⟩
  have hb0 : Below W.heap.size W W0 := by rw [← hW0]; exact ((Below.refl _ _).alloc (Nat.le_refl _) _).alloc (by simp) _
  have o2 : World.objAt W0 (W.heap.size + 1) #[.int .i64 14, .slice a1 n1 c1, .slice none 0 0, .string ⟨#[]⟩, .string ⟨#[]⟩, .slice xa xs.length c] 28 := by rw [← hW0]; have := objAt_alloc_new (W.alloc (.cells #[.int .i64 14, .slice a1 n1 c1, .slice none 0 0, .string ⟨#[]⟩, .string ⟨#[]⟩, .slice xa xs.length c] 28)) #[.int .i64 14, .slice a1 n1 c1, .slice none 0 0, .string ⟨#[]⟩, .string ⟨#[]⟩, .slice xa xs.length c] 28; rwa [World.size_alloc] at this
  have hch := changedL_any W0 a len cap ts (hN.below hb0) (W.heap.size + 1) 14 a1 n1 c1 none 0 0 xa xs.length c (ClsK 14 xs len (fun i => (i : Int)) (fun i => ts.getD i default) (wd0 (sz ts) len) zs) (o2.cell (i := 0) rfl) (o2.cell (i := 1) rfl) (o2.cell (i := 2) rfl) (o2.cell (i := 3) rfl) (o2.cell (i := 4) rfl) (o2.cell (i := 5) rfl)
    (fun n pl lab F hR hp => by
      obtain ⟨rfl, rfl, rfl, _⟩ := hp
      exact ⟨wd0_ok hR.nest, by have := hR.le; omega, hR.pos, fun i hi => Int.ofNat_lt.2 hi⟩)
    (fun w f vf kn kv av hR hK hF hb => stepCls_any W0 xs xa c (hx.below hb0) hxn hz w hb f len vf kn kv av (fun i => (i : Int)) (fun i => ts.getD i default) (wd0 (sz ts) len) len hK hF hR.pos hR.le a1 n1 c1 zs (hz1.below hb0) (fun x hx => by
      have hf := fit_of hR hN x hx
      exact ⟨by have := hf.few; omega, hf.wa, clsVal_le (fun y hy => by have := hf.vals y hy; omega)⟩))
  have HCH := Lib.hid hch
  have HB0 := Lib.hid hb0
  clear hch hb0 o2 hN hx hz hz1
  go_enter Tryz.func7, Tryz.ntmps7
  go_wp2_with fail
  refine HCH.out.mono ?_
  intro e w1 hp
  rcases hp with ⟨rfl, hb⟩ | ⟨n, pl, lab, F, C, ov, pv, hR, hphi, hC, rfl, ho, hz, hb⟩
  · have HB := Lib.hid (HB0.out.trans (hb.out.mono HB0.out.size))
    clear hb HCH
    go_wp2
    go_ret
    exact ⟨false, rfl, by simp, HB⟩
  · have HB := Lib.hid (HB0.out.trans (hb.out.mono HB0.out.size))
    have HP := Lib.hid (And.intro hR hphi)
    clear hb HCH hR hphi hC ho hz
    go_wp2
    go_ret
    obtain ⟨hR, _, _, _, l, h1, h2, h3, h4, h5, h6, _⟩ := HP.out
    exact ⟨true, rfl, fun _ => ⟨l, hR, h1, h2, h3, h4, h5, h6⟩, HB⟩

end Go.Proofs.YtkdomegcacgpnaaGreat

