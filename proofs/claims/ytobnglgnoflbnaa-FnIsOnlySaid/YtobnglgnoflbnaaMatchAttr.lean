/- matchAttribute with idSelector's function; cascadia.IsID. -/
import Derived.Test.YtobnglgnoflbnaaGrown
import Derived.Test.YtobnglgnoflbnaaChosen
namespace Go.Proofs.Ytobnglgnoflbnaa
open Go.RowKit
set_option linter.unusedVariables false
set_option linter.unusedSimpArgs false

/-- Whether one of the first attributes has a key and a value. -/
def hasKV (l : List (ByteArray × ByteArray)) (key val : ByteArray) : Nat → Bool
  | 0 => false
  | k + 1 => hasKV l key val k || (((l.getD k default).1.toList == key.toList) && ((l.getD k default).2.toList == val.toList))

theorem attrCells_get : ∀ (l : List (ByteArray × ByteArray)) (i : Nat), i < l.length → (attrCells l)[i * 3]? = some (.string ByteArray.empty) ∧ (attrCells l)[i * 3 + 1]? = some (.string (l.getD i default).1) ∧ (attrCells l)[i * 3 + 2]? = some (.string (l.getD i default).2) := by
  intro l
  induction l with
  | nil => intro i hi; simp at hi
  | cons x l ih =>
    intro i hi
    have hc : attrCells (x :: l) = [.string ByteArray.empty, .string x.1, .string x.2] ++ attrCells l := by simp [attrCells]
    rw [hc]
    cases i with
    | zero => simp
    | succ i =>
      have hi' : i < l.length := by simpa using hi
      obtain ⟨h1, h2, h3⟩ := ih i hi'
      have e : (i + 1) * 3 = 3 + i * 3 := by omega
      rw [e]
      refine ⟨?_, ?_, ?_⟩
      · rw [List.getElem?_append_right (by simp)]; simpa using h1
      · rw [List.getElem?_append_right (by simp; omega)]; simpa [show 3 + i * 3 + 1 - 3 = i * 3 + 1 by omega] using h2
      · rw [List.getElem?_append_right (by simp; omega)]; simpa [show 3 + i * 3 + 2 - 3 = i * 3 + 2 by omega] using h3

/-- The attributes of a node, as a walk wants them. -/
theorem attr_open {w : World} {B : Nat} {v : Value} {l : List (ByteArray × ByteArray)} (h : w.ownsRow B 183 3 v l.length (attrCells l)) :
    ∃ a cap g, v = .slice a l.length cap ∧ l.length ≤ 9223372036854775807 ∧ (0 < l.length → a = some ⟨g, 0, none⟩) ∧ ∀ i, i < l.length → w.cell? ⟨g, i * 3, none⟩ = some (.string ByteArray.empty) ∧ w.cell? ⟨g, i * 3 + 1, none⟩ = some (.string (l.getD i default).1) ∧ w.cell? ⟨g, i * 3 + 2, none⟩ = some (.string (l.getD i default).2) := by
  rcases h.2 with ⟨rfl, h0⟩ | ⟨g, cap, cur, rfl, hb, hg, hn, hm, hcs, ht⟩
  · exact ⟨none, 0, 0, by rw [h0], by omega, fun h => by omega, fun i hi => by omega⟩
  · refine ⟨_, cap, g, rfl, by unfold maxLen at hm; omega, fun _ => rfl, fun i hi => ?_⟩
    have hadd : ∀ j, (⟨g, 0, none⟩ : Addr).add j = ⟨g, j, none⟩ := fun j => by unfold Addr.add; split <;> simp_all
    obtain ⟨h1, h2, h3⟩ := attrCells_get l i hi
    have c1 := h.cells (g := g) rfl _ _ h1
    have c2 := h.cells (g := g) rfl _ _ h2
    have c3 := h.cells (g := g) rfl _ _ h3
    rw [hadd] at c1 c2 c3
    exact ⟨c1, c2, c3⟩

def StrEqPost (b : Bool) (w : World) (e : Ending) (w' : World) : Prop := e = .returned (.bool b) ∧ w = w'

set_option maxRecDepth 100000 in
theorem idClo_any (s id : ByteArray) (bx : Nat) (w : World) (hx : w.cell? ⟨bx, 0, none⟩ = some (.string id)) :
    Calls Try.prog 135 #[.string s, .pointer (some ⟨bx, 0, none⟩)] w (StrEqPost (s.toList == id.toList) w) := by
  go_enter Try.func135, Try.ntmps135
  go_wp2
  go_ret
  exact ⟨rfl, rfl⟩

set_option maxRecDepth 100000 in
set_option maxHeartbeats 2000000 in
theorem matchAttr_any {B : Nat} (n bx : Nat) (r : NRec) (l : List (ByteArray × ByteArray)) (key id : ByteArray) (w : World) (hn : World.nodeAt w n r) (ht : r.ty = 3) (ho : w.ownsRow B 183 3 r.attr l.length (attrCells l)) (hx : w.cell? ⟨bx, 0, none⟩ = some (.string id)) :
    Calls Try.prog 134 #[.pointer (some ⟨n, 0, none⟩), .string key, .func (.func 135) #[] #[.pointer (some ⟨bx, 0, none⟩)]] w (SomeBoolB (fun b => b = hasKV l key id l.length) w) := by
  have k5 := hn.ty
  have k9 := hn.attr
  rw [ht] at k5
  obtain ⟨a, cap, g, hv, hm, ha, hc⟩ := attr_open ho
  rw [hv] at k9
  have HA := Lib.hid ha
  have HC := Lib.hid hc
  have HX := Lib.hid hx
  clear hn ht ho hv ha hc hx
  go_enter Try.func134, Try.ntmps134
  go_wp2
  go_loopw [19] (fun i wr => ∃ k : Nat, k ≤ l.length ∧ i = .int .i64 (k : Int) ∧ hasKV l key id k = false ∧ Below w.heap.size w wr) (fun i _ => l.length - (intOf i).toNat)
  case atStart => exact ⟨0, by omega, by go_num, rfl, Below.refl _ _⟩
  case round =>
    obtain ⟨k, hk, rfl, hno, hbel⟩ := hrel
    have HBEL := Lib.hid hbel
    have HNO := Lib.hid hno
    clear hbel hno
    by_cases hlt : k < l.length
    · obtain rfl := HA.out (by omega)
      obtain ⟨c0, c1, c2⟩ := HC.out k hlt
      have c0 := cell_below HBEL.out c0
      have c1 := cell_below HBEL.out c1
      have c2 := cell_below HBEL.out c2
      have cx := cell_below HBEL.out HX.out
      have hstep : hasKV l key id (k + 1) = (((l.getD k default).1.toList == key.toList) && ((l.getD k default).2.toList == id.toList)) := by simp only [hasKV, HNO.out, Bool.false_or]
      obtain ⟨x, hxx⟩ : ∃ x, (l.getD k default).1 = x := ⟨_, rfl⟩
      obtain ⟨y, hyy⟩ : ∃ y, (l.getD k default).2 = y := ⟨_, rfl⟩
      rw [hxx] at c1 hstep
      rw [hyy] at c2 hstep
      have hbo : ∀ o, Below w.heap.size w (wr.alloc o) := fun o => HBEL.out.alloc HBEL.out.size o
      have HST := Lib.hid hstep
      have HBO := Lib.hid hbo
      clear hxx hyy hstep hbo
      cases hke : (x.toList == key.toList)
      · have hf : hasKV l key id (k + 1) = false := by rw [HST.out, hke]; rfl
        have HFF := Lib.hid hf
        clear hf
        go_wp2
        go_roundw
        case rel => exact ⟨k + 1, by omega, by go_num, HFF.out, HBO.out _⟩
        case measure => simp [intOf]; omega
      · have hst : hasKV l key id (k + 1) = (y.toList == id.toList) := by rw [HST.out, hke]; rfl
        have hclo := idClo_any y id bx (wr.alloc (.cells #[.string ByteArray.empty, .string x, .string y] 183)) (cell_alloc_old cx _)
        obtain ⟨q, hq⟩ : ∃ q, (y.toList == id.toList) = q := ⟨_, rfl⟩
        rw [hq] at hst hclo
        have HCLO := Lib.hid hclo
        have HS2 := Lib.hid hst
        have HB2 := Lib.hid (HBO.out (.cells #[.string ByteArray.empty, .string x, .string y] 183))
        clear hst hclo hq
        go_wp2_with fail
        refine HCLO.out.mono ?_
        rintro e w1 ⟨rfl, hw⟩
        rw [hw] at HB2
        clear HCLO hw
        cases q
        · go_wp2
          go_roundw
          case rel => exact ⟨k + 1, by omega, by go_num, HS2.out, HB2.out⟩
          case measure => simp [intOf]; omega
        · have hall : ∀ d, hasKV l key id (k + 1 + d) = true := fun d => by
            induction d with
            | zero => exact HS2.out
            | succ d ih => show hasKV l key id (k + 1 + d + 1) = true; simp [hasKV, ih]
          have hfin := hall (l.length - (k + 1))
          rw [show k + 1 + (l.length - (k + 1)) = l.length by omega] at hfin
          have HFIN := Lib.hid hfin
          clear hall hfin
          go_wp2
          go_ret
          exact ⟨true, HFIN.out.symm, rfl, HB2.out⟩
    · obtain rfl : k = l.length := by omega
      go_wp2
      go_ret
      exact ⟨false, HNO.out.symm, rfl, HBEL.out⟩


set_option maxRecDepth 100000 in
set_option maxHeartbeats 1000000 in
theorem idMatch_any {B : Nat} (n : Nat) (r : NRec) (l : List (ByteArray × ByteArray)) (id : ByteArray) (w : World) (hn : World.nodeAt w n r) (ht : r.ty = 3) (ho : w.ownsRow B 183 3 r.attr l.length (attrCells l)) :
    Calls Try.prog 92 #[.agg #[.string id], .pointer (some ⟨n, 0, none⟩)] w (SomeBoolB (fun b => b = hasKV l ⟨#[105, 100]⟩ id l.length) w) := by
  have hb0 : Below w.heap.size w (w.alloc (.cells #[.string id] 125)) := (Below.refl _ _).alloc (Nat.le_refl _) _
  have hm := matchAttr_any (B := B) n w.heap.size r l ⟨#[105, 100]⟩ id (w.alloc (.cells #[.string id] 125)) (hn.alloc _) ht (ho.alloc _) (cell_alloc_new' _ _ _ rfl rfl)
  obtain ⟨w0, hw0⟩ : ∃ w0, w.alloc (.cells #[.string id] 125) = w0 := ⟨_, rfl⟩
  rw [hw0] at hm hb0
  have HM := Lib.hid hm
  have HB := Lib.hid hb0
  clear hm hn ht ho hb0
  have hmf : ∀ (fn : Fn) (first cap : Array Value) (w : World), (Instr.makeFunc fn first cap).run Try.prog w = .ok (.func fn first cap) w := fun _ _ _ _ => rfl
  go_enter Try.func92, Try.ntmps92
  go_wp2_with fail
  refine HM.out.mono ?_
  rintro e w1 ⟨b, hb, rfl, hbel⟩
  have hfin := Lib.hid (And.intro hb (HB.out.trans (hbel.mono HB.out.size)))
  clear HM hb hbel hw0
  go_wp2
  go_ret
  exact ⟨b, hfin.out.1, rfl, hfin.out.2⟩

set_option maxRecDepth 100000 in
set_option maxHeartbeats 1000000 in
theorem isID_any {B : Nat} (n : Nat) (r : NRec) (l : List (ByteArray × ByteArray)) (id : ByteArray) (w : World) (hn : World.nodeAt w n r) (ht : r.ty = 3) (ho : w.ownsRow B 183 3 r.attr l.length (attrCells l)) :
    Calls Try.prog 49 #[.pointer (some ⟨n, 0, none⟩), .string id] w (SomeBoolB (fun b => b = hasKV l ⟨#[105, 100]⟩ id l.length) w) := by
  have hm := idMatch_any (B := B) n r l id w hn ht ho
  have HM := Lib.hid hm
  clear hm hn ht ho
  go_enter Try.func49, Try.ntmps49
  go_wp2_with fail
  refine HM.out.mono ?_
  rintro e w1 ⟨b, hb, rfl, hbel⟩
  have hfin := Lib.hid (And.intro hb hbel)
  clear HM hb hbel
  go_wp2
  go_ret
  exact ⟨b, hfin.out.1, rfl, hfin.out.2⟩

def TwoBools (b : Bool) (w : World) (e : Ending) (w' : World) : Prop := e = .returned (.tuple #[.bool b, .bool true]) ∧ Hid (Below w.heap.size w w')

set_option maxRecDepth 100000 in
set_option maxHeartbeats 1000000 in
theorem implIsId_any (W : World) (a : Option Addr) (len cap : Nat) (ts : List NodeD) (hR : RightT ts len) (hN : Nodes W a len ts) (x : Nat) (hx : x < len) (hk : kd ts x = 3) (id : ByteArray) :
    Calls Try.prog 15 #[.slice a len cap, .int .i64 (x : Int), .string id] W (TwoBools (hasKV (ts.getD x default).attrs ⟨#[105, 100]⟩ id (ts.getD x default).attrs.length) W) := by
  have hlen := hR.le
  have hg := grown_any W a len cap ts hR hN
  obtain ⟨q, hq⟩ : ∃ q, hasKV (ts.getD x default).attrs ⟨#[105, 100]⟩ id (ts.getD x default).attrs.length = q := ⟨_, rfl⟩
  rw [hq]
  have HQ := Lib.hid hq
  have HG := Lib.hid hg
  have HK := Lib.hid hk
  have g1 : decide ((x : Int) < 0) = false := by simp
  have g2 : decide ((len : Int) ≤ (x : Int)) = false := by simp [hx]
  have hxI : (x : Int) < (len : Int) := by omega
  clear hR hN hg hq hk
  go_enter Try.func15, Try.ntmps15
  go_wp2_with fail
  refine HG.out.mono ?_
  rintro e w1 ⟨bl, nb, vv, rfl, hF, hb⟩
  have hn := hF.out.node hx
  have ho := hF.out.seg.own x (Nat.zero_le _) hx
  have hty : (nodeR (fun i => i + sz ts i) 0 nb (ts.getD x default) (vv x) x).ty = 3 := by
    show tyOf (kd ts x) = 3
    rw [HK.out]; rfl
  have hid := isID_any (B := W.heap.size) (nb x) _ _ id w1 hn hty ho
  have c0 := hF.out.cell hx
  have HID := Lib.hid hid
  clear hn ho hty hid HG hF
  go_wp2_with fail
  refine HID.out.mono ?_
  rintro e w2 ⟨b, hbq, rfl, hbel⟩
  rw [HQ.out] at hbq
  subst hbq
  have hfin := Lib.hid (hb.out.trans (hbel.mono hb.out.size))
  clear hbel HID
  go_wp2
  go_ret2
  exact ⟨rfl, hfin⟩

end Go.Proofs.Ytobnglgnoflbnaa
