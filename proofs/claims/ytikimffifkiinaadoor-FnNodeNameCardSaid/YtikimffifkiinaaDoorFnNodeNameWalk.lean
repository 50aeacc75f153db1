/- The walk of FnNodeName. -/
import Derived.Test.YtikimffifkiinaaDoorNodeName
import Derived.Test.YtikimffifkiinaaDoorFits
import Derived.BigGuardPart
namespace Go.Proofs.YtikimffifkiinaaDoor
open Go.RowKit
set_option linter.unusedVariables false
set_option linter.unusedSimpArgs false

def StrPostB (z : ByteArray) (w : World) (e : Ending) (w' : World) : Prop := e = .returned (.string z) ∧ Hid (Below w.heap.size w w')

theorem nameOf_kind (n : NodeD) {k : Int} (h : n.kind = k) : nameOf n = if k = 1 then sDocument else if k = 4 then sText else if k = 5 then sComment else if k = 3 then n.tag else n.text := by
  subst h
  unfold nameOf dataOf
  split
  · rfl
  · split
    · rfl
    · split
      · rfl
      · rfl

def ValPost (v : Value) (w : World) (e : Ending) (w' : World) : Prop := e = .returned v ∧ w = w'

set_option maxRecDepth 100000 in
theorem selLength_any (s n c : Nat) (a : Option Addr) (w : World) (c0 : w.cell? ⟨s, 0, none⟩ = some (.slice a n c)) :
    Calls Tryd.prog 30 #[.pointer (some ⟨s, 0, none⟩)] w (ValPost (.int .i64 (n : Int)) w) := by
  go_enter Tryd.func30, Tryd.ntmps30
  go_wp2
  go_ret
  exact ⟨rfl, rfl⟩

set_option maxRecDepth 100000 in
theorem selGet_any (s b off c p : Nat) (w : World) (c0 : w.cell? ⟨s, 0, none⟩ = some (.slice (some ⟨b, off, none⟩) 1 c)) (c1 : w.cell? ⟨b, off, none⟩ = some (.pointer (some ⟨p, 0, none⟩))) :
    Calls Tryd.prog 32 #[.pointer (some ⟨s, 0, none⟩), .int .i64 0] w (ValPost (.pointer (some ⟨p, 0, none⟩)) w) := by
  go_enter Tryd.func32, Tryd.ntmps32
  go_wp2
  go_ret
  exact ⟨rfl, rfl⟩

set_option maxRecDepth 100000 in
set_option maxHeartbeats 2000000 in
theorem selNodeName_any {B B' : Nat} (s : Nat) (v : Value) (x tb off cap : Nat) (w : World) (bl len : Nat) (nb : Nat → Nat) (vv : Nat → Value) (ts : List NodeD) (hs : SelAt w s v ([x].map nb) B) (hF : Forest B' w bl len nb vv ts) (hx : x < len) (ht : TabAt w tb off cap)
    (hk : kd ts x = 1 ∨ kd ts x = 2 ∨ kd ts x = 3 ∨ kd ts x = 4 ∨ kd ts x = 5) :
    Calls Tryd.prog 18 #[.pointer (some ⟨s, 0, none⟩)] w (StrPostB (nameOf (ts.getD x default)) w) := by
  have c0 := hs.nodes
  obtain ⟨a, cp, b, of_, rfl, hm, ha, hc⟩ := ptrs_open hs.own.ptrs
  simp only [List.map_cons, List.map_nil, List.length_cons, List.length_nil] at c0 ha hc
  obtain rfl := ha (by omega)
  have ck := hc 0 (by omega)
  simp only [Nat.add_zero, List.getD, List.getElem?_cons_zero, Option.getD_some] at ck
  have hnm := fun (w' : World) (hb : Below w.heap.size w w') => nodeName_any w' (nb x) tb off cap _ (ts.getD x default) ((hF.below hb).node hx) rfl rfl (ht.below hb) hk
  obtain ⟨z, hz⟩ : ∃ z, nameOf (ts.getD x default) = z := ⟨_, rfl⟩
  simp only [hz] at hnm
  rw [hz]
  have HN := Lib.hid hnm
  clear hnm hz hs hF ht hk hc ha
  go_enter Tryd.func18, Tryd.ntmps18
  go_wp2_with fail
  refine (selLength_any s 1 cp _ w c0).mono ?_
  rintro e w1 ⟨rfl, rfl⟩
  go_wp2_with fail
  refine (selGet_any s b of_ cp (nb x) w c0 ck).mono ?_
  rintro e w1 ⟨rfl, rfl⟩
  go_wp2_with fail
  refine (HN.out w (Below.refl _ _)).mono ?_
  rintro e w1 ⟨rfl, d, rfl⟩
  go_wp2
  go_ret
  exact ⟨rfl, Lib.hid (below_drewN (Below.refl _ _) _)⟩

def NamePost (z : ByteArray) (w : World) (e : Ending) (w' : World) : Prop := e = .returned (.tuple #[.string z, .bool true]) ∧ Hid (Below w.heap.size w w')

theorem TabAt.later {w w' : World} {B tb off cap : Nat} (h : TabAt w tb off cap) (hb : Below B w w') (hB : w.heap.size ≤ B) : TabAt w' tb off cap := h.below (hb.mono hB)

theorem kinds_of {ts : List NodeD} {len x : Nat} (hR : RightT ts len) (hx : x < len) : kd ts x = 1 ∨ kd ts x = 2 ∨ kd ts x = 3 ∨ kd ts x = 4 ∨ kd ts x = 5 := by
  rcases (hR.node x hx).kinds with ⟨h, _⟩ | ⟨h, _⟩ | h | ⟨h, _⟩ | ⟨h, _⟩
  · exact .inl h
  · exact .inr (.inl h)
  · exact .inr (.inr (.inl h))
  · exact .inr (.inr (.inr (.inl h)))
  · exact .inr (.inr (.inr (.inr h)))

set_option maxRecDepth 100000 in
set_option maxHeartbeats 2000000 in
theorem implNodeName_any (W : World) (a : Option Addr) (len cap : Nat) (ts : List NodeD) (hR : RightT ts len) (hN : Nodes W a len ts) (tb off tcap : Nat) (ht : TabAt W tb off tcap) (v : Value) (x : Nat) (r1 : ReadsAs W v ([x].map intV)) (hx : x < len) :
    Calls Tryd.prog 8 #[.slice a len cap, v] W (NamePost (nameOf (ts.getD x default)) W) := by
  have hch := chosen_any W a len cap ts hR hN v [x] r1 (by simp [hx]) (fun i j hi hj _ => by simp at hi hj; omega) (by simp)
  have hk := kinds_of hR hx
  have hsel := fun (B B' s : Nat) (v : Value) (w : World) (bl : Nat) (nb : Nat → Nat) (vv : Nat → Value) (hs : SelAt w s v ([x].map nb) B) (hF : Forest B' w bl len nb vv ts) (ht : TabAt w tb off tcap) => selNodeName_any s v x tb off tcap w bl len nb vv ts hs hF hx ht hk
  obtain ⟨z, hz⟩ : ∃ z, nameOf (ts.getD x default) = z := ⟨_, rfl⟩
  simp only [hz] at hsel
  rw [hz]
  have HCH := Lib.hid hch
  have HSEL := Lib.hid hsel
  have HT := Lib.hid ht
  clear hch hsel hz hR hN ht r1 hk
  go_enter Tryd.func8, Tryd.ntmps8
  go_wp2_with fail
  refine HCH.out.mono ?_
  rintro e w1 ⟨bl, nb, vv, s, v1, rfl, hF, hs, hb⟩
  have hsp := HSEL.out _ _ s v1 w1 bl nb vv hs.out hF.out (HT.out.below hb.out)
  have HSP := Lib.hid hsp
  clear hsp HCH HSEL
  go_wp2_with fail
  refine HSP.out.mono ?_
  rintro e w2 ⟨rfl, hb2⟩
  have HB := Lib.hid (hb.out.trans (hb2.out.mono hb.out.size))
  clear hb2 HSP hF hs
  go_wp2
  go_ret2
  exact ⟨rfl, HB⟩

def WithinPost (b : Bool) (w : World) (e : Ending) (w' : World) : Prop := e = .returned (.bool b) ∧ w = w'

set_option maxRecDepth 100000 in
theorem within_any (a : Option Addr) (len cap : Nat) (z : Int) (w : World) (hl : len ≤ 9223372036854775807) :
    Calls Tryd.prog 7 #[.slice a len cap, .int .i64 z] w (WithinPost (decide (0 ≤ z) && decide (z < (len : Int))) w) := by
  cases h1 : decide (0 ≤ z)
  · have h1' := of_decide_eq_false h1
    go_enter Tryd.func7, Tryd.ntmps7
    go_wp2
    go_ret
    exact ⟨by simp, rfl⟩
  · have h1' := of_decide_eq_true h1
    cases h2 : decide (z < (len : Int))
    · have h2' := of_decide_eq_false h2
      go_enter Tryd.func7, Tryd.ntmps7
      go_wp2
      go_ret
      exact ⟨by simp, rfl⟩
    · have h2' := of_decide_eq_true h2
      go_enter Tryd.func7, Tryd.ntmps7
      go_wp2
      go_ret
      exact ⟨by simp, rfl⟩

theorem reads_one {w : World} {g : Nat} {x : Nat} {c : Nat} (h : w.cell? ⟨g, 0, none⟩ = some (.int .i64 (x : Int))) (hc : 1 ≤ c) (hc2 : c ≤ maxLen) : ReadsAs w (.slice (some ⟨g, 0, none⟩) 1 c) ([x].map intV) :=
  ⟨some ⟨g, 0, none⟩, c, rfl, hc, hc2, rfl, by simp [maxLen], fun _ => ⟨g, 0, rfl, fun i hi => by
    have : i = 0 := by simp at hi; omega
    subst this
    simpa [intV] using h⟩⟩

namespace lawFnNodeName

set_option maxRecDepth 100000 in
set_option maxHeartbeats 8000000 in
theorem walk {W : World} (tb off tcap : Nat) (ht : TabAt W tb off tcap) (a : Option Addr) (len cap : Nat) (ts : List NodeD) (h : Nodes W a len ts ∧ len ≤ cap ∧ cap ≤ maxLen) (z : Int) {P : Prop} (_ : P) :
    Calls Tryd.prog 3 #[.slice a len cap, .int .i64 z] W (YesB W) := by
  have HN := Lib.hid h.1
  have hm := h.1.len.2
  have HT := Lib.hid ht
  clear h ht
  go_enter Tryd.func3, Tryd.ntmps3
  go_wp2_with fail
  refine (fits1_any a len cap ts W HN.out).mono ?_
  rintro e w1 ⟨b1, _, rfl, hb1⟩
  have HB1 := Lib.hid hb1
  clear hb1
  cases b1
  · go_wp2
    go_ret
    exact ⟨rfl, HB1.out⟩
  go_wp2_with fail
  refine (right_any a len cap ts w1 (HN.out.below HB1.out)).mono ?_
  rintro e w2 ⟨b2, hb2, rfl, hbel2⟩
  have HB2 := Lib.hid (HB1.out.trans (hbel2.mono HB1.out.size))
  clear hbel2 HB1
  cases b2
  · go_wp2
    go_ret
    exact ⟨rfl, HB2.out⟩
  have HR := Lib.hid (hb2 rfl)
  clear hb2
  go_wp2_with fail
  refine (within_any a len cap z w2 hm).mono ?_
  rintro e w3 ⟨rfl, rfl⟩
  by_cases hz : 0 ≤ z ∧ z < (len : Int)
  rotate_left
  · have hf : (decide (0 ≤ z) && decide (z < (len : Int))) = false := by
      rw [Bool.and_eq_false_iff, decide_eq_false_iff_not, decide_eq_false_iff_not]; omega
    rw [hf]
    clear hz hf
    go_wp2
    go_ret
    exact ⟨rfl, HB2.out⟩
  obtain ⟨x, rfl⟩ := Int.eq_ofNat_of_zero_le hz.1
  have hx : x < len := by omega
  have ht : (decide (0 ≤ (x : Int)) && decide ((x : Int) < (len : Int))) = true := by simp; exact hx
  rw [ht]
  have hxI : (x : Int) < (len : Int) := hz.2
  clear ht hz
  have hk := kinds_of HR.out hx
  obtain ⟨b, of_, rfl, hc⟩ := (HN.out.below HB2.out).at (by omega)
  have c := hc x hx
  have c0 := c.kind
  have c1 := c.tag
  have c2 := c.text
  have hcall := fun (w : World) (hb : Below W.heap.size W w) (v : Value) (hv : ReadsAs w v ([x].map intV)) => implNodeName_any w (some ⟨b, of_, none⟩) len cap ts HR.out (HN.out.below hb) tb off tcap (HT.out.below hb) v x hv hx
  have hkd : kd ts x = (ts.getD x default).kind := rfl
  obtain ⟨n, hn⟩ : ∃ n, ts.getD x default = n := ⟨_, rfl⟩
  rw [hkd] at hk
  simp only [hn] at hk c0 c1 c2 hcall
  have HCALL := Lib.hid hcall
  clear hc c hkd hn hcall
  rcases hk with h | h | h | h | h
  all_goals
    rw [h] at c0
    have hnm := nameOf_kind n h
    have HNM := Lib.hid hnm
    clear hnm
    have d0 : (w2.alloc (.cells #[.string ⟨#[]⟩, .string ⟨#[35, 100, 111, 99, 117, 109, 101, 110, 116]⟩, .string n.text, .string n.tag, .string ⟨#[35, 116, 101, 120, 116]⟩, .string ⟨#[35, 99, 111, 109, 109, 101, 110, 116]⟩] 9)).drew.cell? ⟨b, of_ + x * 5, none⟩ = _ := cell_alloc_old c0 _
    have d1 : ∀ (i : Nat) (y : Value), #[Value.string ⟨#[]⟩, .string ⟨#[35, 100, 111, 99, 117, 109, 101, 110, 116]⟩, .string n.text, .string n.tag, .string ⟨#[35, 116, 101, 120, 116]⟩, .string ⟨#[35, 99, 111, 109, 109, 101, 110, 116]⟩][i]? = some y → (w2.alloc (.cells #[.string ⟨#[]⟩, .string ⟨#[35, 100, 111, 99, 117, 109, 101, 110, 116]⟩, .string n.text, .string n.tag, .string ⟨#[35, 116, 101, 120, 116]⟩, .string ⟨#[35, 99, 111, 109, 109, 101, 110, 116]⟩] 9)).drew.cell? ⟨w2.heap.size, i, none⟩ = some y := fun i y h => cell_alloc_new' w2 _ _ rfl h
    have e1 := d1 1 _ rfl
    have e2 := d1 2 _ rfl
    have e3 := d1 3 _ rfl
    have e4 := d1 4 _ rfl
    have e5 := d1 5 _ rfl
    clear d1
    go_wp2
    go_region
    have hb3 : Below W.heap.size W (w2.alloc (.cells #[.string ⟨#[]⟩, .string ⟨#[35, 100, 111, 99, 117, 109, 101, 110, 116]⟩, .string n.text, .string n.tag, .string ⟨#[35, 116, 101, 120, 116]⟩, .string ⟨#[35, 99, 111, 109, 109, 101, 110, 116]⟩] 9)).drew := below_drewN (HB2.out.alloc HB2.out.size _) 1
    clear d0 e1 e2 e3 e4 e5 c0 c1 c2
    generalize (w2.alloc (.cells #[.string ⟨#[]⟩, .string ⟨#[35, 100, 111, 99, 117, 109, 101, 110, 116]⟩, .string n.text, .string n.tag, .string ⟨#[35, 116, 101, 120, 116]⟩, .string ⟨#[35, 99, 111, 109, 109, 101, 110, 116]⟩] 9)).drew = w3 at hb3 ⊢
    have HB3 := Lib.hid hb3
    clear hb3 HB2
    go_wp2_with fail
    refine (HCALL.out _ (HB3.out.alloc HB3.out.size _) _ (reads_one (cell_alloc_new' w3 #[.int .i64 (x : Int)] 3 rfl rfl) (by omega) (by unfold maxLen; omega))).mono ?_
    rintro e w4 ⟨rfl, hb4⟩
    have HB4 := Lib.hid ((HB3.out.alloc HB3.out.size _).trans (hb4.out.mono (HB3.out.alloc HB3.out.size _).size))
    rw [HNM.out]
    simp only [h, sDocument, sText, sComment, if_true, if_false, reduceIte, Int.reduceEq]
    clear hb4 HB3 HNM
    go_wp2
    go_ret
    exact ⟨rfl, HB4.out⟩

end lawFnNodeName

end Go.Proofs.YtikimffifkiinaaDoor
