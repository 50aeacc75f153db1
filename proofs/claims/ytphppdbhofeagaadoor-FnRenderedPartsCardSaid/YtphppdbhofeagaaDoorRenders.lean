/- html.render, html.Render; goquery's Render, OuterHtml, Html; impl.Render, impl.Inner: of a plain tree. -/
import Derived.Test.YtphppdbhofeagaaDoorRender1El
import Derived.Test.YtphppdbhofeagaaDoorBldStr
import Derived.Test.YtphppdbhofeagaaDoorChosen
import Derived.BigQuiet
namespace Go.Proofs.YtphppdbhofeagaaDoor
open Go.RowKit
set_option linter.unusedVariables false
set_option linter.unusedSimpArgs false

/-- The variable plaintextAbort holds an error. -/
def AbortAt (w : World) : Prop := ∃ T v, w.cell? ⟨2, 0, none⟩ = some (.iface T v)

theorem AbortAt.below {w w' : World} (h : AbortAt w) (hb : Below w.heap.size w w') : AbortAt w' := by
  obtain ⟨T, v, h1⟩ := h
  exact ⟨T, v, cell_below hb h1⟩

theorem nilAbort (T : TypeId) (v : Value) (w : World) : (binOp .eql 41 .nilIface (.iface T v)).run Tryd.prog w = .ok (.bool false) w := by kernel_rfl

/-- A plain tree in memory. -/
structure Rt (B' : Nat) (W : World) (bl len : Nat) (nb : Nat → Nat) (vv : Nat → Value) (ts : List NodeD) : Prop where
  forest : Forest B' W bl len nb vv ts
  right : RightT ts len
  void : VoidAt W
  plain : ∀ i, 4 ≤ i → i < len → PlainNode (ts.getD i default)
  abort : AbortAt W

theorem Rt.below {B' : Nat} {W w : World} {bl len : Nat} {nb : Nat → Nat} {vv : Nat → Value} {ts : List NodeD} (h : Rt B' W bl len nb vv ts) (hb : Below W.heap.size W w) : Rt B' w bl len nb vv ts :=
  ⟨h.forest.below hb, h.right, h.void.below hb, h.plain, h.abort.below hb⟩

set_option maxRecDepth 100000 in
set_option maxHeartbeats 2000000 in
theorem render_any {B' : Nat} {W : World} {bl len : Nat} {nb : Nat → Nat} {vv : Nat → Value} {ts : List NodeD} (h : Rt B' W bl len nb vv ts) (b x : Nat) (l : List UInt8) (w : World) (hx : x < len) (h4 : 4 ≤ x) (hb : Below W.heap.size W w) (hbuf : IsB W.heap.size b l w) (hlim : l.length ≤ 40000000000) :
    Calls Tryd.prog 44 #[wtr b, .pointer (some ⟨nb x, 0, none⟩)] w (Wrote W.heap.size b (l ++ rend ts x) w) := by
  have hfit := h.right.nest.fit x hx
  have hle := h.right.le
  have hc := render1_any h.forest h.right h.void h.plain b (sz ts x) x l w hx h4 (Nat.le_refl _) hb hbuf (by omega)
  have HC := Lib.hid hc
  have HA := Lib.hid fun (w' : World) (hb' : Below w.heap.size w w') => h.abort.below (hb.trans (hb'.mono hb.size))
  have HA2 := Lib.hid fun (w' : World) (hb' : Below W.heap.size w w') => h.abort.below (hb.trans hb')
  obtain ⟨lf, hlf⟩ : ∃ lf, l ++ rend ts x = lf := ⟨_, rfl⟩
  rw [hlf] at HC ⊢
  clear hc h hb hbuf hlf
  go_enter Tryd.func44, Tryd.ntmps44
  go_wp2_with fail
  refine HC.out.mono ?_
  rintro e w2 ⟨rfl, hb2, hbl2⟩
  obtain ⟨T, v, hg⟩ := HA2.out w2 hbl2
  have hne := nilAbort T v w2
  have HB := Lib.hid (And.intro hb2 hbl2)
  clear hb2 hbl2 HC HA HA2
  go_wp2
  go_ret
  exact ⟨rfl, HB.out.1, HB.out.2⟩

theorem asWriter (b : Nat) (w : World) : (Instr.typeAssert (wtr b) 80 85 true).run Tryd.prog w = .ok (.tuple #[wtr b, .bool true]) w := by kernel_rfl

set_option maxRecDepth 100000 in
set_option maxHeartbeats 2000000 in
theorem htmlRender_any {B' : Nat} {W : World} {bl len : Nat} {nb : Nat → Nat} {vv : Nat → Value} {ts : List NodeD} (h : Rt B' W bl len nb vv ts) (b x : Nat) (l : List UInt8) (w : World) (hx : x < len) (h4 : 4 ≤ x) (hb : Below W.heap.size W w) (hbuf : IsB W.heap.size b l w) (hlim : l.length ≤ 40000000000) :
    Calls Tryd.prog 28 #[wtr b, .pointer (some ⟨nb x, 0, none⟩)] w (Wrote W.heap.size b (l ++ rend ts x) w) := by
  have HC := Lib.hid (render_any h b x l w hx h4 hb hbuf hlim)
  have has := asWriter b w
  obtain ⟨lf, hlf⟩ : ∃ lf, l ++ rend ts x = lf := ⟨_, rfl⟩
  rw [hlf] at HC ⊢
  clear h hb hbuf hlf
  go_enter Tryd.func28, Tryd.ntmps28
  go_wp2_with fail
  refine HC.out.mono ?_
  rintro e w2 ⟨rfl, hb2, hbl2⟩
  have HB := Lib.hid (And.intro hb2 hbl2)
  clear hb2 hbl2 HC
  go_wp2
  go_ret
  exact ⟨rfl, HB.out.1, HB.out.2⟩

def ValPost (v : Value) (w : World) (e : Ending) (w' : World) : Prop := e = .returned v ∧ w = w'

set_option maxRecDepth 100000 in
theorem selLength_any (s n c : Nat) (a : Option Addr) (w : World) (c0 : w.cell? ⟨s, 0, none⟩ = some (.slice a n c)) :
    Calls Tryd.prog 42 #[.pointer (some ⟨s, 0, none⟩)] w (ValPost (.int .i64 (n : Int)) w) := by
  go_enter Tryd.func42, Tryd.ntmps42
  go_wp2
  go_ret
  exact ⟨rfl, rfl⟩

set_option maxRecDepth 100000 in
theorem selGet_any (s b off c p : Nat) (w : World) (c0 : w.cell? ⟨s, 0, none⟩ = some (.slice (some ⟨b, off, none⟩) 1 c)) (c1 : w.cell? ⟨b, off, none⟩ = some (.pointer (some ⟨p, 0, none⟩))) :
    Calls Tryd.prog 43 #[.pointer (some ⟨s, 0, none⟩), .int .i64 0] w (ValPost (.pointer (some ⟨p, 0, none⟩)) w) := by
  go_enter Tryd.func43, Tryd.ntmps43
  go_wp2
  go_ret
  exact ⟨rfl, rfl⟩

/-- A selection of one node: its cells. -/
theorem sel_one {w : World} {s : Nat} {v : Value} {p B : Nat} (h : SelAt w s v [p] B) : ∃ b of_ cp, w.cell? ⟨s, 0, none⟩ = some (.slice (some ⟨b, of_, none⟩) 1 cp) ∧ w.cell? ⟨b, of_, none⟩ = some (.pointer (some ⟨p, 0, none⟩)) := by
  have c0 := h.nodes
  obtain ⟨a, cp, b, of_, rfl, hm, ha, hc⟩ := ptrs_open h.own.ptrs
  simp only [List.length_cons, List.length_nil] at c0 ha hc
  obtain rfl := ha (by omega)
  have ck := hc 0 (by omega)
  exact ⟨b, of_, cp, c0, by simpa using ck⟩

set_option maxRecDepth 100000 in
set_option maxHeartbeats 2000000 in
theorem gqRender_any {B' B : Nat} {W : World} {bl len : Nat} {nb : Nat → Nat} {vv : Nat → Value} {ts : List NodeD} (h : Rt B' W bl len nb vv ts) (b x s : Nat) (v : Value) (l : List UInt8) (w : World) (hx : x < len) (h4 : 4 ≤ x) (hb : Below W.heap.size W w) (hbuf : IsB W.heap.size b l w) (hlim : l.length ≤ 40000000000) (hs : SelAt w s v [nb x] B) :
    Calls Tryd.prog 26 #[wtr b, .pointer (some ⟨s, 0, none⟩)] w (Wrote W.heap.size b (l ++ rend ts x) w) := by
  have HC := Lib.hid (htmlRender_any h b x l w hx h4 hb hbuf hlim)
  obtain ⟨sb, so, cp, c0, c1⟩ := sel_one hs
  obtain ⟨lf, hlf⟩ : ∃ lf, l ++ rend ts x = lf := ⟨_, rfl⟩
  rw [hlf] at HC ⊢
  clear h hb hbuf hlf hs
  go_enter Tryd.func26, Tryd.ntmps26
  go_wp2_with fail
  refine (selLength_any s 1 cp _ w c0).mono ?_
  rintro e w1 ⟨rfl, rfl⟩
  go_wp2_with fail
  refine (selGet_any s sb so cp (nb x) w c0 c1).mono ?_
  rintro e w1 ⟨rfl, rfl⟩
  go_wp2_with fail
  refine HC.out.mono ?_
  rintro e w2 ⟨rfl, hb2, hbl2⟩
  have HB := Lib.hid (And.intro hb2 hbl2)
  clear hb2 hbl2 HC
  go_wp2
  go_ret
  exact ⟨rfl, HB.out.1, HB.out.2⟩

def OuterPost (l : List UInt8) (w : World) (e : Ending) (w' : World) : Prop := e = .returned (.tuple #[.string ⟨l.toArray⟩, .nilIface]) ∧ Below w.heap.size w w'

set_option maxRecDepth 100000 in
set_option maxHeartbeats 2000000 in
theorem outer_any {B' B : Nat} {w : World} {bl len : Nat} {nb : Nat → Nat} {vv : Nat → Value} {ts : List NodeD} (h : Rt B' w bl len nb vv ts) (x s : Nat) (v : Value) (hx : x < len) (h4 : 4 ≤ x) (hs : SelAt w s v [nb x] B) :
    Calls Tryd.prog 15 #[.pointer (some ⟨s, 0, none⟩)] w (OuterPost (rend ts x) w) := by
  have hb0 : Below w.heap.size w (w.alloc (.cells #[.pointer none, .slice none 0 0] 56)) := (Below.refl _ _).alloc (Nat.le_refl _) _
  have hfr := Lib.fresh_isBuilder 56 5 w
  have hc := gqRender_any h w.heap.size x s v [] _ hx h4 hb0 hfr (by simp) (hs.below hb0)
  rw [List.nil_append] at hc
  have HC := Lib.hid hc
  have HB0 := Lib.hid hb0
  obtain ⟨lf, hlf⟩ : ∃ lf, rend ts x = lf := ⟨_, rfl⟩
  rw [hlf] at HC ⊢
  clear h hb0 hfr hlf hs hc
  go_enter Tryd.func15, Tryd.ntmps15
  go_wp2_with fail
  refine HC.out.mono ?_
  rintro e w2 ⟨rfl, hb2, hbl2⟩
  have HS := Lib.hid (Tryd.Builder_String_any w.heap.size w.heap.size lf w2 hb2 (HB0.out.trans hbl2).size)
  have HB := Lib.hid (HB0.out.trans hbl2)
  clear hb2 hbl2 HC HB0
  go_wp2_with fail
  refine HS.out.mono ?_
  rintro e w3 ⟨rfl, hb3⟩
  have HB3 := Lib.hid (HB.out.trans hb3)
  clear hb3 HS HB
  go_wp2
  go_ret2
  exact ⟨rfl, HB3.out⟩

set_option maxRecDepth 100000 in
set_option maxHeartbeats 4000000 in
theorem selHtml_any {B' B : Nat} {w : World} {bl len : Nat} {nb : Nat → Nat} {vv : Nat → Value} {ts : List NodeD} (h : Rt B' w bl len nb vv ts) (x s : Nat) (v : Value) (hx : x < len) (h4 : 4 ≤ x) (hs : SelAt w s v [nb x] B) :
    Calls Tryd.prog 16 #[.pointer (some ⟨s, 0, none⟩)] w (OuterPost (inner ts x) w) := by
  have hb0 : Below w.heap.size w (w.alloc (.cells #[.pointer none, .slice none 0 0] 56)) := (Below.refl _ _).alloc (Nat.le_refl _) _
  have hfr : IsB w.heap.size w.heap.size [] _ := Lib.fresh_isBuilder 56 5 w
  obtain ⟨sb, so, cp, c0, c1⟩ := sel_one hs
  have s0 := cell_below hb0 c0
  have s1 := cell_below hb0 c1
  have hnest := h.right.nest
  have hpos := (h.right.sizes x hx).1
  have hfit := hnest.fit x hx
  have hle := h.right.le
  have hcell : ∀ j, j < len → ∀ w', Below w.heap.size w w' → w'.cell? ⟨nb j, 1, none⟩ = some (lk ((kidTo (sz ts) j (j + 1)).map nb)) ∧ ∀ p, par (sz ts) j = some p → w'.cell? ⟨nb j, 4, none⟩ = some (lk ((kidTo (sz ts) p (j + sz ts j)).map nb)) := fun j hj w' hw => by
    have hn := (h.forest.below hw).node hj
    have c1 := hn.fst
    have c4 := hn.nxt
    simp only [nodeR] at c1 c4
    exact ⟨c1, fun p hp => by rw [nxt_kidTo hp] at c4; exact c4⟩
  have hkl : ∀ j, x < j → j < x + sz ts x → (rend ts j).length ≤ sz ts j * 600000 := fun j h1 h2 => rend_length hnest (fun i h1 h2 => small_node h.right h2 (h.plain i h1 h2)) (by omega) (by omega)
  have hren := fun (j : Nat) (l : List UInt8) (w' : World) (hj : j < len) (hj4 : 4 ≤ j) (hb : Below w.heap.size w w') (hbuf : IsB w.heap.size w.heap.size l w') (hl : l.length ≤ 40000000000) => htmlRender_any h w.heap.size j l w' hj hj4 hb hbuf hl
  have f1 := (hcell x hx _ hb0).1
  obtain ⟨w0, hw0⟩ : ∃ w0, w.alloc (.cells #[.pointer none, .slice none 0 0] 56) = w0 := ⟨_, rfl⟩
  rw [hw0] at hb0 hfr s0 s1 f1
  have HCELL := Lib.hid hcell
  have HREN := Lib.hid hren
  have HKL := Lib.hid hkl
  have HNEST := Lib.hid hnest
  have HB0 := Lib.hid (And.intro hfr hb0)
  obtain ⟨lf, hlf⟩ : ∃ lf, inner ts x = lf := ⟨_, rfl⟩
  rw [hlf]
  have HLF := Lib.hid hlf
  clear hlf
  clear h hs hcell hkl hren hnest hb0 hfr c0 c1
  go_enter Tryd.func16, Tryd.ntmps16
  go_wp2
  go_loopg [3, 5] (x + sz ts x - (x + 1)) (fun gk ev c wr => ∃ (j f : Nat) (done : List Nat), gk = x + sz ts x - j ∧ ev = .nilIface ∧ x + 1 ≤ j ∧ j ≤ x + sz ts x ∧ c = lk ((kidTo (sz ts) x j).map nb) ∧ Hid (j < x + sz ts x → par (sz ts) j = some x) ∧ x + sz ts x - j ≤ f ∧ Hid (done ++ kidsFrom (sz ts) (x + sz ts x) f j = kids (sz ts) x) ∧ Hid ((done.flatMap (rend ts)).length ≤ (j - (x + 1)) * 600000) ∧ Hid (IsB w.heap.size w.heap.size (done.flatMap (rend ts)) wr) ∧ Hid (Below w.heap.size w wr))
  case atStart => exact ⟨x + 1, sz ts x, [], rfl, rfl, by omega, by omega, rfl, Lib.hid (fun h => par_first hx (by omega)), by omega, Lib.hid rfl, Lib.hid (by simp), Lib.hid HB0.out.1, Lib.hid HB0.out.2⟩
  case round =>
    obtain ⟨j, f, done, rfl, rfl, hj1, hj2, rfl, HPAR, hf, HDONE, HDL, HBJ, HWJ⟩ := hrel
    clear f1 s0 s1
    by_cases hlt : j < x + sz ts x
    · have hjl : j < len := by omega
      have hlam := HNEST.out.lam x j hx (by omega) hlt
      have hjp := HNEST.out.pos j hjl
      have hpj := HPAR.out hlt
      obtain ⟨g, rfl, hst⟩ := kidsFrom_step (z := sz ts) hlt hf
      have hdone := HDONE.out
      rw [hst] at hdone
      have hdone' : (done ++ [j]) ++ kidsFrom (sz ts) (x + sz ts x) g (j + sz ts j) = kids (sz ts) x := by rw [List.append_assoc]; exact hdone
      have hdl := HDL.out
      have hkl := HKL.out j (by omega) hlt
      have hcall := HREN.out j (done.flatMap (rend ts)) wr hjl (by omega) HWJ.out HBJ.out (by omega)
      have hjoin : done.flatMap (rend ts) ++ rend ts j = (done ++ [j]).flatMap (rend ts) := by simp [List.flatMap_append]
      rw [hjoin] at hcall
      have hdl2 : ((done ++ [j]).flatMap (rend ts)).length ≤ (j + sz ts j - (x + 1)) * 600000 := by
        rw [List.flatMap_append, List.length_append]
        simp only [List.flatMap_cons, List.flatMap_nil, List.append_nil]
        omega
      rw [kidTo_lt hlt, Option.map_some, lk_some]
      have HC := Lib.hid hcall
      have HP := Lib.hid hpj
      have HD2 := Lib.hid (And.intro hdone' hdl2)
      clear hcall hpj hdone hdone' hdl hkl hjoin hdl2 hst HPAR HDONE HDL HBJ
      go_wp2_with fail
      refine HC.out.mono ?_
      rintro e w12 ⟨rfl, hb12, hbl12⟩
      have HB12 := Lib.hid (And.intro hb12 (HWJ.out.trans hbl12))
      have c4 := (HCELL.out j hjl w12 HB12.out.2).2 x HP.out
      clear hb12 hbl12 HC HWJ
      go_wp2
      go_roundg (x + sz ts x - (j + sz ts j))
      case measure => omega
      case rel => exact ⟨j + sz ts j, g, done ++ [j], rfl, rfl, by omega, by omega, rfl, Lib.hid (fun h => par_next HNEST.out HP.out hjl h), by omega, Lib.hid HD2.out.1, Lib.hid HD2.out.2, Lib.hid HB12.out.1, Lib.hid HB12.out.2⟩
    · obtain rfl : j = x + sz ts x := by omega
      have hdone := HDONE.out
      rw [kidsFrom_end (Nat.le_refl _), List.append_nil] at hdone
      have hin : done.flatMap (rend ts) = inner ts x := by rw [hdone]; rfl
      have hBJ := HBJ.out
      rw [hin, HLF.out] at hBJ
      have HS := Lib.hid (Tryd.Builder_String_any w.heap.size w.heap.size lf wr hBJ HWJ.out.size)
      rw [kidTo_end hlt, Option.map_none, lk_none]
      clear hdone hin hBJ hlt HPAR HDONE HDL HBJ
      go_wp2_with fail
      refine HS.out.mono ?_
      rintro e w13 ⟨rfl, hb13⟩
      have HB13 := Lib.hid (HWJ.out.trans hb13)
      clear hb13 HS HWJ
      go_wp2
      go_ret2
      exact ⟨rfl, HB13.out⟩

/-- A text and whether there was one. -/
def RendPost (l : List UInt8) (w : World) (e : Ending) (w' : World) : Prop := e = .returned (.tuple #[.string ⟨l.toArray⟩, .bool true]) ∧ Below w.heap.size w w'

theorem reads_one {w : World} {g : Nat} {x : Nat} {c : Nat} (h : w.cell? ⟨g, 0, none⟩ = some (.int .i64 (x : Int))) (hc : 1 ≤ c) (hc2 : c ≤ maxLen) : ReadsAs w (.slice (some ⟨g, 0, none⟩) 1 c) ([x].map intV) :=
  ⟨some ⟨g, 0, none⟩, c, rfl, hc, hc2, rfl, by simp [maxLen], fun _ => ⟨g, 0, rfl, fun i hi => by
    have : i = 0 := by simp at hi; omega
    subst this
    simpa [intV] using h⟩⟩

/-- What the walks want of the arguments and of the variables. -/
structure Plain5 (W : World) (a : Option Addr) (len : Nat) (ts : List NodeD) : Prop where
  nodes : Nodes W a len ts
  right : RightT ts len
  void : VoidAt W
  plain : ∀ i, 4 ≤ i → i < len → PlainNode (ts.getD i default)
  abort : AbortAt W

theorem Plain5.below {W w : World} {a : Option Addr} {len : Nat} {ts : List NodeD} (h : Plain5 W a len ts) (hb : Below W.heap.size W w) : Plain5 w a len ts :=
  ⟨h.nodes.below hb, h.right, h.void.below hb, h.plain, h.abort.below hb⟩

set_option maxRecDepth 100000 in
set_option maxHeartbeats 2000000 in
theorem implRender_any (W : World) (a : Option Addr) (len cap : Nat) (ts : List NodeD) (h : Plain5 W a len ts) (x : Nat) (hx : x < len) (h4 : 4 ≤ x) :
    Calls Tryd.prog 6 #[.slice a len cap, .int .i64 (x : Int)] W (RendPost (rend ts x) W) := by
  have hb0 : Below W.heap.size W (W.alloc (.cells #[.int .i64 (x : Int)] 3)) := (Below.refl _ _).alloc (Nat.le_refl _) _
  have hrd : ReadsAs (W.alloc (.cells #[.int .i64 (x : Int)] 3)) (.slice (some ⟨W.heap.size, 0, none⟩) 1 1) ([x].map intV) := reads_one (cell_alloc_new' W #[.int .i64 (x : Int)] 3 rfl rfl) (by omega) (by unfold maxLen; omega)
  obtain ⟨w0, hw0⟩ : ∃ w0, W.alloc (.cells #[.int .i64 (x : Int)] 3) = w0 := ⟨_, rfl⟩
  rw [hw0] at hb0 hrd
  have hch := chosen_any w0 a len cap ts h.right (h.nodes.below hb0) _ [x] hrd (by simp [hx]) (fun i j hi hj _ => by simp at hi hj; omega) (by simp)
  have HCH := Lib.hid hch
  have HR := Lib.hid h
  have HB0 := Lib.hid hb0
  obtain ⟨lf, hlf⟩ : ∃ lf, rend ts x = lf := ⟨_, rfl⟩
  rw [hlf]
  have HLF := Lib.hid hlf
  clear hlf hch h hrd hb0
  go_enter Tryd.func6, Tryd.ntmps6
  go_wp2_with fail
  refine HCH.out.mono ?_
  rintro e w1 ⟨bl, nb, vv, s, v1, rfl, hF, hs, hb⟩
  have hbW := HB0.out.trans (hb.out.mono HB0.out.size)
  have hrt : Rt w0.heap.size w1 bl len nb vv ts := ⟨hF.out, HR.out.right, HR.out.void.below hbW, HR.out.plain, HR.out.abort.below hbW⟩
  have ho := outer_any hrt x s v1 hx h4 hs.out
  rw [HLF.out] at ho
  have HO := Lib.hid ho
  have HB := Lib.hid hbW
  clear ho hrt hF hs hb hbW HCH HB0
  go_wp2_with fail
  refine HO.out.mono ?_
  rintro e w2 ⟨rfl, hb2⟩
  have HB2 := Lib.hid (HB.out.trans (hb2.mono HB.out.size))
  clear hb2 HO HB
  go_wp2
  go_quiet (fail)
  go_wp2
  go_ret2
  exact ⟨rfl, below_drewN HB2.out _⟩

set_option maxRecDepth 100000 in
set_option maxHeartbeats 2000000 in
theorem implInner_any (W : World) (a : Option Addr) (len cap : Nat) (ts : List NodeD) (h : Plain5 W a len ts) (x : Nat) (v : Value) (hrd : ReadsAs W v ([x].map intV)) (hx : x < len) (h4 : 4 ≤ x) :
    Calls Tryd.prog 7 #[.slice a len cap, v] W (RendPost (inner ts x) W) := by
  have hch := chosen_any W a len cap ts h.right h.nodes _ [x] hrd (by simp [hx]) (fun i j hi hj _ => by simp at hi hj; omega) (by simp)
  have HCH := Lib.hid hch
  have HR := Lib.hid h
  obtain ⟨lf, hlf⟩ : ∃ lf, inner ts x = lf := ⟨_, rfl⟩
  rw [hlf]
  have HLF := Lib.hid hlf
  clear hlf hch h hrd
  go_enter Tryd.func7, Tryd.ntmps7
  go_wp2_with fail
  refine HCH.out.mono ?_
  rintro e w1 ⟨bl, nb, vv, s, v1, rfl, hF, hs, hb⟩
  have hbW := hb.out
  have hrt : Rt W.heap.size w1 bl len nb vv ts := ⟨hF.out, HR.out.right, HR.out.void.below hbW, HR.out.plain, HR.out.abort.below hbW⟩
  have ho := selHtml_any hrt x s v1 hx h4 hs.out
  rw [HLF.out] at ho
  have HO := Lib.hid ho
  have HB := Lib.hid hbW
  clear ho hrt hF hs hb hbW HCH
  go_wp2_with fail
  refine HO.out.mono ?_
  rintro e w2 ⟨rfl, hb2⟩
  have HB2 := Lib.hid (HB.out.trans (hb2.mono HB.out.size))
  clear hb2 HO HB
  go_wp2
  go_ret2
  exact ⟨rfl, HB2.out⟩

end Go.Proofs.YtphppdbhofeagaaDoor
