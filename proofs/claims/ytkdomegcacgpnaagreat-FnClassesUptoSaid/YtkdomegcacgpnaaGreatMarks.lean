/- impl.marks at a step of classes. -/
import Derived.Test.YtkdomegcacgpnaaGreatChgAt
import Derived.Test.YtkdomegcacgpnaaGreatManyClsAll
namespace Go.Proofs.YtkdomegcacgpnaaGreat
open Go.RowKit
set_option linter.unusedVariables false
set_option linter.unusedSimpArgs false

/-- A selection of elements, as the steps of classes want it. -/
structure SelEl (w : World) (sp : Nat) (B n : Nat) (nb : Nat → Nat) (v : Nat → Value) (lab : Nat → NodeD) (F : Wd) (l : List Nat) (sa : Option Addr) (sg scap : Nat) : Prop where
  dom : DomAt B w n nb v lab F
  hin : ∀ x ∈ l, x < n
  once : Once l
  few : l.length ≤ 200
  hsa : 0 < l.length → sa = some ⟨sg, 0, none⟩
  c0 : w.cell? ⟨sp, 0, none⟩ = some (.slice sa l.length scap)
  crow : ∀ i, i < l.length → w.cell? ⟨sg, i, none⟩ = some (.pointer (some ⟨nb (l.getD i 0), 0, none⟩))
  ne : 0 < l.length → ∀ i, i < n → sg ≠ nb i ∧ (v i).ownBlock ≠ some sg

theorem SelEl.below {w w' : World} {sp B n : Nat} {nb : Nat → Nat} {v : Nat → Value} {lab : Nat → NodeD} {F : Wd} {l : List Nat} {sa : Option Addr} {sg scap : Nat} (h : SelEl w sp B n nb v lab F l sa sg scap) (hb : Below w.heap.size w w') : SelEl w' sp B n nb v lab F l sa sg scap :=
  ⟨h.dom.below hb, h.hin, h.once, h.few, h.hsa, cell_below hb h.c0, fun i hi => cell_below hb (h.crow i hi), h.ne⟩

set_option maxRecDepth 100000 in
set_option maxHeartbeats 2000000 in
theorem elements_any {w : World} {sp B n : Nat} {nb : Nat → Nat} {v : Nat → Value} {lab : Nat → NodeD} {F : Wd} {l : List Nat} {sa : Option Addr} {sg scap : Nat} (h : SelEl w sp B n nb v lab F l sa sg scap) (hel : ∀ x ∈ l, (lab x).kind = 3) :
    Calls Tryz.prog 37 #[.pointer (some ⟨sp, 0, none⟩)] w (fun e w' => e = .returned (.bool true) ∧ w = w') := by
  have c0 := h.c0
  have hm : l.length ≤ 200 := h.few
  have HH := Lib.hid h
  have HE := Lib.hid hel
  clear h hel
  go_enter Tryz.func37, Tryz.ntmps37
  go_wp2
  go_loopw [10] (fun iv wr => ∃ i : Nat, iv = .int .i64 (i : Int) ∧ i ≤ l.length ∧ w = wr) (fun iv _ => l.length - (intOf iv).toNat)
  case atStart => exact ⟨0, by go_num, by omega, rfl⟩
  case round =>
    obtain ⟨i, rfl, hi, rfl⟩ := hrel
    by_cases hlt : i < l.length
    · obtain rfl := HH.out.hsa (by omega)
      have ck := HH.out.crow i hlt
      have hxm := getD_mem' (d := 0) hlt
      obtain ⟨x, hx⟩ : ∃ x, l.getD i 0 = x := ⟨_, rfl⟩
      rw [hx] at ck hxm
      have c5 := (HH.out.dom.node x (HH.out.hin x hxm)).ty
      rw [show (linkR F nb (lab x) (v x) x).ty = 3 by show tyOf (lab x).kind = 3; rw [HE.out x hxm]; rfl] at c5
      have hiI : (i : Int) < (l.length : Int) := by omega
      clear hx hxm
      go_wp2
      refine ⟨?rel, ?measure⟩
      case rel => exact ⟨i + 1, by go_num, by omega, by first | rfl | trivial⟩
      case measure => simp [intOf]; omega
    · obtain rfl : i = l.length := by omega
      go_wp2
      go_ret
      exact ⟨rfl, rfl⟩

/-- What a step does to the words of a class. -/
def clsOp (o : Int) : Wds → Wds → Wds := if o = 14 then moreW else if o = 15 then lessW else togW

def MarksPost (op : Wds → Wds → Wds) (N : Wds) (m s : Nat) (B n : Nat) (nb : Nat → Nat) (v : Nat → Value) (lab : Nat → NodeD) (F : Wd) (l : List Nat) (w : World) (e : Ending) (w' : World) : Prop :=
  e = .returned (.bool true) ∧ ∃ v' lab', Hid (DomAt B w' n nb v' lab' F) ∧ Hid (LabC op N m s lab lab' l) ∧ Hid (OnlyC B n nb v w w')

set_option maxRecDepth 100000 in
set_option maxHeartbeats 4000000 in
theorem marks_any {w : World} {sp B n : Nat} {nb : Nat → Nat} {v : Nat → Value} {lab : Nat → NodeD} {F : Wd} {l : List Nat} {sa : Option Addr} {sg scap : Nat} (h : SelEl w sp B n nb v lab F l sa sg scap) (h0 : 0 < n) (m s : Nat) (hm : m ≤ 50) (hs : s ≤ 2500000000000) (hgood : ∀ x ∈ l, (lab x).kind = 3 ∧ GoodC (lab x).attrs (Wc (lab x).attrs) m s)
    (a : Option Addr) (xs : List ByteArray) (c : Nat) (hx : NamesAt w a xs c) (o : Int) (ho : o = 14 ∨ o = 15 ∨ o = 16) (on wi : Value) (key val : ByteArray) (hon : ∃ a n c, on = .slice a n c) (hwi : ∃ a n c, wi = .slice a n c) :
    Calls Tryz.prog 19 #[.pointer (some ⟨sp, 0, none⟩), .agg #[.int .i64 o, on, wi, .string key, .string val, .slice a xs.length c]] w (MarksPost (clsOp o) (xs.map (·.data.toList)) (m + 1) (s + 1100000000000) B n nb v lab F l w) := by
  obtain ⟨oa, on_, oc, rfl⟩ := hon
  obtain ⟨wa, wn_, wc_, rfl⟩ := hwi
  have hb0 : Below w.heap.size w (w.alloc (.cells #[.int .i64 o, .slice oa on_ oc, .slice wa wn_ wc_, .string key, .string val, .slice a xs.length c] 28)) := (Below.refl _ _).alloc (Nat.le_refl _) _
  have k0 : (w.alloc (.cells #[.int .i64 o, .slice oa on_ oc, .slice wa wn_ wc_, .string key, .string val, .slice a xs.length c] 28)).cell? ⟨w.heap.size, 0, none⟩ = some (.int .i64 o) := cell_alloc_new' _ _ _ rfl rfl
  have k5 : (w.alloc (.cells #[.int .i64 o, .slice oa on_ oc, .slice wa wn_ wc_, .string key, .string val, .slice a xs.length c] 28)).cell? ⟨w.heap.size, 5, none⟩ = some (.slice a xs.length c) := cell_alloc_new' _ _ _ rfl rfl
  obtain ⟨w0, hw0⟩ : ∃ w0, w.alloc (.cells #[.int .i64 o, .slice oa on_ oc, .slice wa wn_ wc_, .string key, .string val, .slice a xs.length c] 28) = w0 := ⟨_, rfl⟩
  rw [hw0] at hb0 k0 k5
  have hS := h.below hb0
  have hX := hx.below hb0
  have hE := elements_any hS (fun x hx => (hgood x hx).1)
  have hold : ∀ w9, OnlyC B n nb v w0 w9 → OnlyC B n nb v w w9 := fun w9 h9 => OnlyC.ahead hb0 (fun B' h1 h2 => by have := h2 0 h0; have := (h.dom.node 0 h0).lt; omega) h9
  have hadd := addMany_any h0 hS.dom l hS.hin hS.once hS.few m s hm hs hgood hS.hsa hS.c0 hS.crow hS.ne a xs c hX
  have hrem := remMany_any h0 hS.dom l hS.hin hS.once hS.few m s hm hs hgood hS.hsa hS.c0 hS.crow hS.ne a xs c hX
  have htog := togMany_any h0 hS.dom l hS.hin hS.once hS.few m s hm hs hgood hS.hsa hS.c0 hS.crow hS.ne a xs c hX
  have HE := Lib.hid hE
  have HADD := Lib.hid hadd
  have HREM := Lib.hid hrem
  have HTOG := Lib.hid htog
  have HOLD := Lib.hid hold
  clear hS hX hE hadd hrem htog hold h hx hgood hb0
  rcases ho with rfl | rfl | rfl
  · clear HREM HTOG
    go_enter Tryz.func19, Tryz.ntmps19
    go_wp2_with fail
    refine HE.out.mono ?_
    rintro e w1 ⟨rfl, rfl⟩
    go_wp2_with fail
    refine HADD.out.mono ?_
    rintro e w1 ⟨rfl, v', lab', h1, h2, h3, _⟩
    have H3 := Lib.hid (HOLD.out w1 h3.out)
    clear h3 HADD HE HOLD k0 k5
    go_wp2
    go_ret
    exact ⟨rfl, v', lab', h1, h2, H3⟩
  · clear HADD HTOG HE
    go_enter Tryz.func19, Tryz.ntmps19
    go_wp2_with fail
    refine HREM.out.mono ?_
    rintro e w1 ⟨rfl, v', lab', h1, h2, h3, _⟩
    have H3 := Lib.hid (HOLD.out w1 h3.out)
    clear h3 HREM HOLD k0 k5
    go_wp2
    go_ret
    exact ⟨rfl, v', lab', h1, h2, H3⟩
  · clear HADD HREM
    go_enter Tryz.func19, Tryz.ntmps19
    go_wp2_with fail
    refine HE.out.mono ?_
    rintro e w1 ⟨rfl, rfl⟩
    go_wp2_with fail
    refine HTOG.out.mono ?_
    rintro e w1 ⟨rfl, v', lab', h1, h2, h3, _⟩
    have H3 := Lib.hid (HOLD.out w1 h3.out)
    clear h3 HTOG HE HOLD k0 k5
    go_wp2
    go_ret
    exact ⟨rfl, v', lab', h1, h2, H3⟩

end Go.Proofs.YtkdomegcacgpnaaGreat
