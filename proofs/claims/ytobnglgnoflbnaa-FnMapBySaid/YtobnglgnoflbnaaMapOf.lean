/- Selection.Map with a function of strings; impl.MapOf. -/
import Derived.Test.YtobnglgnoflbnaaGrep
namespace Go.Proofs.Ytobnglgnoflbnaa
open Go.RowKit
set_option linter.unusedVariables false
set_option linter.unusedSimpArgs false

def StrPost (s : ByteArray) (w : World) (e : Ending) (w' : World) : Prop := e = .returned (.string s) ∧ w = w'

set_option maxRecDepth 100000 in
theorem cloM_any (a : Option Addr) (n cap : Nat) (ss : List ByteArray) (bx k s' : Nat) (w : World) (h : Strs w a n ss) (hx : w.cell? ⟨bx, 0, none⟩ = some (.slice a n cap)) :
    Calls Try.prog 60 #[.int .i64 (k : Int), .pointer (some ⟨s', 0, none⟩), .pointer (some ⟨bx, 0, none⟩)] w (StrPost (ss.getD k ByteArray.empty) w) := by
  have hl := h.len
  by_cases hlt : k < n
  · obtain ⟨b, off, rfl, hc⟩ := h.at (by omega)
    have ck := hc k hlt
    have hI : (k : Int) < (n : Int) := by omega
    obtain ⟨x, hx'⟩ : ∃ x, ss.getD k ByteArray.empty = x := ⟨_, rfl⟩
    rw [hx'] at ck ⊢
    clear h hl hc hx'
    go_enter Try.func60, Try.ntmps60
    go_wp2
    go_ret
    exact ⟨rfl, rfl⟩
  · have g : decide ((k : Int) < (n : Int)) = false := by simp; omega
    have hI : ¬ (k : Int) < (n : Int) := by omega
    have hx' : ss.getD k ByteArray.empty = ByteArray.empty := by rw [List.getD_eq_getElem?_getD, List.getElem?_eq_none (by omega)]; rfl
    rw [hx']
    clear h hl hx' hlt
    go_enter Try.func60, Try.ntmps60
    go_wp2
    go_ret
    exact ⟨rfl, rfl⟩

theorem str_info : (Try.prog.info? 9).map (fun i => (i.zero, i.size, i.bytes)) = some (some (.string ByteArray.empty), 1, 16) := by kernel_rfl

theorem map_make (n : Nat) (hn : n ≤ 200) (w : World) : (Instr.makeSlice 40 (.int .i64 (n : Int)) (.int .i64 (n : Int))).run Try.prog w = .ok (.slice (some ⟨w.heap.size, 0, none⟩) n n) (w.alloc (.cells (madeCells #[.string ByteArray.empty] n) 9)) :=
  run_make_row' 40 9 (.string ByteArray.empty) 16 Try.underlying40 str_info rfl .i64 .i64 n (by omega) (by omega) w

/-- The row of answers, filled up to k. -/
structure Filled (w w' : World) (g n k : Nat) (f : Nat → ByteArray) : Prop where
  row : ∃ arr, w'.heap[g]? = some (.cells arr 9 (0, 0)) ∧ arr.size = n ∧ ∀ j, j < k → arr[j]? = some (.string (f j))
  below : Below w.heap.size w w'

theorem Filled.cell {w w' : World} {g n k : Nat} {f : Nat → ByteArray} (h : Filled w w' g n k f) (hk : k < n) : ∃ u, w'.cell? ⟨g, k, none⟩ = some u := by
  obtain ⟨arr, h1, h2, h3⟩ := h.row
  exact ⟨arr[k]'(by omega), by simp [World.cell?, h1, show k < arr.size by omega]⟩

theorem Filled.free {w w' : World} {g n k : Nat} {f : Nat → ByteArray} (h : Filled w w' g n k f) : w'.frozen? ⟨g, k, none⟩ = false := by
  obtain ⟨arr, h1, h2, h3⟩ := h.row
  simp [World.frozen?, h1]

theorem Filled.later {w w' w'' : World} {g n k : Nat} {f : Nat → ByteArray} (h : Filled w w' g n k f) (hb : Below w'.heap.size w' w'') : Filled w w'' g n k f := by
  obtain ⟨arr, h1, h2, h3⟩ := h.row
  exact ⟨⟨arr, (hb.block g (Array.getElem?_eq_some_iff.1 h1).1).trans h1, h2, h3⟩, h.below.trans (hb.mono h.below.size)⟩

theorem Filled.step {w w' : World} {g n k : Nat} {f : Nat → ByteArray} (h : Filled w w' g n k f) (hk : k < n) (hg : w.heap.size ≤ g) : Filled w (w'.setCell ⟨g, k, none⟩ (.string (f k))) g n (k + 1) f := by
  obtain ⟨arr, h1, h2, h3⟩ := h.row
  refine ⟨⟨arr.setIfInBounds k (.string (f k)), by simp [World.setCell, Array.getElem?_modify, h1], by simp [h2], fun j hj => ?_⟩, h.below.setCell (p := ⟨g, k, none⟩) hg _⟩
  by_cases e : j = k
  · subst e; simp [show j < arr.size by omega]
  · rw [Array.getElem?_setIfInBounds_ne (by omega)]; exact h3 j (by omega)

def MapPost (n : Nat) (f : Nat → ByteArray) (w : World) (e : Ending) (w' : World) : Prop := ∃ g, e = .returned (.slice (some ⟨g, 0, none⟩) n n) ∧ Hid (Filled w w' g n n f)

set_option maxRecDepth 100000 in
set_option maxHeartbeats 1000000 in
theorem map_any {B : Nat} (s : Nat) (v : Value) (l : List Nat) (px : Value) (f : Nat → ByteArray) (w : World) (hs : SelAt w s v l B) (hn : l.length ≤ 200)
    (hclo : ∀ k, k < l.length → ∀ w' : World, Below w.heap.size w w' → ∀ s' : Nat, Calls Try.prog 60 #[.int .i64 (k : Int), .pointer (some ⟨s', 0, none⟩), px] w' (StrPost (f k) w')) :
    Calls Try.prog 100 #[.pointer (some ⟨s, 0, none⟩), .func (.func 60) #[] #[px]] w (MapPost l.length f w) := by
  obtain ⟨d, hd⟩ := hs.doc
  have hc0 := hs.nodes
  obtain ⟨a, cap, b, off, rfl, hm, ha, hc⟩ := ptrs_open hs.own.ptrs
  have hb0 : Below w.heap.size w (w.alloc (.cells (madeCells #[.string ByteArray.empty] l.length) 9)) := (Below.refl _ _).alloc (Nat.le_refl _) _
  have hc00 := cell_below hb0 hc0
  have hf0 : Filled w (w.alloc (.cells (madeCells #[.string ByteArray.empty] l.length) 9)) w.heap.size l.length 0 f := ⟨⟨_, heap_alloc_new _ _, size_madeCells _ _, fun j hj => by omega⟩, hb0⟩
  have hmk := fun w => map_make l.length hn w
  have HA := Lib.hid ha
  have HC := Lib.hid hc
  have HCLO := Lib.hid hclo
  have HD := Lib.hid hd
  have HF0 := Lib.hid hf0
  clear hs ha hc hclo hd hb0 hf0
  go_enter Try.func100, Try.ntmps100
  go_wp2
  clear hmk hc00 hc0
  go_loopw [18] (fun i wr => ∃ k : Nat, i = .int .i64 (k : Int) ∧ k ≤ l.length ∧ Filled w wr w.heap.size l.length k f) (fun i _ => l.length - (intOf i).toNat)
  case atStart => exact ⟨0, by go_num, by omega, HF0.out⟩
  case round =>
    obtain ⟨k, rfl, hk, hfil⟩ := hrel
    have HFIL := Lib.hid hfil
    clear hfil
    by_cases hlt : k < l.length
    · obtain rfl := HA.out (by omega)
      have ck := cell_below HFIL.out.below (HC.out k hlt)
      have cd := cell_below HFIL.out.below HD.out
      have hkI : (k : Int) < (l.length : Int) := by omega
      obtain ⟨x, hxx⟩ : ∃ x, l.getD k 0 = x := ⟨_, rfl⟩
      rw [hxx] at ck
      clear hxx
      go_wp2_with fail
      refine (single_any x d wr).mono ?_
      rintro e w1 ⟨s1, rfl, hb1⟩
      have hf1 := HFIL.out.later hb1
      have hcall := HCLO.out k hlt w1 hf1.below s1
      obtain ⟨u, hcell⟩ := hf1.cell hlt
      have hfree := hf1.free
      have hst := hf1.step hlt (Nat.le_refl _)
      obtain ⟨y, hy⟩ : ∃ y, f k = y := ⟨_, rfl⟩
      rw [hy] at hcall hst
      have HCALL := Lib.hid hcall
      have HST := Lib.hid hst
      clear hcall hb1 hf1 ck cd hst hy
      go_wp2_with fail
      refine HCALL.out.mono ?_
      rintro e w2 ⟨rfl, rfl⟩
      clear HCALL
      go_wp2
      go_roundw
      case rel => exact ⟨k + 1, by go_num, by omega, HST.out⟩
      case measure => simp [intOf]; omega
    · obtain rfl : k = l.length := by omega
      go_wp2
      go_ret
      exact ⟨w.heap.size, rfl, HFIL⟩

set_option maxRecDepth 100000 in
set_option maxHeartbeats 1000000 in
theorem selMap_any {B : Nat} (s : Nat) (v : Value) (l : List Nat) (px : Value) (f : Nat → ByteArray) (w : World) (hs : SelAt w s v l B) (hn : l.length ≤ 200)
    (hclo : ∀ k, k < l.length → ∀ w' : World, Below w.heap.size w w' → ∀ s' : Nat, Calls Try.prog 60 #[.int .i64 (k : Int), .pointer (some ⟨s', 0, none⟩), px] w' (StrPost (f k) w')) :
    Calls Try.prog 59 #[.pointer (some ⟨s, 0, none⟩), .func (.func 60) #[] #[px]] w (MapPost l.length f w) := by
  have hm := map_any s v l px f w hs hn hclo
  have HM := Lib.hid hm
  clear hm hs hclo
  go_enter Try.func59, Try.ntmps59
  go_wp2_with fail
  refine HM.out.mono ?_
  rintro e w1 ⟨g, rfl, hf⟩
  go_wp2
  go_ret
  exact ⟨g, rfl, hf⟩

def MapTwoPost (n : Nat) (f : Nat → ByteArray) (w : World) (e : Ending) (w' : World) : Prop := ∃ g, e = .returned (.tuple #[.slice (some ⟨g, 0, none⟩) n n, .bool true]) ∧ Hid (∀ i, i < n → w'.cell? ⟨g, i, none⟩ = some (.string (f i))) ∧ Hid (Below w.heap.size w w')

set_option maxRecDepth 100000 in
set_option maxHeartbeats 1000000 in
theorem mapOf_any (W : World) (a : Option Addr) (len cap : Nat) (ts : List NodeD) (hR : RightT ts len) (hN : Nodes W a len ts) (v : Value) (l : List Nat) (r1 : ReadsAs W v (l.map intV)) (i1 : ∀ i ∈ l, i < len) (o1 : Once l) (n1 : l.length ≤ 200)
    (sa : Option Addr) (sn sc : Nat) (ss : List ByteArray) (hss : Strs W sa sn ss) :
    Calls Try.prog 26 #[.slice a len cap, v, .slice sa sn sc] W (MapTwoPost l.length (fun k => ss.getD k ByteArray.empty) W) := by
  have hb0 : Below W.heap.size W (W.alloc (.cells #[.slice sa sn sc] 40)) := (Below.refl _ _).alloc (Nat.le_refl _) _
  have hx0 : (W.alloc (.cells #[.slice sa sn sc] 40)).cell? ⟨W.heap.size, 0, none⟩ = some (.slice sa sn sc) := cell_alloc_new' _ _ _ rfl rfl
  have hch := chosen_any _ a len cap ts hR (hN.below hb0) v l (r1.below hb0) i1 o1 n1
  have hss0 := hss.below hb0
  obtain ⟨w0, hw0⟩ : ∃ w0, W.alloc (.cells #[.slice sa sn sc] 40) = w0 := ⟨_, rfl⟩
  rw [hw0] at hb0 hx0 hch hss0
  have HCH := Lib.hid hch
  have HX0 := Lib.hid hx0
  have HB0 := Lib.hid hb0
  have HSS := Lib.hid hss0
  clear hR hN hch r1 i1 o1 hss hx0 hb0 hss0
  have hmf : ∀ (fn : Fn) (first cap : Array Value) (w : World), (Instr.makeFunc fn first cap).run Try.prog w = .ok (.func fn first cap) w := fun _ _ _ _ => rfl
  go_enter Try.func26, Try.ntmps26
  go_wp2_with fail
  refine HCH.out.mono ?_
  rintro e w1 ⟨bl, nb, vv, s, v, rfl, hF, hs, hb⟩
  have hmap := selMap_any s v (l.map nb) (.pointer (some ⟨W.heap.size, 0, none⟩)) (fun k => ss.getD k ByteArray.empty) w1 hs.out (by simpa using n1) (fun k hk w' hb' s' => cloM_any sa sn sc ss W.heap.size k s' w' ((HSS.out.below hb.out).below hb') (cell_below hb' (cell_below hb.out HX0.out)))
  rw [List.length_map] at hmap
  have hb01 : Below W.heap.size W w1 := HB0.out.trans (hb.out.mono HB0.out.size)
  have HMAP := Lib.hid hmap
  have HB01 := Lib.hid hb01
  clear hmap hb01 hF hs hb HCH HX0 HB0 HSS
  go_wp2_with fail
  refine HMAP.out.mono ?_
  rintro e w2 ⟨g, rfl, hf⟩
  have hcells : Hid (∀ i, i < l.length → w2.cell? ⟨g, i, none⟩ = some (.string (ss.getD i ByteArray.empty))) := Lib.hid (fun i hi => by
    obtain ⟨arr, h1, h2, h3⟩ := hf.out.row
    simp only [World.cell?, h1]
    exact h3 i hi)
  have hfin := Lib.hid (HB01.out.trans (hf.out.below.mono HB01.out.size))
  clear hf HMAP HB01
  go_wp2
  go_ret2
  exact ⟨g, rfl, hcells, hfin⟩

end Go.Proofs.Ytobnglgnoflbnaa
