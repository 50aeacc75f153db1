/- spec.RelativesOf of a parent; nothing appended. spec.RelativesOf at the other steps. (Printed by gen_relg.py.) -/
import Derived.Test.YtphppdbhofeagaaGreatParAll
import Derived.Test.YtphppdbhofeagaaGreatPlacesOf
import Derived.Laws.AppendOwn
import Derived.Test.YtphppdbhofeagaaGreatRelSib
import Derived.Test.YtphppdbhofeagaaGreatUpAll
namespace Go.Proofs.YtphppdbhofeagaaGreat
open Go.RowKit
set_option linter.unusedVariables false
set_option linter.unusedSimpArgs false

section
variable {P : Program} {w : World}

/-- Nothing appended: the slice as it was. -/
theorem run_append_none (t ty e : TypeId) (i : TypeInfo) (ht : P.underlying t = some (.slice e)) (hi : P.info? e = some i) (b : Option Addr) (n c : Nat) (hc : n ≤ c) :
    (Builtin.append_ #[t, t] ty #[.slice b n c, .slice none 0 0]).run P w = .ok (.slice b n c) w := by
  cases b <;> simp [Builtin.append_, run_underlying ht, sizeOf, typeInfo, hi, Builtin.lenOf, hc, Builtin.firstCells, storeCells, Result.andThen]

theorem wp_append_none {o : Oper} {a : Act} {K : Act → World → Prop} {Q : Exit → Act → World → Prop} (s x : Operand) (t : TypeId)
    (ho : o.op = .call { callee := .builtin .append, args := #[s, x], argTypes := #[t, t] })
    (e : TypeId) (i : TypeInfo) (ht : P.underlying t = some (.slice e)) (hi : P.info? e = some i) (b : Option Addr) (n c : Nat) (hc : n ≤ c)
    (hs : a.eval s = .slice b n c) (hx : a.eval x = .slice none 0 0) (h : K (a.put o.dst (.slice b n c)) w) : o.wp P a w K Q := by
  have hr := run_append_none (P := P) (w := w) t o.type e i ht hi b n c hc
  unfold Oper.wp execOp
  simp only [ho, resolve, invoke, builtin, Sem.run_bind, Sem.run_pure, Result.andThen_ok, List.map_toArray, List.map_cons, List.map_nil, hs, hx, hr]
  exact h

theorem wpList_append_none {ops : Array Oper} {rest : List Oper} {o : Oper} {a : Act} {Q : Exit → Act → World → Prop} (hgd : o.guard = none) (s x : Operand) (t : TypeId)
    (ho : o.op = .call { callee := .builtin .append, args := #[s, x], argTypes := #[t, t] })
    (e : TypeId) (i : TypeInfo) (ht : P.underlying t = some (.slice e)) (hi : P.info? e = some i) (b : Option Addr) (n c : Nat) (hc : n ≤ c)
    (hs : a.eval s = .slice b n c) (hx : a.eval x = .slice none 0 0) (h : wpList P ops Q rest (a.put o.dst (.slice b n c)) w) : wpList P ops Q (o :: rest) a w :=
  wpList_plain hgd fun _ hK => wp_append_none s x t ho e i ht hi b n c hc hs hx (hK _ _ h)
end

/-- A step to relatives. -/
def pickV (op : Int) : Value := .agg #[.int .i64 op, .string ⟨#[]⟩, .slice none 0 0, .int .i64 0, .int .i64 0]

/-- What RelativesOf answers of a parent: none, or a row of one. -/
def RelNo (w : World) (e : Ending) (w' : World) : Prop := e = .returned (.tuple #[.slice none 0 0, .bool true]) ∧ Hid (Below w.heap.size w w')
def RelOne (p : Nat) (w : World) (e : Ending) (w' : World) : Prop := ∃ g, e = .returned (.tuple #[.slice (some ⟨g, 0, none⟩) 1 1, .bool true]) ∧ w'.cell? ⟨g, 0, none⟩ = some (.int .i64 (p : Int)) ∧ Hid (Below w.heap.size w w')
def RelPost (o : Option Nat) (w : World) : Ending → World → Prop := match o with | none => RelNo w | some p => RelOne p w

set_option maxRecDepth 100000 in
set_option maxHeartbeats 2000000 in
theorem relOfParent_any (a : Option Addr) (len cap : Nat) (ts : List NodeD) (x : Nat) (w : World) (hR : RightT ts len) (hN : Nodes w a len ts) (hx : x < len) :
    Calls Tryz.prog 22 #[.slice a len cap, .int .i64 (x : Int), pickV 22] w (RelPost (parEl ts x) w) := by
  have hlen := hR.le
  have hpar := fun w' (h : Nodes w' a len ts) => parent_any a len cap ts x w' h hR.sizes (fun j hj => hR.nest.fit j hj) hx
  unfold pickV
  have hb0 : Below w.heap.size w (w.alloc (.cells #[.int .i64 22, .string ⟨#[]⟩, .slice none 0 0, .int .i64 0, .int .i64 0] 27)) := (Below.refl _ _).alloc (Nat.le_refl _) _
  have k0 : (w.alloc (.cells #[.int .i64 22, .string ⟨#[]⟩, .slice none 0 0, .int .i64 0, .int .i64 0] 27)).cell? ⟨w.heap.size, 0, none⟩ = some (.int .i64 22) := cell_alloc_new' _ _ _ rfl rfl
  obtain ⟨w0, hw0⟩ : ∃ w0, w.alloc (.cells #[.int .i64 22, .string ⟨#[]⟩, .slice none 0 0, .int .i64 0, .int .i64 0] 27) = w0 := ⟨_, rfl⟩
  rw [hw0] at hb0 k0
  have hN0 := hN.below hb0
  have HPAR := Lib.hid (hpar w0 hN0)
  have HB := Lib.hid hb0
  have hpos := hR.pos
  obtain ⟨b, off, rfl, hc⟩ := hN0.at hpos
  have HC := Lib.hid hc
  cases hp : par (sz ts) x with
  | none =>
    rw [hp] at HPAR
    have he := parEl_none hp
    rw [he]
    show Calls _ _ _ _ (RelNo w)
    clear hp he hpar hN hN0 hc hR hb0
    have g1 : decide ((0 : Int) ≤ -1) = false := by decide
    go_enter Tryz.func22, Tryz.ntmps22
    go_wp2_with fail
    refine HPAR.out.mono ?_
    rintro e w1 ⟨rfl, rfl⟩
    simp only [parI]
    go_wp2
    go_ret2
    exact ⟨rfl, HB⟩
  | some p =>
    rw [hp] at HPAR
    have hpx := (par_some hp).1
    have hpl : p < len := by omega
    have hpe := parEl_some hp
    have cp := (HC.out p hpl).kind
    obtain ⟨q, hq⟩ : ∃ q, (ts.getD p default).kind = q := ⟨_, rfl⟩
    rw [hq] at cp
    have hkd : kd ts p = q := hq
    have hplI : (p : Int) < (len : Int) := by omega
    have g1 : decide ((0 : Int) ≤ (p : Int)) = true := by simp
    by_cases h3 : q = 3
    · subst h3
      rw [if_pos hkd] at hpe
      rw [hpe]
      show Calls _ _ _ _ (RelOne p w)
      clear hp hpe hpar hN hN0 hc hR hb0 hq hkd
      go_enter Tryz.func22, Tryz.ntmps22
      go_wp2_with fail
      refine HPAR.out.mono ?_
      rintro e w1 ⟨rfl, rfl⟩
      simp only [parI]
      go_wp2
      go_ret2
      exact ⟨w0.heap.size, rfl, cell_alloc_new' _ _ _ rfl rfl, Lib.hid (HB.out.alloc HB.out.size _)⟩
    · have g3 : (q == 3) = false := by simp [h3]
      rw [if_neg (by rw [hkd]; exact h3)] at hpe
      rw [hpe]
      show Calls _ _ _ _ (RelNo w)
      clear hp hpe hpar hN hN0 hc hR hb0 hq hkd h3
      go_enter Tryz.func22, Tryz.ntmps22
      go_wp2_with fail
      refine HPAR.out.mono ?_
      rintro e w1 ⟨rfl, rfl⟩
      simp only [parI]
      go_wp2
      go_ret2
      exact ⟨rfl, HB⟩

end Go.Proofs.YtphppdbhofeagaaGreat

namespace Go.Proofs.YtphppdbhofeagaaGreat
open Go.RowKit
set_option linter.unusedVariables false
set_option linter.unusedSimpArgs false

theorem reads_single {w : World} {g : Nat} {x : Nat} (h : w.cell? ⟨g, 0, none⟩ = some (.int .i64 (x : Int))) : ReadsAs w (.slice (some ⟨g, 0, none⟩) 1 1) ([x].map intV) :=
  ⟨_, _, rfl, Nat.le_refl _, by simp [maxLen], rfl, by simp [maxLen], fun _ => ⟨g, 0, rfl, fun i hi => by
    obtain rfl : i = 0 := by simpa using hi
    exact h⟩⟩

theorem kidL_lb {ts : List NodeD} {len x : Nat} (hR : RightT ts len) (hx : x < len) : lb (elKid ts x) len = kidL ts len x := by
  unfold kidL
  have h := rb_lb (P := elKid ts x) len (x + 1) (by omega)
  rw [← h]
  symm
  rw [List.filter_eq_self]
  intro k hk
  have := (lb_mem hk).2
  unfold elKid at this
  simp at this
  have := (par_some this.1).1
  simp
  omega

set_option maxRecDepth 100000 in
set_option maxHeartbeats 1000000 in
theorem atMost_any (v : Value) (l : List Nat) (w : World) (h : ReadsAs w v (l.map intV)) :
    Calls Tryz.prog 33 #[v] w (ReadsPost (l.take 1) w) := by
  obtain ⟨va, vc, rfl, hm⟩ := h.nil
  rw [List.length_map] at hm ⊢
  have hp := h
  rw [List.length_map] at hp
  obtain ⟨a', c', he, hlc, hcm, hrow⟩ := hp
  simp at he
  obtain ⟨rfl, rfl⟩ := he
  have hmin : min l.length 1 = (l.take 1).length := by simp [Nat.min_comm]
  cases l with
  | nil =>
    have hr : ReadsAs w (.slice va 0 vc) (([] : List Nat).map intV) := h
    clear h hrow hmin
    go_enter Tryz.func33, Tryz.ntmps33
    go_wp2
    go_ret
    exact ⟨_, rfl, Lib.hid hr, rfl⟩
  | cons x r =>
    have hlen : (x :: r).length = r.length + 1 := rfl
    obtain ⟨b, off, rfl, hc⟩ := hrow.2.2 (by simp)
    have hr : ReadsAs w (.slice (some ⟨b, off, none⟩) 1 vc) ([x].map intV) := ⟨_, _, rfl, by simp at hlc; simp; omega, hcm, rfl, by simp [maxLen], fun _ => ⟨b, off, rfl, fun i hi => by
      obtain rfl : i = 0 := by simpa using hi
      have := hc 0 (by simp)
      simpa using this⟩⟩
    have HR := Lib.hid hr
    obtain ⟨n, hn⟩ : ∃ n, (x :: r).length = n := ⟨_, rfl⟩
    have hn1 : 1 ≤ n := by rw [← hn]; simp
    rw [List.length_map] at hlc
    rw [hn] at hlc hm ⊢
    clear h hrow hmin hr hc hlen hn
    have g1 : decide ((n : Int) < 1) = false := by simp; omega
    have g2 : decide ((1 : Int) < (n : Int)) = decide (1 < n) := by simp; omega
    have h1n : (1 : Int) ≤ (n : Int) := by omega
    have h1c : (1 : Int) ≤ (vc : Int) := by omega
    by_cases hlt : (1 : Int) < (n : Int)
    · go_enter Tryz.func33, Tryz.ntmps33
      go_wp2
      go_ret
      exact ⟨_, rfl, HR, rfl⟩
    · obtain rfl : n = 1 := by omega
      go_enter Tryz.func33, Tryz.ntmps33
      go_wp2
      go_ret
      exact ⟨_, rfl, HR, rfl⟩

set_option maxRecDepth 100000 in
set_option maxHeartbeats 4000000 in
theorem relOf_20 (a : Option Addr) (len cap : Nat) (ts : List NodeD) (x : Nat) (w : World) (hR : RightT ts len) (hN : Nodes w a len ts) (hx : x < len) :
    Calls Tryz.prog 22 #[.slice a len cap, .int .i64 (x : Int), .agg #[.int .i64 20, .string ⟨#[]⟩, .slice none 0 0, .int .i64 0, .int .i64 0]] w (RelRow (kidL ts len x) w) := by
  have hb0 : Below w.heap.size w (w.alloc (.cells #[.int .i64 20, .string ⟨#[]⟩, .slice none 0 0, .int .i64 0, .int .i64 0] 27)) := (Below.refl _ _).alloc (Nat.le_refl _) _
  have k0 : (w.alloc (.cells #[.int .i64 20, .string ⟨#[]⟩, .slice none 0 0, .int .i64 0, .int .i64 0] 27)).cell? ⟨w.heap.size, 0, none⟩ = some (.int .i64 20) := cell_alloc_new' _ _ _ rfl rfl
  have k2 : (w.alloc (.cells #[.int .i64 20, .string ⟨#[]⟩, .slice none 0 0, .int .i64 0, .int .i64 0] 27)).cell? ⟨w.heap.size, 2, none⟩ = some (.slice none 0 0) := cell_alloc_new' _ _ _ rfl rfl
  obtain ⟨w0, hw0⟩ : ∃ w0, w.alloc (.cells #[.int .i64 20, .string ⟨#[]⟩, .slice none 0 0, .int .i64 0, .int .i64 0] 27) = w0 := ⟨_, rfl⟩
  rw [hw0] at hb0 k0 k2
  have hml : w.heap.size < w0.heap.size := World.block_lt_of_cell? _ _ k0
  have hN0 := hN.below hb0
  have HB := Lib.hid hb0
  have hbe := elements_any a len cap ts x w0 hN0 hR hx
  rw [kidL_lb hR hx] at hbe
  obtain ⟨L, hL⟩ : ∃ L, kidL ts len x = L := ⟨_, rfl⟩
  rw [hL] at hbe ⊢
  have HBE := Lib.hid hbe
  clear hbe hN hR hb0 hN0 hL
  go_enter Tryz.func22, Tryz.ntmps22
  go_wp2_with fail
  refine HBE.out.mono ?_
  rintro e w1 ⟨v, rfl, ho, hb⟩
  have H := Lib.hid (HB.out.trans (hb.out.mono HB.out.size))
  have HR := Lib.hid ho.out.reads
  clear ho hb HBE
  go_wp2
  go_ret2
  exact ⟨v, rfl, HR, H⟩

set_option maxRecDepth 100000 in
set_option maxHeartbeats 4000000 in
theorem relOf_29 (a : Option Addr) (len cap : Nat) (ts : List NodeD) (x : Nat) (w : World) (hR : RightT ts len) (hN : Nodes w a len ts) (hx : x < len) :
    Calls Tryz.prog 22 #[.slice a len cap, .int .i64 (x : Int), .agg #[.int .i64 29, .string ⟨#[]⟩, .slice none 0 0, .int .i64 0, .int .i64 0]] w (RelRow (prevL ts x) w) := by
  have hb0 : Below w.heap.size w (w.alloc (.cells #[.int .i64 29, .string ⟨#[]⟩, .slice none 0 0, .int .i64 0, .int .i64 0] 27)) := (Below.refl _ _).alloc (Nat.le_refl _) _
  have k0 : (w.alloc (.cells #[.int .i64 29, .string ⟨#[]⟩, .slice none 0 0, .int .i64 0, .int .i64 0] 27)).cell? ⟨w.heap.size, 0, none⟩ = some (.int .i64 29) := cell_alloc_new' _ _ _ rfl rfl
  have k2 : (w.alloc (.cells #[.int .i64 29, .string ⟨#[]⟩, .slice none 0 0, .int .i64 0, .int .i64 0] 27)).cell? ⟨w.heap.size, 2, none⟩ = some (.slice none 0 0) := cell_alloc_new' _ _ _ rfl rfl
  obtain ⟨w0, hw0⟩ : ∃ w0, w.alloc (.cells #[.int .i64 29, .string ⟨#[]⟩, .slice none 0 0, .int .i64 0, .int .i64 0] 27) = w0 := ⟨_, rfl⟩
  rw [hw0] at hb0 k0 k2
  have hml : w.heap.size < w0.heap.size := World.block_lt_of_cell? _ _ k0
  have hN0 := hN.below hb0
  have HB := Lib.hid hb0
  have hbe := beside_false a len cap ts x w0 hN0 hR hx
  obtain ⟨L, hL⟩ : ∃ L, prevL ts x = L := ⟨_, rfl⟩
  rw [hL] at hbe ⊢
  have HBE := Lib.hid hbe
  clear hbe hN hR hb0 hN0 hL
  go_enter Tryz.func22, Tryz.ntmps22
  go_wp2_with fail
  refine HBE.out.mono ?_
  rintro e w1 ⟨v, rfl, ho, hb⟩
  have H := Lib.hid (HB.out.trans (hb.out.mono HB.out.size))
  have HR := Lib.hid ho.out.reads
  clear ho hb HBE
  go_wp2
  go_ret2
  exact ⟨v, rfl, HR, H⟩

set_option maxRecDepth 100000 in
set_option maxHeartbeats 4000000 in
theorem relOf_23 (a : Option Addr) (len cap : Nat) (ts : List NodeD) (x : Nat) (w : World) (hR : RightT ts len) (hN : Nodes w a len ts) (hx : x < len) :
    Calls Tryz.prog 22 #[.slice a len cap, .int .i64 (x : Int), .agg #[.int .i64 23, .string ⟨#[]⟩, .slice none 0 0, .int .i64 0, .int .i64 0]] w (RelRow (ancL ts x) w) := by
  have hb0 : Below w.heap.size w (w.alloc (.cells #[.int .i64 23, .string ⟨#[]⟩, .slice none 0 0, .int .i64 0, .int .i64 0] 27)) := (Below.refl _ _).alloc (Nat.le_refl _) _
  have k0 : (w.alloc (.cells #[.int .i64 23, .string ⟨#[]⟩, .slice none 0 0, .int .i64 0, .int .i64 0] 27)).cell? ⟨w.heap.size, 0, none⟩ = some (.int .i64 23) := cell_alloc_new' _ _ _ rfl rfl
  have k2 : (w.alloc (.cells #[.int .i64 23, .string ⟨#[]⟩, .slice none 0 0, .int .i64 0, .int .i64 0] 27)).cell? ⟨w.heap.size, 2, none⟩ = some (.slice none 0 0) := cell_alloc_new' _ _ _ rfl rfl
  obtain ⟨w0, hw0⟩ : ∃ w0, w.alloc (.cells #[.int .i64 23, .string ⟨#[]⟩, .slice none 0 0, .int .i64 0, .int .i64 0] 27) = w0 := ⟨_, rfl⟩
  rw [hw0] at hb0 k0 k2
  have hml : w.heap.size < w0.heap.size := World.block_lt_of_cell? _ _ k0
  have hN0 := hN.below hb0
  have HB := Lib.hid hb0
  have hbe := aboveOf_any a len cap ts x w0 hN0 hR hx
  obtain ⟨L, hL⟩ : ∃ L, ancL ts x = L := ⟨_, rfl⟩
  rw [hL] at hbe ⊢
  have HBE := Lib.hid hbe
  clear hbe hN hR hb0 hN0 hL
  go_enter Tryz.func22, Tryz.ntmps22
  go_wp2_with fail
  refine HBE.out.mono ?_
  rintro e w1 ⟨v, rfl, ho, hb⟩
  have H := Lib.hid (HB.out.trans (hb.out.mono HB.out.size))
  have HR := Lib.hid ho.out.reads
  clear ho hb HBE
  go_wp2
  go_ret2
  exact ⟨v, rfl, HR, H⟩

set_option maxRecDepth 100000 in
set_option maxHeartbeats 4000000 in
theorem relOf_25 (a : Option Addr) (len cap : Nat) (ts : List NodeD) (x : Nat) (w : World) (hR : RightT ts len) (hN : Nodes w a len ts) (hx : x < len) :
    Calls Tryz.prog 22 #[.slice a len cap, .int .i64 (x : Int), .agg #[.int .i64 25, .string ⟨#[]⟩, .slice none 0 0, .int .i64 0, .int .i64 0]] w (RelRow ((nextL ts len x).take 1) w) := by
  have hb0 : Below w.heap.size w (w.alloc (.cells #[.int .i64 25, .string ⟨#[]⟩, .slice none 0 0, .int .i64 0, .int .i64 0] 27)) := (Below.refl _ _).alloc (Nat.le_refl _) _
  have k0 : (w.alloc (.cells #[.int .i64 25, .string ⟨#[]⟩, .slice none 0 0, .int .i64 0, .int .i64 0] 27)).cell? ⟨w.heap.size, 0, none⟩ = some (.int .i64 25) := cell_alloc_new' _ _ _ rfl rfl
  have k2 : (w.alloc (.cells #[.int .i64 25, .string ⟨#[]⟩, .slice none 0 0, .int .i64 0, .int .i64 0] 27)).cell? ⟨w.heap.size, 2, none⟩ = some (.slice none 0 0) := cell_alloc_new' _ _ _ rfl rfl
  obtain ⟨w0, hw0⟩ : ∃ w0, w.alloc (.cells #[.int .i64 25, .string ⟨#[]⟩, .slice none 0 0, .int .i64 0, .int .i64 0] 27) = w0 := ⟨_, rfl⟩
  rw [hw0] at hb0 k0 k2
  have hml : w.heap.size < w0.heap.size := World.block_lt_of_cell? _ _ k0
  have hN0 := hN.below hb0
  have HB := Lib.hid hb0
  have hbe := beside_true a len cap ts x w0 hN0 hR hx
  obtain ⟨L, hL⟩ : ∃ L, nextL ts len x = L := ⟨_, rfl⟩
  rw [hL] at hbe ⊢
  have HBE := Lib.hid hbe
  clear hbe hN hR hb0 hN0 hL
  go_enter Tryz.func22, Tryz.ntmps22
  go_wp2_with fail
  refine HBE.out.mono ?_
  rintro e w1 ⟨v, rfl, ho, hb⟩
  have H := Lib.hid (HB.out.trans (hb.out.mono HB.out.size))
  have HAM := Lib.hid (atMost_any v L w1 ho.out.reads)
  clear ho hb HBE
  go_wp2_with fail
  refine HAM.out.mono ?_
  rintro e w2 ⟨v2, rfl, hr, rfl⟩
  go_wp2
  go_ret2
  exact ⟨v2, rfl, hr, H⟩

set_option maxRecDepth 100000 in
set_option maxHeartbeats 4000000 in
theorem relOf_28 (a : Option Addr) (len cap : Nat) (ts : List NodeD) (x : Nat) (w : World) (hR : RightT ts len) (hN : Nodes w a len ts) (hx : x < len) :
    Calls Tryz.prog 22 #[.slice a len cap, .int .i64 (x : Int), .agg #[.int .i64 28, .string ⟨#[]⟩, .slice none 0 0, .int .i64 0, .int .i64 0]] w (RelRow ((prevL ts x).take 1) w) := by
  have hb0 : Below w.heap.size w (w.alloc (.cells #[.int .i64 28, .string ⟨#[]⟩, .slice none 0 0, .int .i64 0, .int .i64 0] 27)) := (Below.refl _ _).alloc (Nat.le_refl _) _
  have k0 : (w.alloc (.cells #[.int .i64 28, .string ⟨#[]⟩, .slice none 0 0, .int .i64 0, .int .i64 0] 27)).cell? ⟨w.heap.size, 0, none⟩ = some (.int .i64 28) := cell_alloc_new' _ _ _ rfl rfl
  have k2 : (w.alloc (.cells #[.int .i64 28, .string ⟨#[]⟩, .slice none 0 0, .int .i64 0, .int .i64 0] 27)).cell? ⟨w.heap.size, 2, none⟩ = some (.slice none 0 0) := cell_alloc_new' _ _ _ rfl rfl
  obtain ⟨w0, hw0⟩ : ∃ w0, w.alloc (.cells #[.int .i64 28, .string ⟨#[]⟩, .slice none 0 0, .int .i64 0, .int .i64 0] 27) = w0 := ⟨_, rfl⟩
  rw [hw0] at hb0 k0 k2
  have hml : w.heap.size < w0.heap.size := World.block_lt_of_cell? _ _ k0
  have hN0 := hN.below hb0
  have HB := Lib.hid hb0
  have hbe := beside_false a len cap ts x w0 hN0 hR hx
  obtain ⟨L, hL⟩ : ∃ L, prevL ts x = L := ⟨_, rfl⟩
  rw [hL] at hbe ⊢
  have HBE := Lib.hid hbe
  clear hbe hN hR hb0 hN0 hL
  go_enter Tryz.func22, Tryz.ntmps22
  go_wp2_with fail
  refine HBE.out.mono ?_
  rintro e w1 ⟨v, rfl, ho, hb⟩
  have H := Lib.hid (HB.out.trans (hb.out.mono HB.out.size))
  have HAM := Lib.hid (atMost_any v L w1 ho.out.reads)
  clear ho hb HBE
  go_wp2_with fail
  refine HAM.out.mono ?_
  rintro e w2 ⟨v2, rfl, hr, rfl⟩
  go_wp2
  go_ret2
  exact ⟨v2, rfl, hr, H⟩

theorem relOf_22 (a : Option Addr) (len cap : Nat) (ts : List NodeD) (x : Nat) (w : World) (hR : RightT ts len) (hN : Nodes w a len ts) (hx : x < len) :
    Calls Tryz.prog 22 #[.slice a len cap, .int .i64 (x : Int), .agg #[.int .i64 22, .string ⟨#[]⟩, .slice none 0 0, .int .i64 0, .int .i64 0]] w (RelRow ((parEl ts x).toList) w) := by
  refine (relOfParent_any a len cap ts x w hR hN hx).mono fun e w' h => ?_
  cases hp : parEl ts x with
  | none =>
    rw [hp] at h
    obtain ⟨he, hb⟩ := h
    exact ⟨_, he, Lib.hid ⟨none, 0, rfl, Nat.zero_le _, Nat.zero_le _, rfl, Nat.zero_le _, fun h => absurd h (Nat.lt_irrefl 0)⟩, hb⟩
  | some p =>
    rw [hp] at h
    obtain ⟨g, he, hc, hb⟩ := h
    exact ⟨_, he, Lib.hid (reads_single hc), hb⟩

end Go.Proofs.YtphppdbhofeagaaGreat

