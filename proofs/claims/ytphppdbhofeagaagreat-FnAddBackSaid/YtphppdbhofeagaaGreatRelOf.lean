/- spec.RelativesOf of a parent; nothing appended. -/
import Derived.Test.YtphppdbhofeagaaGreatParAll
import Derived.Test.YtphppdbhofeagaaGreatPlacesOf
import Derived.Laws.AppendOwn
namespace Go.Proofs.YtphppdbhofeagaaGreat
open Go.RowKit
set_option linter.unusedVariables false
set_option linter.unusedSimpArgs false

section
variable {P : Program} {w : World}

/-- Nothing appended: the slice as it was. -/
theorem run_append_none (t ty e : TypeId) (i : TypeInfo) (ht : P.underlying t = some (.slice e)) (hi : P.info? e = some i) (b : Option Addr) (n c : Nat) (hc : n ≤ c) :
    (Builtin.append_ #[t, t] ty #[.slice b n c, .slice none 0 0]).run P w = .ok (.slice b n c) w := by
  cases b <;> simp [Builtin.append_, run_underlying ht, sizeOf, typeInfo, hi, Builtin.lenOf, hc, Builtin.firstCells, storeCells, Result.andThen]

theorem wp_append_none {o : Oper} {a : Act} {K : Act → World → Prop} {Q : Exit → Act → World → Prop} (s x : Operand) (t : TypeId)
    (ho : o.op = .call { callee := .builtin .append, args := #[s, x], argTypes := #[t, t] })
    (e : TypeId) (i : TypeInfo) (ht : P.underlying t = some (.slice e)) (hi : P.info? e = some i) (b : Option Addr) (n c : Nat) (hc : n ≤ c)
    (hs : a.eval s = .slice b n c) (hx : a.eval x = .slice none 0 0) (h : K (a.put o.dst (.slice b n c)) w) : o.wp P a w K Q := by
  have hr := run_append_none (P := P) (w := w) t o.type e i ht hi b n c hc
  unfold Oper.wp execOp
  simp only [ho, resolve, invoke, builtin, Sem.run_bind, Sem.run_pure, Result.andThen_ok, List.map_toArray, List.map_cons, List.map_nil, hs, hx, hr]
  exact h

theorem wpList_append_none {ops : Array Oper} {rest : List Oper} {o : Oper} {a : Act} {Q : Exit → Act → World → Prop} (hgd : o.guard = none) (s x : Operand) (t : TypeId)
    (ho : o.op = .call { callee := .builtin .append, args := #[s, x], argTypes := #[t, t] })
    (e : TypeId) (i : TypeInfo) (ht : P.underlying t = some (.slice e)) (hi : P.info? e = some i) (b : Option Addr) (n c : Nat) (hc : n ≤ c)
    (hs : a.eval s = .slice b n c) (hx : a.eval x = .slice none 0 0) (h : wpList P ops Q rest (a.put o.dst (.slice b n c)) w) : wpList P ops Q (o :: rest) a w :=
  wpList_plain hgd fun _ hK => wp_append_none s x t ho e i ht hi b n c hc hs hx (hK _ _ h)
end

/-- A step to relatives. -/
def pickV (op : Int) : Value := .agg #[.int .i64 op, .string ⟨#[]⟩, .slice none 0 0, .int .i64 0, .int .i64 0]

/-- What RelativesOf answers of a parent: none, or a row of one. -/
def RelNo (w : World) (e : Ending) (w' : World) : Prop := e = .returned (.tuple #[.slice none 0 0, .bool true]) ∧ Hid (Below w.heap.size w w')
def RelOne (p : Nat) (w : World) (e : Ending) (w' : World) : Prop := ∃ g, e = .returned (.tuple #[.slice (some ⟨g, 0, none⟩) 1 1, .bool true]) ∧ w'.cell? ⟨g, 0, none⟩ = some (.int .i64 (p : Int)) ∧ Hid (Below w.heap.size w w')
def RelPost (o : Option Nat) (w : World) : Ending → World → Prop := match o with | none => RelNo w | some p => RelOne p w

set_option maxRecDepth 100000 in
set_option maxHeartbeats 2000000 in
theorem relOfParent_any (a : Option Addr) (len cap : Nat) (ts : List NodeD) (x : Nat) (w : World) (hR : RightT ts len) (hN : Nodes w a len ts) (hx : x < len) :
    Calls Tryz.prog 22 #[.slice a len cap, .int .i64 (x : Int), pickV 22] w (RelPost (parEl ts x) w) := by
  have hlen := hR.le
  have hpar := fun w' (h : Nodes w' a len ts) => parent_any a len cap ts x w' h hR.sizes (fun j hj => hR.nest.fit j hj) hx
  unfold pickV
  have hb0 : Below w.heap.size w (w.alloc (.cells #[.int .i64 22, .string ⟨#[]⟩, .slice none 0 0, .int .i64 0, .int .i64 0] 27)) := (Below.refl _ _).alloc (Nat.le_refl _) _
  have k0 : (w.alloc (.cells #[.int .i64 22, .string ⟨#[]⟩, .slice none 0 0, .int .i64 0, .int .i64 0] 27)).cell? ⟨w.heap.size, 0, none⟩ = some (.int .i64 22) := cell_alloc_new' _ _ _ rfl rfl
  obtain ⟨w0, hw0⟩ : ∃ w0, w.alloc (.cells #[.int .i64 22, .string ⟨#[]⟩, .slice none 0 0, .int .i64 0, .int .i64 0] 27) = w0 := ⟨_, rfl⟩
  rw [hw0] at hb0 k0
  have hN0 := hN.below hb0
  have HPAR := Lib.hid (hpar w0 hN0)
  have HB := Lib.hid hb0
  have hpos := hR.pos
  obtain ⟨b, off, rfl, hc⟩ := hN0.at hpos
  have HC := Lib.hid hc
  cases hp : par (sz ts) x with
  | none =>
    rw [hp] at HPAR
    have he := parEl_none hp
    rw [he]
    show Calls _ _ _ _ (RelNo w)
    clear hp he hpar hN hN0 hc hR hb0
    have g1 : decide ((0 : Int) ≤ -1) = false := by decide
    go_enter Tryz.func22, Tryz.ntmps22
    go_wp2_with fail
    refine HPAR.out.mono ?_
    rintro e w1 ⟨rfl, rfl⟩
    simp only [parI]
    go_wp2
    go_ret2
    exact ⟨rfl, HB⟩
  | some p =>
    rw [hp] at HPAR
    have hpx := (par_some hp).1
    have hpl : p < len := by omega
    have hpe := parEl_some hp
    have cp := (HC.out p hpl).kind
    obtain ⟨q, hq⟩ : ∃ q, (ts.getD p default).kind = q := ⟨_, rfl⟩
    rw [hq] at cp
    have hkd : kd ts p = q := hq
    have hplI : (p : Int) < (len : Int) := by omega
    have g1 : decide ((0 : Int) ≤ (p : Int)) = true := by simp
    by_cases h3 : q = 3
    · subst h3
      rw [if_pos hkd] at hpe
      rw [hpe]
      show Calls _ _ _ _ (RelOne p w)
      clear hp hpe hpar hN hN0 hc hR hb0 hq hkd
      go_enter Tryz.func22, Tryz.ntmps22
      go_wp2_with fail
      refine HPAR.out.mono ?_
      rintro e w1 ⟨rfl, rfl⟩
      simp only [parI]
      go_wp2
      go_ret2
      exact ⟨w0.heap.size, rfl, cell_alloc_new' _ _ _ rfl rfl, Lib.hid (HB.out.alloc HB.out.size _)⟩
    · have g3 : (q == 3) = false := by simp [h3]
      rw [if_neg (by rw [hkd]; exact h3)] at hpe
      rw [hpe]
      show Calls _ _ _ _ (RelNo w)
      clear hp hpe hpar hN hN0 hc hR hb0 hq hkd h3
      go_enter Tryz.func22, Tryz.ntmps22
      go_wp2_with fail
      refine HPAR.out.mono ?_
      rintro e w1 ⟨rfl, rfl⟩
      simp only [parI]
      go_wp2
      go_ret2
      exact ⟨rfl, HB⟩

end Go.Proofs.YtphppdbhofeagaaGreat
