/- The laws' step7, sure7, as7: what the reference says of one step, and whether an answer is its answer. -/
import Derived.Test.YtkdomegcacgpnaaGreatChangedK
import Derived.Test.YtkdomegcacgpnaaGreatIntsAll
namespace Go.Proofs.YtkdomegcacgpnaaGreat
open Go.RowKit
set_option linter.unusedVariables false
set_option linter.unusedSimpArgs false

/-- A node as data that fits into memory, its attributes' keys apart. -/
structure FitN (n : NodeD) : Prop where
  wk : -9223372036854775808 ≤ n.kind ∧ n.kind ≤ 9223372036854775807
  wt : n.tag.size ≤ maxLen ∧ n.text.size ≤ maxLen
  wa : ∀ x ∈ n.attrs, x.1.size ≤ maxLen ∧ x.2.size ≤ maxLen
  dist : DistKV n.attrs
  vals : ∀ x ∈ n.attrs, x.2.size ≤ 4000
  few : n.attrs.length ≤ 100

/-- A node as data that fits into memory. -/
structure FitM (n : NodeD) : Prop where
  wk : -9223372036854775808 ≤ n.kind ∧ n.kind ≤ 9223372036854775807
  wt : n.tag.size ≤ maxLen ∧ n.text.size ≤ maxLen
  wa : ∀ x ∈ n.attrs, x.1.size ≤ maxLen ∧ x.2.size ≤ maxLen

theorem FitN.fitM {n : NodeD} (h : FitN n) : FitM n := ⟨h.wk, h.wt, h.wa⟩

theorem fit_of {W : World} {a : Option Addr} {len : Nat} {ts : List NodeD} (hR : RightT ts len) (hN : Nodes W a len ts) : ∀ i, i < len → FitN (ts.getD i default) := fun i hi => by
  obtain ⟨b, off, _, hc⟩ := hN.at (by omega)
  have h1 := hc i hi
  have h2 := hR.node i hi
  have h3 : (ts.getD i default).attrs.length ≤ 20 ∧ DistKV (ts.getD i default).attrs := by
    by_cases e : (ts.getD i default).kind = 3
    · obtain ⟨q1, q2⟩ := h2.attrs e
      exact ⟨q1, dist_of (fun x hx y hy => q2 x y hy hx)⟩
    · rw [(h2.bare e).2]
      exact ⟨by simp, List.Pairwise.nil⟩
  exact ⟨h1.wk, h1.wt, h1.at_.2.2.1, h3.2, hR.vals i hi, by omega⟩

theorem outD_cells (lab : Nat → NodeD) : ∀ (D : List (Nat × Nat × Value)) (i : Nat), i < D.length → ∀ j, j < 5 → (outD lab D)[i * 5 + j]? = (nodeCells (lab (D.getD i default).1) (D.getD i default).2.2 ((D.getD i default).2.1 : Int))[j]? := by
  intro D
  induction D with
  | nil => intro i hi; simp at hi
  | cons y D ih =>
    intro i hi j hj
    have hc : outD lab (y :: D) = nodeCells (lab y.1) y.2.2 (y.2.1 : Int) ++ outD lab D := by simp [outD]
    have hl : (nodeCells (lab y.1) y.2.2 (y.2.1 : Int)).length = 5 := rfl
    rw [hc]
    cases i with
    | zero =>
      rw [List.getElem?_append_left (by rw [hl]; omega)]
      simp
    | succ i =>
      rw [List.getElem?_append_right (by rw [hl]; omega), hl, show (i + 1) * 5 + j - 5 = i * 5 + j by omega]
      exact ih i (by simpa using hi) j hj

theorem outD_len (lab : Nat → NodeD) : ∀ (D : List (Nat × Nat × Value)), (outD lab D).length = D.length * 5 := by
  intro D
  induction D with
  | nil => rfl
  | cons y D ih =>
    have hc : outD lab (y :: D) = nodeCells (lab y.1) y.2.2 (y.2.1 : Int) ++ outD lab D := by simp [outD]
    rw [hc, List.length_append, ih]
    simp [nodeCells]
    omega

/-- A forest's order as data is a list of nodes. -/
theorem OutAt.nodesM {w : World} {B : Nat} {v : Value} {lab : Nat → NodeD} {C : List (Nat × Nat)} (h : OutAt w B v lab C) (hf : ∀ y ∈ C, FitM (lab y.1)) (hs : ∀ y ∈ C, y.2 ≤ 100000) (hC : C.length ≤ 100000) :
    ∃ a cap ts', v = .slice a C.length cap ∧ Nodes w a C.length ts' ∧ ∀ i, i < C.length → (ts'.getD i default).kind = (lab (C.getD i default).1).kind ∧ (ts'.getD i default).tag = (lab (C.getD i default).1).tag ∧ (ts'.getD i default).text = (lab (C.getD i default).1).text ∧ (ts'.getD i default).attrs = (lab (C.getD i default).1).attrs ∧ (ts'.getD i default).size = ((C.getD i default).2 : Int) := by
  obtain ⟨D, rfl, ho, hk⟩ := h.ex
  obtain ⟨a, cap, rfl⟩ := ownsRow_slice ho
  have hmem : ∀ i, i < D.length → D.getD i default ∈ D := fun i hi => by rw [List.getD_eq_getElem?_getD, List.getElem?_eq_getElem hi]; exact List.getElem_mem _
  have hex : ∀ i, ∃ m : NodeD, i < D.length → (D.getD i default).2.2 = .slice m.aa m.al m.ac ∧ m.kind = (lab (D.getD i default).1).kind ∧ m.tag = (lab (D.getD i default).1).tag ∧ m.text = (lab (D.getD i default).1).text ∧ m.attrs = (lab (D.getD i default).1).attrs ∧ m.size = ((D.getD i default).2.1 : Int) ∧ AttrsAt w m.aa m.al m.attrs := fun i => by
    by_cases hi : i < D.length
    · have h1 := hk _ (hmem i hi)
      have h2 := hf ((D.getD i default).1, (D.getD i default).2.1) (List.mem_map_of_mem (f := fun y : Nat × Nat × Value => (y.1, y.2.1)) (hmem i hi))
      obtain ⟨aa, ac, e1, e2⟩ := h1.at_ h2.wa
      exact ⟨⟨(lab (D.getD i default).1).kind, (lab (D.getD i default).1).tag, (lab (D.getD i default).1).text, aa, (lab (D.getD i default).1).attrs.length, ac, (lab (D.getD i default).1).attrs, ((D.getD i default).2.1 : Int)⟩, fun _ => ⟨e1, rfl, rfl, rfl, rfl, rfl, e2⟩⟩
    · exact ⟨default, fun h => absurd h hi⟩
  obtain ⟨f, hfm⟩ := Classical.axiomOfChoice hex
  have hget : ∀ i, i < D.length → ((List.range D.length).map f).getD i default = f i := fun i hi => by simp [List.getD, hi]
  have hCD : ∀ i, i < D.length → (szs D).getD i default = ((D.getD i default).1, (D.getD i default).2.1) := fun i hi => by simp [szs, List.getD, hi]
  refine ⟨a, cap, (List.range D.length).map f, by rw [szs_len], ⟨by simp [szs_len], by rw [szs_len] at hC ⊢; unfold maxLen; omega, fun h0 => ?_⟩, fun i hi => ?_⟩
  · rw [szs_len] at h0 ⊢
    rcases ho.2 with ⟨hv, hz⟩ | ⟨g, cap', cur, hv, hb, hg, hn, hm, hcs, ht⟩
    · omega
    · simp at hv
      obtain ⟨rfl, rfl⟩ := hv
      refine ⟨g, 0, rfl, fun i hi => ?_⟩
      rw [hget i hi]
      obtain ⟨q1, q2, q3, q4, q5, q6, q7⟩ := hfm i hi
      have hadd : ∀ j, (⟨g, 0, none⟩ : Addr).add j = ⟨g, 0 + j, none⟩ := fun j => by unfold Addr.add; split <;> simp_all
      have cell : ∀ j u, j < 5 → (nodeCells (lab (D.getD i default).1) (D.getD i default).2.2 ((D.getD i default).2.1 : Int))[j]? = some u → w.cell? ⟨g, 0 + i * 5 + j, none⟩ = some u := fun j u hj hu => by
        have := World.ownsRow.cells (h := ho) (g := g) rfl (i * 5 + j) u (by rw [outD_cells lab D i hi j hj]; exact hu)
        rw [hadd] at this
        rw [Nat.add_assoc]
        exact this
      have h2 := hf ((D.getD i default).1, (D.getD i default).2.1) (List.mem_map_of_mem (f := fun y : Nat × Nat × Value => (y.1, y.2.1)) (hmem i hi))
      have h3 := hs ((D.getD i default).1, (D.getD i default).2.1) (List.mem_map_of_mem (f := fun y : Nat × Nat × Value => (y.1, y.2.1)) (hmem i hi))
      simp only at h3
      refine ⟨?_, ?_, ?_, ?_, ?_, q7, ?_, ?_, ?_⟩
      · rw [q2]; exact cell 0 _ (by omega) rfl
      · rw [q3]; exact cell 1 _ (by omega) rfl
      · rw [q4]; exact cell 2 _ (by omega) rfl
      · rw [← q1]; exact cell 3 _ (by omega) rfl
      · rw [q6]; exact cell 4 _ (by omega) rfl
      · rw [q2]; exact h2.wk
      · rw [q6]; omega
      · rw [q3, q4]; exact h2.wt
  · rw [szs_len] at hi
    rw [hget i hi, hCD i hi]
    obtain ⟨q1, q2, q3, q4, q5, q6, q7⟩ := hfm i hi
    exact ⟨q2, q3, q4, q5, q6⟩

theorem OutAt.nodes {w : World} {B : Nat} {v : Value} {lab : Nat → NodeD} {C : List (Nat × Nat)} (h : OutAt w B v lab C) (hf : ∀ y ∈ C, FitN (lab y.1)) (hs : ∀ y ∈ C, y.2 ≤ 100000) (hC : C.length ≤ 100000) :
    ∃ a cap ts', v = .slice a C.length cap ∧ Nodes w a C.length ts' ∧ ∀ i, i < C.length → (ts'.getD i default).kind = (lab (C.getD i default).1).kind ∧ (ts'.getD i default).tag = (lab (C.getD i default).1).tag ∧ (ts'.getD i default).text = (lab (C.getD i default).1).text ∧ (ts'.getD i default).attrs = (lab (C.getD i default).1).attrs ∧ (ts'.getD i default).size = ((C.getD i default).2 : Int) := h.nodesM (fun y hy => (hf y hy).fitM) hs hC

theorem Fs.sizes {kids : Nat → List Nat} {xs : List Nat} {C : List (Nat × Nat)} (h : Fs kids xs C) : ∀ y ∈ C, y.2 ≤ C.length := by
  induction h with
  | nil => intro y hy; cases hy
  | cons h1 h2 ih1 ih2 =>
    intro y hy
    simp only [List.length_cons, List.length_append]
    rcases List.mem_cons.1 hy with rfl | hy
    · simp only; omega
    · rcases List.mem_append.1 hy with hy | hy
      · have := ih1 y hy; omega
      · have := ih2 y hy; omega

def StepVal (op : Int) (a1 : Option Addr) (n1 c1 : Nat) (a2 : Option Addr) (n2 c2 : Nat) : Value := .agg #[.int .i64 op, .slice a1 n1 c1, .slice a2 n2 c2, .string ⟨#[]⟩, .string ⟨#[]⟩, .slice none 0 0]

def StepPost (op : Int) (a1 : Option Addr) (n1 c1 : Nat) (a2 : Option Addr) (n2 c2 : Nat) (w : World) (e : Ending) (w' : World) : Prop := e = .returned (.agg #[.int .i64 op, .slice a1 n1 c1, .slice a2 n2 c2, .string ⟨#[]⟩, .string ⟨#[]⟩, .slice none 0 0]) ∧ Hid (Below w.heap.size w w')


/-- What the contract of a step says in every later world. -/
def StepSays (len : Nat) (ts : List NodeD) (op : Int) (a1 : Option Addr) (n1 c1 : Nat) (a2 : Option Addr) (n2 c2 : Nat) (Φ : Nat → (Nat → Int) → (Nat → NodeD) → Wd → Prop) (W : World) : Prop :=
  ∀ W', Below W.heap.size W W' → ∀ (w : World) (f : Nat) (vf : Value) (kn : Nat → Nat) (kv av : Nat → Value), RightT ts len → Knots W'.heap.size w len kn kv av (fun i => (i : Int)) (fun i => ts.getD i default) (wd0 (sz ts) len) → ForestK W'.heap.size w f vf len kn len false → Below W'.heap.size W' w →
      Calls Tryz.prog 27 #[.pointer (some ⟨f, 0, none⟩), .agg #[.int .i64 op, .slice a1 n1 c1, .slice a2 n2 c2, .string ⟨#[]⟩, .string ⟨#[]⟩, .slice none 0 0]] w (fun e w' => StepKPost W'.heap.size f len vf kn Φ e w' w)

theorem StepSays.later {len : Nat} {ts : List NodeD} {op : Int} {a1 : Option Addr} {n1 c1 : Nat} {a2 : Option Addr} {n2 c2 : Nat} {Φ : Nat → (Nat → Int) → (Nat → NodeD) → Wd → Prop} {W W' : World} (h : StepSays len ts op a1 n1 c1 a2 n2 c2 Φ W) (hb : Below W.heap.size W W') : StepSays len ts op a1 n1 c1 a2 n2 c2 Φ W' :=
  fun W2 hb2 => h W2 (hb.trans (hb2.mono hb.size))

def PhiOk (len : Nat) (ts : List NodeD) (Φ : Nat → (Nat → Int) → (Nat → NodeD) → Wd → Prop) : Prop := ∀ n pl lab F, RightT ts len → Φ n pl lab F → WOk n F ∧ n ≤ 1000 ∧ 0 < n ∧ ∀ i, i < n → pl i < (len : Int)

def SurePost (len : Nat) (ts : List NodeD) (Φ : Nat → (Nat → Int) → (Nat → NodeD) → Wd → Prop) (W : World) (e : Ending) (w' : World) : Prop :=
  ∃ b, e = .returned (.bool b) ∧ (b = true → ∃ n pl lab F, RightT ts len ∧ Φ n pl lab F) ∧ Hid (Below W.heap.size W w')

set_option maxRecDepth 100000 in
set_option maxHeartbeats 1000000 in
theorem sure7_any (W : World) (a : Option Addr) (len cap : Nat) (ts : List NodeD) (hN : Nodes W a len ts) (op : Int) (a1 : Option Addr) (n1 c1 : Nat) (a2 : Option Addr) (n2 c2 : Nat) (Φ : Nat → (Nat → Int) → (Nat → NodeD) → Wd → Prop) (hΦ : PhiOk len ts Φ) (hs : StepSays len ts op a1 n1 c1 a2 n2 c2 Φ W) :
    Calls Tryz.prog 7 #[.slice a len cap, .agg #[.int .i64 op, .slice a1 n1 c1, .slice a2 n2 c2, .string ⟨#[]⟩, .string ⟨#[]⟩, .slice none 0 0]] W (SurePost len ts Φ W) := by
  obtain ⟨W0, hW0⟩ : ∃ W0, (W.alloc (.cells #[.int .i64 op, .slice a1 n1 c1, .slice a2 n2 c2, .string ⟨#[]⟩, .string ⟨#[]⟩, .slice none 0 0] 28)).alloc (.cells #[.int .i64 op, .slice a1 n1 c1, .slice a2 n2 c2, .string ⟨#[]⟩, .string ⟨#[]⟩, .slice none 0 0] 28) = W0 := ⟨_, rfl⟩
  have hb0 : Below W.heap.size W W0 := by rw [← hW0]; exact ((Below.refl _ _).alloc (Nat.le_refl _) _).alloc (by simp) _
  have o2 : World.objAt W0 (W.heap.size + 1) #[.int .i64 op, .slice a1 n1 c1, .slice a2 n2 c2, .string ⟨#[]⟩, .string ⟨#[]⟩, .slice none 0 0] 28 := by rw [← hW0]; have := objAt_alloc_new (W.alloc (.cells #[.int .i64 op, .slice a1 n1 c1, .slice a2 n2 c2, .string ⟨#[]⟩, .string ⟨#[]⟩, .slice none 0 0] 28)) #[.int .i64 op, .slice a1 n1 c1, .slice a2 n2 c2, .string ⟨#[]⟩, .string ⟨#[]⟩, .slice none 0 0] 28; rwa [World.size_alloc] at this
  have hch := changed_any W0 a len cap ts (hN.below hb0) (W.heap.size + 1) op a1 n1 c1 a2 n2 c2 Φ (o2.cell (i := 0) rfl) (o2.cell (i := 1) rfl) (o2.cell (i := 2) rfl) (o2.cell (i := 3) rfl) (o2.cell (i := 4) rfl) (o2.cell (i := 5) rfl) hΦ (hs W0 hb0)
  have HCH := Lib.hid hch
  have HB0 := Lib.hid hb0
  clear hch hb0 o2 hN hs hΦ
  go_enter Tryz.func7, Tryz.ntmps7
  go_wp2_with fail
  refine HCH.out.mono ?_
  intro e w1 hp
  rcases hp with ⟨rfl, hb⟩ | ⟨n, pl, lab, F, C, ov, pv, hR, hphi, hC, rfl, ho, hz, hb⟩
  · have HB := Lib.hid (HB0.out.trans (hb.out.mono HB0.out.size))
    clear hb HCH
    go_wp2
    go_ret
    exact ⟨false, rfl, by simp, HB⟩
  · have HB := Lib.hid (HB0.out.trans (hb.out.mono HB0.out.size))
    have HP := Lib.hid (And.intro hR hphi)
    clear hb HCH hR hphi hC ho hz
    go_wp2
    go_ret
    exact ⟨true, rfl, fun _ => ⟨n, pl, lab, F, HP.out.1, HP.out.2⟩, HB⟩

end Go.Proofs.YtkdomegcacgpnaaGreat
