/- The law's classless7: nodes as data, some of them without their class. -/
import Derived.Test.YtoleejaabiafcaaTakenAll
import Derived.Test.YtoleejaabiafcaaSure
import Derived.Test.YtoleejaabiafcaaKV
import Derived.Test.YtoleejaabiafcaaRowSet
import Derived.Test.YtoleejaabiafcaaInts
namespace Go.Proofs.Ytoleejaabiafcaa
open Go.RowKit
set_option linter.unusedVariables false
set_option linter.unusedSimpArgs false

/-- Attributes without class. -/
def offC (l : KVs) : KVs := l.filter fun x => x.1.toList != [99, 108, 97, 115, 115]

/-- The cells of nodes as data. -/
def ndRow (f : Nat → NodeD) (n : Nat) : List Value := (List.range n).flatMap fun i => nodeCells (f i) (.slice (f i).aa (f i).al (f i).ac) (f i).size

theorem ndRow_succ (f : Nat → NodeD) (n : Nat) : ndRow f (n + 1) = ndRow f n ++ nodeCells (f n) (.slice (f n).aa (f n).al (f n).ac) (f n).size := by
  unfold ndRow
  rw [List.range_succ, List.flatMap_append]
  simp

theorem ndRow_len (f : Nat → NodeD) : ∀ n, (ndRow f n).length = n * 5
  | 0 => rfl
  | n + 1 => by rw [ndRow_succ, List.length_append, ndRow_len f n]; simp [nodeCells]; omega

theorem ndRow_get (f : Nat → NodeD) : ∀ (n i : Nat), i < n → ∀ j, j < 5 → (ndRow f n)[i * 5 + j]? = (nodeCells (f i) (.slice (f i).aa (f i).al (f i).ac) (f i).size)[j]?
  | 0, i, hi, _, _ => by omega
  | n + 1, i, hi, j, hj => by
    rw [ndRow_succ]
    by_cases e : i = n
    · subst e
      rw [List.getElem?_append_right (by rw [ndRow_len]; omega), ndRow_len, show i * 5 + j - i * 5 = j by omega]
    · rw [List.getElem?_append_left (by rw [ndRow_len]; omega)]
      exact ndRow_get f n i (by omega) j hj

theorem ndRow_set (f g : Nat → NodeD) (n x : Nat) (hx : x < n) (hg : ∀ i, i ≠ x → g i = f i) (hk : (g x).kind = (f x).kind ∧ (g x).tag = (f x).tag ∧ (g x).text = (f x).text ∧ (g x).size = (f x).size) : (ndRow f n).set (x * 5 + 3) (.slice (g x).aa (g x).al (g x).ac) = ndRow g n := by
  apply List.ext_getElem?
  intro k
  by_cases hkl : k < n * 5
  · obtain ⟨i, j, hj, rfl⟩ : ∃ i j, j < 5 ∧ k = i * 5 + j := ⟨k / 5, k % 5, Nat.mod_lt _ (by decide), by omega⟩
    have hi : i < n := by omega
    rw [List.getElem?_set, ndRow_get g n i hi j hj]
    by_cases e : i = x
    · subst e
      obtain ⟨k1, k2, k3, k4⟩ := hk
      by_cases e3 : j = 3
      · subst e3
        rw [if_pos rfl, if_pos (by rw [ndRow_len]; omega)]
        rfl
      · rw [if_neg (by omega), ndRow_get f n i hi j hj]
        match j, hj with
        | 0, _ => simp [nodeCells, k1]
        | 1, _ => simp [nodeCells, k2]
        | 2, _ => simp [nodeCells, k3]
        | 3, _ => exact absurd rfl e3
        | 4, _ => simp [nodeCells, k4]
    · rw [if_neg (by omega), ndRow_get f n i hi j hj, hg i e]
  · rw [List.getElem?_eq_none (by rw [List.length_set, ndRow_len]; omega), List.getElem?_eq_none (by rw [ndRow_len]; omega)]

theorem ndRow_one {f : Nat → NodeD} {n : Nat} : ∀ u ∈ ndRow f n, u.oneCell' = true := by
  intro u hu
  unfold ndRow at hu
  obtain ⟨i, _, hi⟩ := List.mem_flatMap.1 hu
  simp only [nodeCells, List.mem_cons, List.not_mem_nil, or_false] at hi
  rcases hi with rfl | rfl | rfl | rfl | rfl <;> rfl

/-- Nodes as data are such cells. -/
theorem nodes_cells {w : World} {b off len : Nat} {ts : List NodeD} (h : Nodes w (some ⟨b, off, none⟩) len ts) : ∀ j u, (ndRow (fun i => ts.getD i default) len)[j]? = some u → w.cell? ((⟨b, off, none⟩ : Addr).add j) = some u := by
  intro k u hu
  have hadd : ∀ j, (⟨b, off, none⟩ : Addr).add j = ⟨b, off + j, none⟩ := fun j => by unfold Addr.add; split <;> simp_all
  have hkl : k < len * 5 := by
    have := (List.getElem?_eq_some_iff.1 hu).1
    rwa [ndRow_len] at this
  obtain ⟨i, j, hj, rfl⟩ : ∃ i j, j < 5 ∧ k = i * 5 + j := ⟨k / 5, k % 5, Nat.mod_lt _ (by decide), by omega⟩
  have hi : i < len := by omega
  obtain ⟨b', off', e, hc⟩ := h.at (by omega)
  simp only [Option.some.injEq, Addr.mk.injEq] at e
  obtain ⟨rfl, rfl, _⟩ := e
  have c := hc i hi
  rw [ndRow_get _ _ i hi j hj] at hu
  rw [hadd, ← Nat.add_assoc]
  match j, hj, hu with
  | 0, _, hu => simp [nodeCells] at hu; rw [← hu]; exact c.kind
  | 1, _, hu => simp [nodeCells] at hu; rw [← hu]; exact c.tag
  | 2, _, hu => simp [nodeCells] at hu; rw [← hu]; exact c.text
  | 3, _, hu => simp [nodeCells] at hu; rw [← hu]; exact c.attrs
  | 4, _, hu => simp [nodeCells] at hu; rw [← hu]; exact c.size

/-- While the class is taken from some. -/
structure ClMid (W wr : World) (g c len : Nat) (ts : List NodeD) (done : List Nat) (f : Nat → NodeD) : Prop where
  row : wr.ownsRow W.heap.size 39 5 (.slice (some ⟨g, 0, none⟩) len c) len (ndRow f len)
  same : ∀ i, i < len → (f i).kind = (ts.getD i default).kind ∧ (f i).tag = (ts.getD i default).tag ∧ (f i).text = (ts.getD i default).text ∧ (f i).size = (ts.getD i default).size ∧ (f i).attrs = if i ∈ done then offC (ts.getD i default).attrs else (ts.getD i default).attrs
  at_ : ∀ i, i < len → AttrsAt wr (f i).aa (f i).al (f i).attrs
  apart : ∀ i, i < len → 0 < (f i).al → ∀ bq oq, (f i).aa = some ⟨bq, oq, none⟩ → bq ≠ g
  bel : Below W.heap.size W wr

def ClPost (W : World) (len : Nat) (ts : List NodeD) (l : List Nat) (e : Ending) (w' : World) : Prop :=
  ∃ g c ts', e = .returned (.slice (some ⟨g, 0, none⟩) len c) ∧ Hid (Nodes w' (some ⟨g, 0, none⟩) len ts') ∧ Hid (∀ i, i < len → (ts'.getD i default).kind = (ts.getD i default).kind ∧ (ts'.getD i default).tag = (ts.getD i default).tag ∧ (ts'.getD i default).text = (ts.getD i default).text ∧ (ts'.getD i default).size = (ts.getD i default).size ∧ (ts'.getD i default).attrs = if i ∈ l then offC (ts.getD i default).attrs else (ts.getD i default).attrs) ∧ Hid (Below W.heap.size W w')

theorem ClMid.nodes {W wr : World} {g c len : Nat} {ts : List NodeD} {l : List Nat} {f : Nat → NodeD} (h : ClMid W wr g c len ts l f) {a : Option Addr} (hN : Nodes W a len ts) : ∃ ts', Nodes wr (some ⟨g, 0, none⟩) len ts' ∧ ∀ i, i < len → ts'.getD i default = f i := by
  have hget : ∀ i, i < len → ((List.range len).map f).getD i default = f i := fun i hi => by simp [List.getD, hi]
  refine ⟨(List.range len).map f, ⟨by simp, hN.2.1, fun h0 => ⟨g, 0, rfl, fun i hi => ?_⟩⟩, hget⟩
  rw [hget i hi]
  obtain ⟨b, off, _, hc⟩ := hN.at h0
  have c0 := hc i hi
  obtain ⟨k1, k2, k3, k4, _⟩ := h.same i hi
  have hadd : ∀ j, (⟨g, 0, none⟩ : Addr).add j = ⟨g, 0 + j, none⟩ := fun j => by unfold Addr.add; split <;> simp_all
  have cell : ∀ j u, j < 5 → (nodeCells (f i) (.slice (f i).aa (f i).al (f i).ac) (f i).size)[j]? = some u → wr.cell? ⟨g, 0 + i * 5 + j, none⟩ = some u := fun j u hj hu => by
    have := World.ownsRow.cells (h := h.row) (g := g) rfl (i * 5 + j) u (by rw [ndRow_get f len i hi j hj]; exact hu)
    rw [hadd] at this
    rw [Nat.add_assoc]
    exact this
  exact ⟨cell 0 _ (by omega) rfl, cell 1 _ (by omega) rfl, cell 2 _ (by omega) rfl, cell 3 _ (by omega) rfl, cell 4 _ (by omega) rfl, h.at_ i hi, by rw [k1]; exact c0.wk, by rw [k4]; exact c0.ws, by rw [k2, k3]; exact c0.wt⟩

theorem offC_take {l : KVs} {k : Nat} (hk : k < l.length) : offC (l.take (k + 1)) = if ((l.getD k default).1.toList == [99, 108, 97, 115, 115]) then offC (l.take k) else offC (l.take k) ++ [l.getD k default] := by
  have e : l.take (k + 1) = l.take k ++ [l.getD k default] := by
    rw [List.take_add_one, List.getElem?_eq_getElem hk, List.getD_eq_getElem?_getD, List.getElem?_eq_getElem hk]
    rfl
  obtain ⟨y, hy⟩ : ∃ y, l.getD k default = y := ⟨_, rfl⟩
  rw [hy] at e ⊢
  unfold offC
  rw [e, List.filter_append]
  cases h : (y.1.toList == [99, 108, 97, 115, 115])
  · have h2 : (y.1.toList != [99, 108, 97, 115, 115]) = true := by rw [bne, h]; rfl
    rw [List.filter_cons, if_pos h2, List.filter_nil, if_neg (by simp)]
  · have h2 : ¬ (y.1.toList != [99, 108, 97, 115, 115]) = true := by rw [bne, h]; simp
    rw [List.filter_cons, if_neg h2, List.filter_nil, List.append_nil, if_pos rfl]

theorem offC_len {l : KVs} {k : Nat} : (offC (l.take k)).length ≤ l.length := by
  have h1 : (offC (l.take k)).length ≤ (l.take k).length := List.length_filter_le _ _
  have h2 : (l.take k).length ≤ l.length := by rw [List.length_take]; omega
  omega

theorem own_addr {w : World} {B : Nat} {e : TypeId} {size n c bq oq : Nat} {xs : List Value} (h : w.ownsRow B e size (.slice (some ⟨bq, oq, none⟩) n c) n xs) : B ≤ bq ∧ bq < w.heap.size := by
  rcases h.2 with ⟨hv, _⟩ | ⟨g, cap, cur, hv, hb, hg, _⟩
  · simp at hv
  · simp only [Value.slice.injEq, Option.some.injEq, Addr.mk.injEq] at hv
    obtain ⟨⟨rfl, _, _⟩, _, _⟩ := hv
    exact ⟨hb, (Array.getElem?_eq_some_iff.1 hg).1⟩

theorem owns_empty5 (w : World) (B : Nat) (hB : B ≤ w.heap.size) (e : TypeId) : (w.alloc (.cells #[] e)).ownsRow B e 5 (.slice (some ⟨w.heap.size, 0, none⟩) 0 0) 0 [] :=
  ⟨rfl, .inr ⟨w.heap.size, 0, #[], rfl, hB, heap_alloc_new w _, Nat.le_refl _, Nat.zero_le _, rfl, rfl⟩⟩

set_option maxRecDepth 100000 in
set_option maxHeartbeats 8000000 in
theorem classless_any (W : World) (a : Option Addr) (len cap : Nat) (ts : List NodeD) (hN : Nodes W a len ts) (h0 : 0 < len) (hlen : len ≤ 1000) (hfew : ∀ i, i < len → (ts.getD i default).attrs.length ≤ 100) (a1 : Option Addr) (n1 c1 : Nat) (zs : List Int) (h1 : Ints W a1 n1 zs) (l : List Nat) (hl : zs = l.map fun (n : Nat) => (n : Int)) (hin : ∀ x ∈ l, x < len) :
    Calls Try.prog 46 #[.slice a len cap, .slice a1 n1 c1] W (ClPost W len ts l) := by
  obtain ⟨b, off, rfl, hcc⟩ := hN.at h0
  obtain ⟨hz, hm1, b1, o1, ha1, hc1⟩ := h1.open
  have hll : l.length = n1 := by rw [← hz, hl]; simp
  have HN := Lib.hid hN
  have HC := Lib.hid hcc
  have H1 := Lib.hid (And.intro ha1 hc1)
  have HL := Lib.hid (And.intro hl (And.intro hin (And.intro hfew hll)))
  obtain ⟨i0, hi, hz0, hz1, hz2⟩ := info_parts Try.infoNode
  obtain ⟨j0, hj, hy0, hy1, hy2⟩ := info_parts Try.infoKV
  have hEmp := Lib.hid (owns_empty5 W W.heap.size (Nat.le_refl _) 39)
  have HNA := Lib.hid (nodes_cells (hN.below (w' := W.alloc (.cells #[] 39)) ((Below.refl _ _).alloc (Nat.le_refl _) _)))
  clear hN hcc h1 ha1 hc1 hl hin hfew hz hll
  go_enter Try.func46, Try.ntmps46
  go_wp2_with (at_builtin; refine wpList_append_own _ rfl _ _ 22 rfl W.heap.size 39 i0 (.agg #[.int .i64 0, .string ByteArray.empty, .string ByteArray.empty, .slice none 0 0, .int .i64 0]) 5 72 Try.underlying22 hi hz0 hz1 hz2 rfl (by decide) (.slice (some ⟨W.heap.size, 0, none⟩) 0 0) 0 [] rfl hEmp.out ⟨b, off, none⟩ len cap (ndRow (fun i => ts.getD i default) len) rfl (ndRow_len _ _) ?c1 ?c2 ?c3 ?c4 ?c5 ?_)
  case c1 => exact HNA.out
  case c2 => exact ndRow_one
  case c3 => unfold maxLen; omega
  case c4 => omega
  case c5 => simp
  intro v' w1 hown hgrow _
  have hown : w1.ownsRow W.heap.size 39 5 v' len (ndRow (fun i => ts.getD i default) len) := by first | exact hown | simpa using hown
  obtain ⟨ga, gc, rfl⟩ := ownsRow_slice hown
  obtain ⟨g, rfl⟩ : ∃ g, ga = some ⟨g, 0, none⟩ := by
    rcases hown.2 with ⟨_, h2⟩ | ⟨g0, c0_, cur, hv_, _⟩
    · omega
    · simp at hv_; exact ⟨g0, hv_.1⟩
  have hb1 : Below W.heap.size W w1 := ((Below.refl _ _).alloc (Nat.le_refl _) _).grown hgrow (by simp) (fun q hq => by simp [Value.ownBlock] at hq; omega)
  have hgl := (World.ownsRow.lt hown g rfl).1
  have HM : Hid (ClMid W w1 g gc len ts [] (fun i => ts.getD i default)) := Lib.hid (by
    refine ⟨hown, fun i hi => ⟨rfl, rfl, rfl, rfl, by simp⟩, fun i hi => (HC.out i hi).at_.below hb1, fun i hi hal bq oq e => ?_, hb1⟩
    obtain ⟨b', o', e', hc'⟩ := (HC.out i hi).at_.2.2.2 hal
    rw [e'] at e
    simp only [Option.some.injEq, Addr.mk.injEq] at e
    have := World.block_lt_of_cell? _ _ (hc' 0 hal).1
    simp only at this
    omega)
  clear hown hgrow hb1 hEmp HNA hgl
  go_wp2
  go_loopw [6] (fun iv wr => ∃ (i : Nat) (f : Nat → NodeD), iv = .int .i64 (i : Int) ∧ i ≤ n1 ∧ Hid (ClMid W wr g gc len ts (l.take i) f)) (fun iv _ => n1 - (intOf iv).toNat)
  case atStart => exact ⟨0, _, by go_num, by omega, by rw [List.take_zero]; exact HM⟩
  case round =>
    obtain ⟨i, f, rfl, hin1, HF⟩ := hrel
    clear HM
    by_cases hlt : i < n1
    · have hil : i < l.length := by have := HL.out.2.2.2; omega
      have hxl := HL.out.2.1 _ (getD_mem' (d := 0) hil)
      obtain rfl := H1.out.1 (by omega)
      have ca := cell_below HF.out.bel (H1.out.2 i hlt)
      have e1 : zs.getD i 0 = ((l.getD i 0 : Nat) : Int) := by rw [HL.out.1]; simp [List.getD, hil]
      rw [e1] at ca
      have c3 := cell_below HF.out.bel (HC.out _ hxl).attrs
      have hat := (HC.out _ hxl).at_.below HF.out.bel
      have hfw := HL.out.2.2.1 _ hxl
      obtain ⟨x, hx⟩ : ∃ x, l.getD i 0 = x := ⟨_, rfl⟩
      rw [hx] at ca c3 hat hxl hfw
      obtain ⟨m, hmm⟩ : ∃ m, ts.getD x default = m := ⟨_, rfl⟩
      rw [hmm] at c3 hat hfw
      obtain ⟨mk, mt, mx, aa, al, ac, kv, ms⟩ := m
      simp only at c3 hat hfw
      obtain ⟨q1, q2, q3, q4⟩ := hat
      have hxI : (x : Int) < (len : Int) := by omega
      have hiI : (i : Int) < (n1 : Int) := by omega
      have hal : al ≤ 9223372036854775807 := q2
      have HKV := Lib.hid (And.intro q1 (And.intro q3 q4))
      have HX := Lib.hid (And.intro hx hmm)
      have HCA := Lib.hid (And.intro ca c3)
      clear e1 hx hmm q1 q2 q3 q4
      obtain ⟨wo, hwo⟩ : ∃ wo, wo = wr := ⟨_, rfl⟩
      subst hwo
      go_wp2
      go_loopw [7, 8] (fun lv kvv wk => ∃ k : Nat, kvv = .int .i64 (k : Int) ∧ k ≤ al ∧ Hid (OwnKV wk wo.heap.size lv (offC (kv.take k))) ∧ Hid (Below wo.heap.size wo wk)) (fun _ kvv _ => al - (intOf kvv).toNat)
      case atStart => exact ⟨0, by go_num, by omega, Lib.hid (World.ownsRow_nil _ _ _ _), Lib.hid (Below.refl _ _)⟩
      case round =>
        obtain ⟨k, rfl, hk, HO, HB⟩ := hrel
        have ca := cell_below HB.out HCA.out.1
        have c3 := cell_below HB.out HCA.out.2
        by_cases hkl : k < al
        · obtain ⟨_, _, hq4⟩ := HKV.out
          obtain ⟨bb, bo, rfl, hcc⟩ := hq4 (by omega)
          obtain ⟨p1, p2⟩ := hcc k hkl
          have p1 := cell_below HB.out p1
          have p2 := cell_below HB.out p2
          have hkkv : k < kv.length := by have := HKV.out.1; omega
          have htk := offC_take hkkv
          obtain ⟨ky, hky⟩ : ∃ ky, (kv.getD k default).1 = ky := ⟨_, rfl⟩
          obtain ⟨vl, hvl⟩ : ∃ vl, (kv.getD k default).2 = vl := ⟨_, rfl⟩
          have hpair : kv.getD k default = (ky, vl) := by rw [← hky, ← hvl]
          rw [hky] at p1 htk
          rw [hvl] at p2
          rw [hpair] at htk
          have hkI : (k : Int) < (al : Int) := by omega
          have hbs := HB.out.size
          have hola : (offC (kv.take k)).length ≤ kv.length := offC_len
          have hkvl : kv.length ≤ 100 := hfw
          obtain ⟨X, hX⟩ : ∃ X, wr.alloc (.cells #[.string ky, .string vl] 86) = X := ⟨_, rfl⟩
          have hbX : Below wr.heap.size wr X := by rw [← hX]; exact (Below.refl _ _).alloc (Nat.le_refl _) _
          have a0 : X.cell? ⟨wr.heap.size, 0, none⟩ = some (.string ky) := by rw [← hX]; exact cell_alloc_new' _ _ _ rfl rfl
          have a1' : X.cell? ⟨wr.heap.size, 1, none⟩ = some (.string vl) := by rw [← hX]; exact cell_alloc_new' _ _ _ rfl rfl
          have HXS := Lib.hid (show X.heap.size = wr.heap.size + 1 by rw [← hX]; simp)
          have HBX := Lib.hid (HB.out.trans (hbX.mono hbs))
          have hownX : X.ownsRow wo.heap.size 86 2 u7 (offC (kv.take k)).length (kvCells (offC (kv.take k))) := ownsRow_kept HO.out (fun q hq => hbX.block q (World.ownsRow.lt HO.out q hq).2)
          have HTK := Lib.hid htk
          clear htk hpair hky hvl hcc hq4 hbX
          cases hq : (ky.toList == [99, 108, 97, 115, 115])
          · have hq2 : (ky.toList != [99, 108, 97, 115, 115]) = true := by rw [bne, hq]; rfl
            have hnews : ∀ j u, [Value.string ky, .string vl][j]? = some u → (X.alloc (.cells #[.string ky, .string vl] 86)).cell? ((⟨X.heap.size, 0, none⟩ : Addr).add j) = some u :=
              World.news_of_block (cs := #[.string ky, .string vl]) (t := 86) (fr := (0, 0)) (heap_alloc_new X _)
            have HNW := Lib.hid hnews
            clear hnews
            go_wp2_with (at_builtin; refine wpList_append_own _ rfl _ _ 37 rfl wo.heap.size 86 j0 (.agg #[.string ByteArray.empty, .string ByteArray.empty]) 2 32 Try.underlying37 hj hy0 hy1 hy2 rfl (by decide) _ _ _ rfl (hownX.alloc _) ⟨X.heap.size, 0, none⟩ 1 1 [.string ky, .string vl] rfl rfl ?c1 ?c2 ?c3 ?c4 ?c5 ?_)
            case c1 => exact HNW.out
            case c2 => first | rfl | (intro u hu; simp at hu; rcases hu with rfl | rfl <;> rfl) | simp [Value.oneCell']
            case c3 => unfold maxLen; omega
            case c4 => omega
            case c5 => have := HXS.out; simp; omega
            intro v2 w2 hown2 hgrow2 _
            have hsn : OwnKV w2 wo.heap.size v2 (offC (kv.take (k + 1))) := by
              rw [HTK.out, hq, if_neg (by simp)]
              unfold OwnKV
              rw [List.length_append, kvCells_snoc]
              exact hown2
            have H2 := Lib.hid hsn
            have HB2 := Lib.hid ((HBX.out.alloc HBX.out.size _).grown hgrow2 (by have := HXS.out; simp; omega) (fun q hq => (World.ownsRow.lt hownX q hq).1))
            clear hsn hown2 hgrow2 hownX a0 a1' p1 p2 ca c3
            go_wp2
            go_roundw
            case rel => exact ⟨k + 1, by go_num, by omega, H2, HB2⟩
            case measure => simp [intOf]; omega
          · have hq2 : (ky.toList != [99, 108, 97, 115, 115]) = false := by rw [bne, hq]; rfl
            have hsn : OwnKV X wo.heap.size u7 (offC (kv.take (k + 1))) := by
              rw [HTK.out, hq, if_pos rfl]
              exact hownX
            have H2 := Lib.hid hsn
            clear hsn hownX
            subst hX
            go_wp2
            go_roundw
            case rel => exact ⟨k + 1, by go_num, by omega, H2, HBX⟩
            case measure => simp [intOf]; omega
        · obtain rfl : k = al := by omega
          have hfin : OwnKV wr wo.heap.size u7 (offC kv) := by
            have := HO.out
            rwa [List.take_of_length_le (by rw [HKV.out.1]; exact Nat.le_refl _)] at this
          have hsz : ∀ y ∈ offC kv, y.1.size ≤ maxLen ∧ y.2.size ≤ maxLen := fun y hy => HKV.out.2.1 y (List.mem_filter.1 hy).1
          obtain ⟨la, lc, rfl, hla⟩ := hfin.at_ hsz
          have hrow : wr.ownsRow W.heap.size 39 5 (.slice (some ⟨g, 0, none⟩) len gc) len (ndRow f len) := ownsRow_kept HF.out.row (fun q hq => HB.out.block q (World.ownsRow.lt HF.out.row q hq).2)
          have hfz := own_free hrow (x * 5 + 3)
          have hset := ownsRow_set hrow (i := x * 5 + 3) (by omega) (.slice la (offC kv).length lc)
          obtain ⟨f2, hf2⟩ : ∃ f2 : Nat → NodeD, f2 = fun j => if j = x then { f x with aa := la, al := (offC kv).length, ac := lc, attrs := offC kv } else f j := ⟨_, rfl⟩
          have hf2x : f2 x = { f x with aa := la, al := (offC kv).length, ac := lc, attrs := offC kv } := by rw [hf2]; simp
          have hf2o : ∀ j, j ≠ x → f2 j = f j := fun j hj => by rw [hf2]; simp [hj]
          have hgW : W.heap.size ≤ g := (World.ownsRow.lt hrow g rfl).1
          have hga : ∀ {aq : Option Addr} {nq : Nat} {kq : KVs}, AttrsAt wr aq nq kq → (0 < nq → ∀ bq oq, aq = some ⟨bq, oq, none⟩ → bq ≠ g) → AttrsAt (wr.setCell ⟨g, x * 5 + 3, none⟩ (.slice la (offC kv).length lc)) aq nq kq := fun {aq nq kq} h hne => by
            refine ⟨h.1, h.2.1, h.2.2.1, fun h00 => ?_⟩
            obtain ⟨bq, oq, rfl, hcq⟩ := h.2.2.2 h00
            have hbq := hne h00 bq oq rfl
            refine ⟨bq, oq, rfl, fun j hj => ?_⟩
            obtain ⟨d1, d2⟩ := hcq j hj
            exact ⟨(World.cell?_setCell_far wr ⟨g, x * 5 + 3, none⟩ ⟨bq, oq + j * 2, none⟩ _ (Ne.symm hbq)).trans d1, (World.cell?_setCell_far wr ⟨g, x * 5 + 3, none⟩ ⟨bq, oq + j * 2 + 1, none⟩ _ (Ne.symm hbq)).trans d2⟩
          have hgwo : g < wo.heap.size := (World.ownsRow.lt HF.out.row g rfl).2
          have hlag : 0 < (offC kv).length → ∀ bq oq, la = some ⟨bq, oq, none⟩ → bq ≠ g := fun _ bq oq e => by
            subst e
            have h9 := (own_addr hfin).1
            omega
          have hmid : ClMid W (wr.setCell ⟨g, x * 5 + 3, none⟩ (.slice la (offC kv).length lc)) g gc len ts (l.take (i + 1)) f2 := by
            have hmem : ∀ j, j ∈ l.take (i + 1) ↔ j = x ∨ j ∈ l.take i := fun j => by
              rw [List.take_add_one, List.getElem?_eq_getElem hil, List.mem_append]
              have : l[i] = x := by have := HX.out.1; rw [List.getD_eq_getElem?_getD, List.getElem?_eq_getElem hil] at this; exact this
              simp [this, or_comm]
            refine ⟨?_, fun j hj => ?_, fun j hj => ?_, fun j hj hal bq oq e3 => ?_, ?_⟩
            · have e := ndRow_set f f2 len x hxl hf2o (by rw [hf2x]; exact ⟨rfl, rfl, rfl, rfl⟩)
              rw [hf2x] at e
              simp only at e
              rw [← e]
              exact hset
            · obtain ⟨k1, k2, k3, k4, k5⟩ := HF.out.same j hj
              by_cases e : j = x
              · subst e
                rw [hf2x, if_pos ((hmem j).2 (.inl rfl))]
                exact ⟨k1, k2, k3, k4, by show offC kv = _; rw [HX.out.2]⟩
              · rw [hf2o j e]
                refine ⟨k1, k2, k3, k4, k5.trans ?_⟩
                by_cases e2 : j ∈ l.take i
                · rw [if_pos e2, if_pos ((hmem j).2 (.inr e2))]
                · rw [if_neg e2, if_neg (fun h => by rcases (hmem j).1 h with h | h; exact e h; exact e2 h)]
            · by_cases e : j = x
              · subst e
                rw [hf2x]
                exact hga hla hlag
              · rw [hf2o j e]
                exact hga ((HF.out.at_ j hj).below HB.out) (fun h bq oq e3 => HF.out.apart j hj h bq oq e3)
            · by_cases e : j = x
              · subst e
                rw [hf2x] at hal e3
                exact hlag hal bq oq e3
              · rw [hf2o j e] at hal e3
                exact HF.out.apart j hj hal bq oq e3
            · exact (HF.out.bel.trans (HB.out.mono HF.out.bel.size)).setCell hgW _
          have HM2 := Lib.hid hmid
          have cg : wr.cell? ⟨g, x * 5 + 3, none⟩ = some (.slice (f x).aa (f x).al (f x).ac) := by
            have := World.ownsRow.cells (h := hrow) (g := g) rfl (x * 5 + 3) _ (by rw [ndRow_get f len x hxl 3 (by omega)]; rfl)
            have hadd : (⟨g, 0, none⟩ : Addr).add (x * 5 + 3) = ⟨g, 0 + (x * 5 + 3), none⟩ := by unfold Addr.add; split <;> simp_all
            rw [hadd, Nat.zero_add] at this
            exact this
          clear hmid hset hrow hfin hla hsz hf2 hf2x hf2o hga hkl hlag
          go_wp2
          go_roundw
          case rel => exact ⟨i + 1, f2, by go_num, by omega, HM2⟩
          case measure => simp [intOf]; omega
    · obtain rfl : i = n1 := by omega
      have hfin := HF.out
      rw [List.take_of_length_le (by rw [HL.out.2.2.2]; exact Nat.le_refl _)] at hfin
      obtain ⟨ts', ht1, ht2⟩ := hfin.nodes HN.out
      have H2 := Lib.hid ht1
      have H3 : Hid (∀ i, i < len → (ts'.getD i default).kind = (ts.getD i default).kind ∧ (ts'.getD i default).tag = (ts.getD i default).tag ∧ (ts'.getD i default).text = (ts.getD i default).text ∧ (ts'.getD i default).size = (ts.getD i default).size ∧ (ts'.getD i default).attrs = if i ∈ l then offC (ts.getD i default).attrs else (ts.getD i default).attrs) := Lib.hid (fun j hj => by rw [ht2 j hj]; exact hfin.same j hj)
      have H4 := Lib.hid hfin.bel
      clear hfin ht1 ht2 hlt
      go_wp2
      go_ret
      exact ⟨g, gc, ts', rfl, H2, H3, H4⟩

end Go.Proofs.Ytoleejaabiafcaa
