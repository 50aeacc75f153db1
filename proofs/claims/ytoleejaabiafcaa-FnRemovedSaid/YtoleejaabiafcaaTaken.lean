/- impl.taken: a document's nodes in their order, as data. -/
import Derived.Test.YtoleejaabiafcaaKindAll
import Derived.Test.YtoleejaabiafcaaDomAll
import Derived.Test.YtoleejaabiafcaaWoodAll
import Derived.Test.YtoleejaabiafcaaListed
import Derived.Test.YtoleejaabiafcaaGrownKAll
import Derived.Deep.LoopGhost
namespace Go.Proofs.Ytoleejaabiafcaa
open Go.RowKit
set_option linter.unusedVariables false
set_option linter.unusedSimpArgs false

/-- The cells of nodes as data: which node, its size, its attributes' value. -/
def outD (lab : Nat → NodeD) (D : List (Nat × Nat × Value)) : List Value := D.flatMap fun y => nodeCells (lab y.1) y.2.2 (y.2.1 : Int)
def szs (D : List (Nat × Nat × Value)) : List (Nat × Nat) := D.map fun y => (y.1, y.2.1)

theorem outD_append (lab : Nat → NodeD) (C D : List (Nat × Nat × Value)) : outD lab (C ++ D) = outD lab C ++ outD lab D := by simp [outD]
theorem szs_append (C D : List (Nat × Nat × Value)) : szs (C ++ D) = szs C ++ szs D := by simp [szs]
theorem szs_len (D : List (Nat × Nat × Value)) : (szs D).length = D.length := by simp [szs]

/-- Attributes as data lie as they lay. -/
def KeepKV (w w' : World) : Prop := ∀ (b : Nat) (cur : Array Value) (fr : Nat × Nat), w.heap[b]? = some (Obj.cells cur 86 fr) → w'.heap[b]? = w.heap[b]?

theorem KeepKV.refl (w : World) : KeepKV w w := fun _ _ _ _ => rfl
theorem KeepKV.trans {a b c : World} (h : KeepKV a b) (h' : KeepKV b c) : KeepKV a c := fun k cur fr hk => (h' k cur fr ((h k cur fr hk).trans hk)).trans (h k cur fr hk)
theorem KeepKV.of_below {w w' : World} (h : Below w.heap.size w w') : KeepKV w w' := fun k cur fr hk => h.block k (Array.getElem?_eq_some_iff.1 hk).1
theorem KeepKV.grown {w w' : World} {B : Nat} {e : TypeId} {size : Nat} {v : Value} {n : Nat} {xs : List Value} (hg : w.grownBy w' v.ownBlock) (ho : w.ownsRow B e size v n xs) (hne : e ≠ 86) : KeepKV w w' := fun k cur fr hk => by
  refine hg.block k (Array.getElem?_eq_some_iff.1 hk).1 (fun he => ?_)
  obtain ⟨c2, h2⟩ := ownsRow_type ho he.symm
  rw [hk] at h2
  simp only [Option.some.injEq, Obj.cells.injEq] at h2
  exact hne h2.2.1.symm
theorem KeepKV.set {w : World} {B : Nat} {e : TypeId} {size g n cap : Nat} {xs : List Value} (ho : w.ownsRow B e size (.slice (some ⟨g, 0, none⟩) n cap) n xs) (hne : e ≠ 86) (o : Nat) (u : Value) : KeepKV w (w.setCell ⟨g, o, none⟩ u) := fun k cur fr hk => by
  refine heap_setCell_other w ⟨g, o, none⟩ k _ (fun he => ?_)
  obtain ⟨c2, h2⟩ := ownsRow_type ho (b := g) rfl
  simp only at he
  rw [← he, hk] at h2
  simp only [Option.some.injEq, Obj.cells.injEq] at h2
  exact hne h2.2.1.symm
theorem OwnKV.keep {w w' : World} {B : Nat} {v : Value} {l : KVs} (h : OwnKV w B v l) (hk : KeepKV w w') : OwnKV w' B v l := ownsRow_kept h (fun b hb => by
  obtain ⟨cur, hc⟩ := ownsRow_type h hb
  exact hk b cur (0, 0) hc)

/-- A node more behind the nodes, its pointer behind the pointers. -/
theorem taken_step {w w1 w2 w3 : World} {B : Nat} {tv lv tv2 pv : Value} {N : Nat} {cells cells2 L : List Value} {l : KVs} {O1 O2 : Obj} (ht : w.ownsRow B 39 5 tv N cells) (hl : w.ownsRow B 84 1 lv N L) (hb1 : Below w.heap.size w w1) (hkv : OwnKV w1 w.heap.size pv l)
    (g2 : (w1.alloc O1).grownBy w2 tv.ownBlock) (o2 : w2.ownsRow B 39 5 tv2 (N + 1) cells2) :
    (w1.alloc O1).ownsRow B 84 1 lv N L ∧ w2.ownsRow B 84 1 lv N L ∧ KeepKV w w2 ∧ OwnKV w2 w.heap.size pv l ∧ (∀ b, b < w.heap.size → some b ≠ tv.ownBlock → w2.heap[b]? = w.heap[b]?) ∧
    ((w2.alloc O2).grownBy w3 lv.ownBlock → w3.ownsRow B 39 5 tv2 (N + 1) cells2 ∧ KeepKV w w3 ∧ OwnKV w3 w.heap.size pv l ∧ (∀ b, b < w.heap.size → some b ≠ tv.ownBlock → some b ≠ lv.ownBlock → w3.heap[b]? = w.heap[b]?)) := by
  have hbs := hb1.size
  have ht1 : (w1.alloc O1).ownsRow B 39 5 tv N cells := World.ownsRow.alloc (ownsRow_kept ht (fun k hk => hb1.block k (World.ownsRow.lt ht k hk).2)) _
  have hl1 : (w1.alloc O1).ownsRow B 84 1 lv N L := World.ownsRow.alloc (ownsRow_kept hl (fun k hk => hb1.block k (World.ownsRow.lt hl k hk).2)) _
  have hl2 : w2.ownsRow B 84 1 lv N L := ownsRow_kept hl1 (fun k hk => g2.block k (World.ownsRow.lt hl1 k hk).2 (fun e => own_ne_own hl1 ht1 (by decide) hk e.symm))
  have k01 : KeepKV w w1 := KeepKV.of_below hb1
  have k1a : KeepKV w1 (w1.alloc O1) := KeepKV.of_below ((Below.refl _ _).alloc (Nat.le_refl _) _)
  have ka2 := KeepKV.grown g2 ht1 (by decide)
  have hf2 : ∀ b, b < w.heap.size → some b ≠ tv.ownBlock → w2.heap[b]? = w.heap[b]? := fun b hb hne => by
    rw [g2.block b (by simp; omega) hne, Below.heap_alloc _ _ _ (by omega), hb1.block b hb]
  refine ⟨hl1, hl2, (k01.trans k1a).trans ka2, (hkv.keep k1a).keep ka2, hf2, fun g3 => ?_⟩
  have hl2a : (w2.alloc O2).ownsRow B 84 1 lv N L := World.ownsRow.alloc hl2 _
  have ht2a : (w2.alloc O2).ownsRow B 39 5 tv2 (N + 1) cells2 := World.ownsRow.alloc o2 _
  have k2a : KeepKV w2 (w2.alloc O2) := KeepKV.of_below ((Below.refl _ _).alloc (Nat.le_refl _) _)
  have ka3 := KeepKV.grown g3 hl2a (by decide)
  have hs2 := g2.size
  simp only [World.size_alloc] at hs2
  refine ⟨ownsRow_kept ht2a (fun k hk => g3.block k (World.ownsRow.lt ht2a k hk).2 (fun e => own_ne_own ht2a hl2a (by decide) hk e.symm)), (((k01.trans k1a).trans ka2).trans k2a).trans ka3, (((hkv.keep k1a).keep ka2).keep k2a).keep ka3, fun b hb h1 h2 => ?_⟩
  rw [g3.block b (by simp; omega) h2, Below.heap_alloc _ _ _ (by omega), hf2 b hb h1]

def TakenPost (lab : Nat → NodeD) (nb : Nat → Nat) (W : World) (N : Nat) (cells : List Value) (ps : List Nat) (C : List (Nat × Nat)) (w : World) (e : Ending) (w' : World) : Prop :=
  ∃ tv lv D, e = .returned (.tuple #[tv, lv]) ∧ szs D = C ∧ Hid (w'.ownsRow W.heap.size 39 5 tv (N + D.length) (cells ++ outD lab D)) ∧ Hid (w'.ownsRow W.heap.size 84 1 lv (N + D.length) ((ps ++ C.map (·.1)).map fun y => ptrV (nb y))) ∧ Hid (∀ y ∈ D, OwnKV w' W.heap.size y.2.2 (lab y.1).attrs) ∧ Hid (Below W.heap.size W w') ∧ Hid (KeepKV w w')

set_option maxRecDepth 100000 in
set_option maxHeartbeats 8000000 in
theorem taken_any {B : Nat} {W : World} {n : Nat} {nb : Nat → Nat} {v : Nat → Value} {lab : Nat → NodeD} {F : Wd} (hD : DomAt B W n nb v lab F) (hF : WOk n F) (hok : ∀ i, i < n → ∃ z a, NodeOk (lab i) z a) :
    ∀ (m x : Nat) (C : List (Nat × Nat)) (tv lv : Value) (N : Nat) (cells : List Value) (ps : List Nat) (w : World), x < n → Fs F.kids [x] C → C.length ≤ m → N + C.length ≤ 100000 →
      w.ownsRow W.heap.size 39 5 tv N cells → w.ownsRow W.heap.size 84 1 lv N (ps.map fun y => ptrV (nb y)) → Below W.heap.size W w →
      Calls Try.prog 78 #[.pointer (some ⟨nb x, 0, none⟩), tv, lv] w (TakenPost lab nb W N cells ps C w) := by
  intro m
  induction m with
  | zero =>
    intro x C tv lv N cells ps w _ hC hm
    obtain ⟨A, rfl, _⟩ := hC.one_inv
    simp at hm
  | succ m ih =>
    intro x C tv lv N cells ps w hx hC hm hN ht hl hbel
    obtain ⟨A, hCA, hA⟩ := hC.one_inv
    obtain ⟨i0, hi, hz0, hz1, hz2⟩ := info_parts Try.infoNode
    obtain ⟨j0, hj, hy0, hy1, hy2⟩ := info_parts Try.infoPtr
    have hDw := hD.below hbel
    have hnode := hDw.node x hx
    obtain ⟨z, a, hoka⟩ := hok x hx
    have hkind := kindOf_node (nb x) _ (lab x) z a hoka w hnode rfl rfl (hDw.own x hx)
    have hcl : cells.length = N * 5 := ht.1
    obtain ⟨sl, scap, rfl⟩ := ownsRow_slice ht
    obtain ⟨ll, lcap, rfl⟩ := ownsRow_slice hl
    have hAl : A.length + 1 = C.length := by rw [hCA]; simp
    have hnd := hF.nd x
    have f1 := (hD.node x hx).fst
    obtain ⟨K, hKK⟩ : ∃ K, F.kids x = K := ⟨_, rfl⟩
    have e1 : (linkR F nb (lab x) (v x) x).fst = K.head?.map nb := by simp only [linkR, hKK]
    rw [e1] at f1
    rw [hKK] at hA hnd
    have hKn : ∀ y ∈ K, y < n ∧ W.cell? ⟨nb y, 4, none⟩ = some (lk ((nxtIn K y).map nb)) := fun y hy => by
      have hy' : y ∈ F.kids x := by rw [hKK]; exact hy
      have h1 := (hF.lt x y hy').2
      refine ⟨h1, ?_⟩
      have h2 := (hD.node y h1).nxt
      have h3 : (linkR F nb (lab y) (v y) y).nxt = (nxtIn K y).map nb := by simp only [linkR, (hF.iff x y).1 hy', Option.bind_some, hKK]
      rwa [h3] at h2
    obtain ⟨kd_, hkd⟩ : ∃ q, (lab x).kind = q := ⟨_, rfl⟩
    obtain ⟨tg, htg⟩ : ∃ q, (lab x).tag = q := ⟨_, rfl⟩
    obtain ⟨tx, htx⟩ : ∃ q, (lab x).text = q := ⟨_, rfl⟩
    have HLAB := Lib.hid (And.intro hkd (And.intro htg htx))
    rw [hkd, htg, htx] at hkind
    have HF1 := Lib.hid f1
    have HKN := Lib.hid hKn
    have HND := Lib.hid hnd
    have HA := Lib.hid (show Fs F.kids K A from hA)
    have HCA := Lib.hid hCA
    have HIH := Lib.hid ih
    have HCL := Lib.hid hcl
    have HT := Lib.hid (And.intro ht hl)
    have HB := Lib.hid hbel
    have HKIND := Lib.hid hkind
    have hAl2 : A.length ≤ m := by omega
    have hNl : N + A.length + 1 ≤ 100000 := by omega
    have hbel0 := hbel.size
    clear hDw hnode hkind hoka ht hl hbel hKn hnd f1 hkd htg htx hKK hA hCA hC ih hcl e1 hm hN
    go_enter Try.func78, Try.ntmps78
    go_wp2_with fail
    refine HKIND.out.mono ?_
    rintro e w1 ⟨pv, rfl, hpv, hb1⟩
    obtain ⟨pa, pc, rfl⟩ := ownsRow_slice hpv.out
    obtain ⟨al, hal⟩ : ∃ q, (lab x).attrs.length = q := ⟨_, rfl⟩
    have HAL := Lib.hid hal
    rw [hal] at hpv ⊢
    clear hal
    have hb1s := hb1.out.size
    have hownA : (w1.alloc (.cells #[.int .i64 kd_, .string tg, .string tx, .slice pa al pc, .int .i64 0] 39)).ownsRow W.heap.size 39 5 (.slice sl N scap) N cells := World.ownsRow.alloc (ownsRow_kept HT.out.1 (fun k hk => hb1.out.block k (World.ownsRow.lt HT.out.1 k hk).2)) _
    have hnews : ∀ j u, [Value.int .i64 kd_, .string tg, .string tx, .slice pa al pc, .int .i64 0][j]? = some u → (w1.alloc (.cells #[.int .i64 kd_, .string tg, .string tx, .slice pa al pc, .int .i64 0] 39)).cell? ((⟨w1.heap.size, 0, none⟩ : Addr).add j) = some u :=
      World.news_of_block (cs := #[.int .i64 kd_, .string tg, .string tx, .slice pa al pc, .int .i64 0]) (t := 39) (fr := (0, 0)) (heap_alloc_new w1 _)
    have HOA := Lib.hid hownA
    have HNEWS := Lib.hid hnews
    clear hownA hnews
    go_wp2_with (at_builtin; refine wpList_append_lies _ rfl _ _ 22 rfl W.heap.size 39 i0 (.agg #[.int .i64 0, .string ByteArray.empty, .string ByteArray.empty, .slice none 0 0, .int .i64 0]) 5 72 Try.underlying22 hi hz0 hz1 hz2 rfl (by decide) (.slice sl N scap) N cells rfl HOA.out ⟨w1.heap.size, 0, none⟩ 1 1 [.int .i64 kd_, .string tg, .string tx, .slice pa al pc, .int .i64 0] rfl rfl HNEWS.out (by simp [Value.oneCell']) (by omega) (by unfold maxLen; omega) (by omega) (by simp; omega) _ rfl ?_)
    intro g2 cap2 w2 hown2 hgrow2 hat2 hlt2
    have HPV := Lib.hid (show OwnKV w1 w.heap.size (.slice pa al pc) (lab x).attrs by have := hpv.out; exact this)
    have hst := fun w3 => taken_step (w3 := w3) (O2 := .cells #[.pointer (some ⟨nb x, 0, none⟩)] 84) HT.out.1 HT.out.2 hb1.out HPV.out hgrow2 hown2
    have hs2 := hgrow2.size
    simp only [World.size_alloc] at hs2
    have hlA : (w2.alloc (.cells #[.pointer (some ⟨nb x, 0, none⟩)] 84)).ownsRow W.heap.size 84 1 (.slice ll N lcap) N (ps.map fun y => ptrV (nb y)) := World.ownsRow.alloc (hst w2).2.1 _
    have hnews2 : ∀ j u, [Value.pointer (some ⟨nb x, 0, none⟩)][j]? = some u → (w2.alloc (.cells #[.pointer (some ⟨nb x, 0, none⟩)] 84)).cell? ((⟨w2.heap.size, 0, none⟩ : Addr).add j) = some u :=
      World.news_of_block (cs := #[.pointer (some ⟨nb x, 0, none⟩)]) (t := 84) (fr := (0, 0)) (heap_alloc_new w2 _)
    have hbw2 : Below W.heap.size W w2 := ((HB.out.trans (hb1.out.mono hbel0)).alloc (by omega) _).grown hgrow2 (by simp; omega) (fun q hq => (World.ownsRow.lt HOA.out q hq).1)
    have HST := Lib.hid hst
    have HLA := Lib.hid hlA
    have HNEWS2 := Lib.hid hnews2
    have HO2 := Lib.hid hown2
    have HB2 := Lib.hid hbw2
    clear hst hlA hnews2 hown2 hgrow2 hat2 hlt2 hbw2 HOA HNEWS HPV hpv HKIND
    go_wp2_with (at_builtin; refine wpList_append_lies _ rfl _ _ 76 rfl W.heap.size 84 j0 (.pointer none) 1 8 Try.underlying76 hj hy0 hy1 hy2 rfl (by decide) (.slice ll N lcap) N (ps.map fun y => ptrV (nb y)) rfl HLA.out ⟨w2.heap.size, 0, none⟩ 1 1 [.pointer (some ⟨nb x, 0, none⟩)] rfl rfl HNEWS2.out (by simp [Value.oneCell']) (by omega) (by unfold maxLen; omega) (by omega) (by simp; omega) _ rfl ?_)
    intro g3 cap3 w3 hown3 hgrow3 hat3 hlt3
    obtain ⟨q1, q2, q3, q4⟩ := (HST.out w3).2.2.2.2.2 hgrow3
    have hbw3 : Below W.heap.size W w3 := (HB2.out.alloc HB2.out.size _).grown hgrow3 (by simp; omega) (fun q hq => (World.ownsRow.lt HLA.out q hq).1)
    have f1 := cell_below hbw3 HF1.out
    have HQ := Lib.hid (And.intro q1 (And.intro q2 (ownsRow_base q3 hbel0)))
    have H3 := Lib.hid (And.intro hown3 hbw3)
    clear q1 q2 q3 q4 hown3 hgrow3 hat3 hlt3 hbw3 HST HLA HNEWS2 HO2
    go_wp2
    go_loopg [1, 2, 9] (K.length) (fun gk tv lv cv wr => ∃ (k : Nat) (D : List (Nat × Nat × Value)), gk = K.length - k ∧ k ≤ K.length ∧ cv = lk ((K.drop k).head?.map nb) ∧ Hid (Fs F.kids (K.take k) (szs D)) ∧ D.length ≤ A.length ∧ Hid (wr.ownsRow W.heap.size 39 5 tv (N + 1 + D.length) (cells ++ (nodeCells (lab x) (.slice pa al pc) 0 ++ outD lab D))) ∧ Hid (wr.ownsRow W.heap.size 84 1 lv (N + 1 + D.length) ((ps ++ (x :: (szs D).map (·.1))).map fun y => ptrV (nb y))) ∧ Hid (∀ y ∈ D, OwnKV wr W.heap.size y.2.2 (lab y.1).attrs) ∧ Hid (OwnKV wr W.heap.size (.slice pa al pc) (lab x).attrs) ∧ Hid (Below W.heap.size W wr) ∧ Hid (KeepKV w wr))
    case atStart =>
      refine ⟨0, [], rfl, by omega, by simp, Lib.hid .nil, by simp, Lib.hid ?_, Lib.hid ?_, Lib.hid (fun y hy => by cases hy), Lib.hid HQ.out.2.2, Lib.hid H3.out.2, Lib.hid HQ.out.2.1⟩
      · have h1 := HQ.out.1
        simp only [nodeCells, HLAB.out.1, HLAB.out.2.1, HLAB.out.2.2, outD, List.flatMap_nil, List.append_nil, List.length_nil, Nat.add_zero]
        exact h1
      · have h1 := H3.out.1
        simpa [szs, ptrV] using h1
    case round =>
      obtain ⟨k, D, rfl, hk, rfl, HD2, hDl, HO, HL, HDK, HPK, HBEL, HKP⟩ := hrel
      clear f1
      obtain ⟨so, sc, rfl⟩ := ownsRow_slice HO.out
      obtain ⟨lo, lc, rfl⟩ := ownsRow_slice HL.out
      by_cases hlt : k < K.length
      · have htk := take_snoc hlt
        obtain ⟨hyn, hny⟩ := HKN.out _ (getD_mem' (d := 0) hlt)
        obtain ⟨y, hy⟩ : ∃ y, K.getD k 0 = y := ⟨_, rfl⟩
        rw [hy] at htk hyn hny
        have hdr : K.drop k = y :: K.drop (k + 1) := by
          rw [List.drop_eq_getElem_cons hlt]
          congr 1
          rw [← hy, List.getD_eq_getElem?_getD, List.getElem?_eq_getElem hlt]
          rfl
        have hnx : nxtIn K y = (K.drop (k + 1)).head? := by
          have h1 : K = K.take k ++ y :: K.drop (k + 1) := by rw [← hdr, List.take_append_drop]
          have h2 := HND.out
          rw [h1] at h2
          have h3 := nxtIn_app (c := K.drop (k + 1)) (K.take k) (nd_parts h2).1
          rwa [← h1] at h3
        rw [hnx] at hny
        obtain ⟨D1, D2, hDD, hf1, hf2⟩ : ∃ D1 D2, A = D1 ++ D2 ∧ Fs F.kids (K.take k ++ [y]) D1 ∧ Fs F.kids (K.drop (k + 1)) D2 := by
          have := HA.out
          rw [← List.take_append_drop (k + 1) K, htk] at this
          exact this.split
        obtain ⟨E1, E2, hE, hg1, hg2⟩ := hf1.split
        obtain rfl : E1 = szs D := hg1.det HD2.out
        subst hE
        have hAlen : A.length = D.length + E2.length + D2.length := by rw [hDD]; simp [szs_len]; omega
        have hcall := HIH.out y E2 (.slice so (N + 1 + D.length) sc) (.slice lo (N + 1 + D.length) lc) (N + 1 + D.length) _ (ps ++ (x :: (szs D).map (·.1))) wr hyn hg2 (by omega) (by omega) HO.out HL.out HBEL.out
        have HC := Lib.hid hcall
        have HTK := Lib.hid (And.intro htk (And.intro hg1 hg2))
        have HAL2 := Lib.hid hAlen
        have HNY := Lib.hid hny
        rw [hdr, List.head?_cons, Option.map_some, lk_some]
        clear hcall htk hf1 hf2 hg1 hg2 hDD hy hyn hny hnx hAlen hdr
        go_wp2_with fail
        refine HC.out.mono ?_
        rintro e w5 ⟨tv5, lv5, D5, rfl, hD5, ho5, hl5, hk5, hb5, hkp5⟩
        have HO5 := Lib.hid (show w5.ownsRow W.heap.size 39 5 tv5 (N + 1 + (D ++ D5).length) (cells ++ (nodeCells (lab x) (.slice pa al pc) 0 ++ outD lab (D ++ D5))) by
          have := ho5.out
          rw [outD_append, List.length_append, ← Nat.add_assoc]
          simpa only [List.append_assoc] using this)
        have HL5 := Lib.hid (show w5.ownsRow W.heap.size 84 1 lv5 (N + 1 + (D ++ D5).length) ((ps ++ (x :: (szs (D ++ D5)).map (·.1))).map fun y => ptrV (nb y)) by
          have := hl5.out
          rw [szs_append, hD5, List.length_append, ← Nat.add_assoc]
          simpa only [List.append_assoc, List.map_append, List.cons_append, List.map_cons] using this)
        have HK5 := Lib.hid (show ∀ y ∈ D ++ D5, OwnKV w5 W.heap.size y.2.2 (lab y.1).attrs from fun y hy => by
          rcases List.mem_append.1 hy with h | h
          · exact (HDK.out y h).keep hkp5.out
          · exact hk5.out y h)
        have HP5 := Lib.hid (HPK.out.keep hkp5.out)
        have HKP5 := Lib.hid (HKP.out.trans hkp5.out)
        have HFS := Lib.hid (show Fs F.kids (K.take (k + 1)) (szs (D ++ D5)) by rw [HTK.out.1, szs_append, hD5]; exact HTK.out.2.1.append HTK.out.2.2)
        have hlen5 : (D ++ D5).length ≤ A.length := by
          have h1 : D5.length = E2.length := by rw [← szs_len D5, hD5]
          have := HAL2.out
          rw [List.length_append]
          omega
        have n5 := cell_below hb5.out HNY.out
        clear ho5 hl5 hk5 hkp5 hD5 HC
        go_wp2
        go_roundg (K.length - (k + 1))
        case measure => omega
        case rel => exact ⟨k + 1, D ++ D5, rfl, by omega, by rw [List.head?_drop], HFS, hlen5, HO5, HL5, HK5, HP5, hb5, HKP5⟩
      · obtain rfl : k = K.length := by omega
        have hDA : szs D = A := by
          have := HD2.out
          rw [List.take_length] at this
          exact this.det HA.out
        rw [List.drop_length, List.head?_nil, Option.map_none, lk_none]
        have ho6 := HO.out
        obtain ⟨go_, hso⟩ : ∃ go_, so = some ⟨go_, 0, none⟩ := by
          rcases ho6.2 with ⟨h1, h2⟩ | ⟨g0, c0_, cur, hv_, _⟩
          · omega
          · simp at hv_; exact ⟨g0, hv_.1⟩
        subst hso
        have hclen := HCL.out
        have hv9 : (N : Int) + 1 + (D.length : Int) - (N : Int) = (D.length : Int) + 1 := by omega
        have hset := ownsRow_set ho6 (i := N * 5 + 4) (by omega) (.int .i64 ((N : Int) + 1 + (D.length : Int) - (N : Int)))
        rw [set_last hclen, show nodeCells (lab x) (.slice pa al pc) ((N : Int) + 1 + (D.length : Int) - (N : Int)) = nodeCells (lab x) (.slice pa al pc) ((D.length : Int) + 1) by rw [hv9]] at hset
        have hfr := own_free ho6 (N * 5 + 4)
        have hgo := World.ownsRow.lt ho6 go_ rfl
        have hcs := own_cell ho6 (i := N * 5 + 4) (by rw [ho6.1]; omega)
        obtain ⟨u9, hu9⟩ : ∃ u, (cells ++ (nodeCells (lab x) (.slice pa al pc) 0 ++ outD lab D))[N * 5 + 4]'(by rw [ho6.1]; omega) = u := ⟨_, rfl⟩
        rw [hu9] at hcs
        have hks := KeepKV.set ho6 (by decide) (N * 5 + 4) (.int .i64 ((N : Int) + 1 + (D.length : Int) - (N : Int)))
        have hlF : (wr.setCell ⟨go_, N * 5 + 4, none⟩ (.int .i64 ((N : Int) + 1 + (D.length : Int) - (N : Int)))).ownsRow W.heap.size 84 1 (.slice lo (N + 1 + D.length) lc) (N + 1 + D.length) ((ps ++ (x :: (szs D).map (·.1))).map fun y => ptrV (nb y)) := ownsRow_kept HL.out (fun k hk => heap_setCell_other wr ⟨go_, N * 5 + 4, none⟩ k _ (fun e => by
          simp only at e
          exact own_ne_own HL.out ho6 (by decide) hk (by rw [← e]; rfl)))
        have hbF : Below W.heap.size W (wr.setCell ⟨go_, N * 5 + 4, none⟩ (.int .i64 ((N : Int) + 1 + (D.length : Int) - (N : Int)))) := Below.setCell (p := ⟨go_, N * 5 + 4, none⟩) HBEL.out hgo.1 _
        have HF9 := Lib.hid (And.intro hset (And.intro hlF (And.intro hbF hks)))
        have HDA := Lib.hid hDA
        have hNI : (N : Int) < (N : Int) + 1 + (D.length : Int) := by omega
        clear hset hlF hbF hks ho6 hu9 hclen hgo hv9 hDA
        go_wp2
        go_ret2
        refine ⟨_, _, (x, D.length + 1, .slice pa al pc) :: D, rfl, ?_, Lib.hid ?_, Lib.hid ?_, Lib.hid ?_, Lib.hid HF9.out.2.2.1, Lib.hid (HKP.out.trans HF9.out.2.2.2)⟩
        · rw [HCA.out, ← HDA.out]
          simp [szs]
        · have h1 := HF9.out.1
          have e2 : outD lab ((x, D.length + 1, .slice pa al pc) :: D) = nodeCells (lab x) (.slice pa al pc) ((D.length : Int) + 1) ++ outD lab D := rfl
          rw [e2, show N + ((x, D.length + 1, Value.slice pa al pc) :: D).length = N + 1 + D.length by simp; omega]
          exact h1
        · have h1 := HF9.out.2.1
          rw [HCA.out, ← HDA.out, show N + ((x, D.length + 1, Value.slice pa al pc) :: D).length = N + 1 + D.length by simp; omega]
          exact h1
        · intro y hy
          rcases List.mem_cons.1 hy with rfl | hy
          · exact HPK.out.keep HF9.out.2.2.2
          · exact (HDK.out y hy).keep HF9.out.2.2.2

end Go.Proofs.Ytoleejaabiafcaa
