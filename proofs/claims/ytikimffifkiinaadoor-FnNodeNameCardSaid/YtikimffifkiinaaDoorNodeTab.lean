/- The table of the nodes' names, out of what the card lists. -/
import Derived.Test.YtikimffifkiinaaDoorNodeName
import Derived.Test.YtikimffifkiinaaDoorRows
import Derived.ProofKit
import Derived.LaidMore
import Derived.OpenShut
import Derived.SliceStrings
import Derived.ChangeVars
import Derived.Carry
import Derived.Test.YtikimffifkiinaaDoorViewsAll
namespace Go.Proofs.YtikimffifkiinaaDoor
open Go.ChangeShapes Go.WideShapes Go.ChangeAt Go.RowKit
set_option linter.unusedVariables false
set_option linter.unusedSimpArgs false

theorem gNames : Tryd.prog.globalNamed "given.example/pub-bosquet/pub/goquery.nodeNames" = some 0 := by kernel_rfl
theorem tNames : (Tryd.prog.globals[0]?).map (·.type) = some 28 := by kernel_rfl

theorem bytes_eq {s : ByteArray} {l : List UInt8} (h : s.data.toList = l) : s = ⟨l.toArray⟩ := by
  cases s with
  | mk d => simp at h; subst h; simp

theorem add_none (b off j : Nat) : (⟨b, off, none⟩ : Addr).add j = ⟨b, off + j, none⟩ := by unfold Addr.add; split <;> simp_all

theorem of_laid {W : World} (h : laidMetH Tryd.prog Rows.fnNodeNameRow.laid W) : ∃ tb off cap, 5 ≤ cap ∧ cap ≤ maxLen ∧ TabAt W tb off cap := by
  rw [MakeChecks.laidMetH_plain _ _ _ (by kernel_rfl)] at h
  obtain ⟨ps, ⟨g0, t0, cs0, f0, p0, q0, hg0, ht0, hv0, hd0, _, _⟩, _, _⟩ := h
  obtain rfl := Option.some.inj (gNames.symm.trans hg0)
  obtain rfl := Option.some.inj (tNames.symm.trans ht0)
  rcases open_strings Tryd.underlying28 Tryd.underlying9 (by kernel_rfl) hd0 with ⟨_, hx⟩ | ⟨x, l, c, ss, hcs, hb, hl, hm, hz, hx, hcell, hws⟩
  · simp [Rows.laid_given_example_pub_bosquet_pub_goquery_nodeNames] at hx
  · simp only [Prod.mk.injEq] at hx
    have hx1 := hx.1
    simp only [Rows.laid_given_example_pub_bosquet_pub_goquery_nodeNames, DataW.slice.injEq] at hx1
    obtain ⟨e1, _⟩ := hx1
    have hlz : l ≤ ss.length := by rw [hz]; split <;> omega
    have hl5 : l = 5 := by
      have h5 := congrArg List.length e1
      simp [strs] at h5
      omega
    subst hl5
    obtain ⟨L, hL⟩ : ∃ L, ss.take 5 = L := ⟨_, rfl⟩
    rw [hL] at e1
    have hget : ∀ i, i < 5 → ss.getD i ByteArray.empty = L.getD i ByteArray.empty := fun i hi => by
      rw [← hL]
      simp [List.getD, List.getElem?_take, hi]
    have hLl : L.length = 5 := by rw [← hL, List.length_take]; omega
    match L, hLl, e1, hget with
    | [s0, s1, s2, s3, s4], _, e1, hget =>
      simp [strs] at e1
      obtain ⟨q0, q1, q2, q3, q4⟩ := e1
      have z1 := bytes_eq q1.symm
      have z2 := bytes_eq q2.symm
      have z4 := bytes_eq q4.symm
      have h0 := World.var?_cell hg0 hv0 0
      rw [Array.eq_one_of_toList hcs] at h0
      obtain ⟨tb, off, spot⟩ := x
      have c0 := hcell 0 (by omega)
      have c1 := hcell 1 (by omega)
      have c2 := hcell 2 (by omega)
      have c4 := hcell 4 (by omega)
      have hspot : spot = none := by simpa [Addr.add] using World.cell?_spot c0
      subst hspot
      rw [add_none, hget _ (by omega)] at c1 c2 c4
      simp only [List.getD, List.getElem?_cons_succ, List.getElem?_cons_zero, Option.getD_some] at c1 c2 c4
      refine ⟨tb, off, c, hl, hm, ⟨by simpa using h0, ?_, ?_, ?_⟩⟩
      · rw [c1, z1]; rfl
      · rw [c2, z2]; rfl
      · rw [c4, z4]; rfl

theorem var_below {P : Program} {B g : Nat} {W W' : World} {n : String} {cs : Array Value} (h : Below B W W') (hg : P.globalNamed n = some g) (hgB : g < B) (hv : W.var? P n = some cs) : W'.var? P n = some cs := by
  unfold World.var? at hv ⊢
  simp only [hg, Option.bind_some] at hv ⊢
  rw [h.block g hgB]
  exact hv

/-- The table reads as it did. -/
theorem vars_stay {H : Type} {enc : TypeId × Value → H} {W W' : World} {gs : List (DataW H)} {q : List MemPlace} (h : DataW.TrodVars enc Tryd.prog W (fun _ => true) ["given.example/pub-bosquet/pub/goquery.nodeNames"] gs q) (hb : Below W.heap.size W W') :
    DataW.TrodVars enc Tryd.prog W' (fun b => decide (b < W.heap.size)) ["given.example/pub-bosquet/pub/goquery.nodeNames"] gs q := by
  obtain ⟨g, t, cs, fuel, d, p, rfl, h1, h2, h3, h4, rfl⟩ := trodVars_one h
  obtain rfl := Option.some.inj (gNames.symm.trans h1)
  obtain rfl := Option.some.inj (tNames.symm.trans h2)
  have hlt := DataW.trod_lt _ _ _ _ h4
  have hg : 0 < W.heap.size := by
    have h3' := h3
    simp only [World.var?, h1, Option.bind_some] at h3'
    by_cases hz : 0 < W.heap.size
    · exact hz
    · have : W.heap[0]? = none := Array.getElem?_eq_none (by omega)
      rw [this] at h3'
      cases h3'
  have hr : Tryd.prog.readableRec 28 = true := by kernel_rfl
  exact trodVars_mk1 h1 h2 (var_below hb h1 hg h3) (DataW.trod_stays (kids_book Tryd.laidOut hr) (book_sized hr) (fun h => by cases h) ⟨of_decide_eq_true (by kernel_rfl), book_self _⟩ h4 (fun x hx => hb.same (hlt x hx)) (fun x hx => by simpa using hlt x hx))

end Go.Proofs.YtikimffifkiinaaDoor
