/- The variables that the card lists: the tables of package utf8, the table of void elements, the error plaintextAbort. -/
import Derived.Test.YtphppdbhofeagaaDoorRenders
import Derived.Test.YtphppdbhofeagaaDoorValidStr
import Derived.Test.YtphppdbhofeagaaDoorRows
import Derived.ProofKit
import Derived.LaidMore
import Derived.OpenShut
import Derived.ChangeVars
import Derived.Carry
import Derived.Test.YtphppdbhofeagaaDoorViewsAll
namespace Go.Proofs.YtphppdbhofeagaaDoor
open Go.ChangeShapes Go.WideShapes Go.ChangeAt Go.WideMaps Go.WideElems Go.RowKit
set_option linter.unusedVariables false
set_option linter.unusedSimpArgs false

theorem gAbort : Tryd.prog.globalNamed "given.example/pub-bosquet/pub/net/html.plaintextAbort" = some 2 := by kernel_rfl
theorem tAbort : (Tryd.prog.globals[2]?).map (·.type) = some 41 := by kernel_rfl
theorem gVoid : Tryd.prog.globalNamed "given.example/pub-bosquet/pub/net/html.voidElements" = some 3 := by kernel_rfl
theorem tVoid : (Tryd.prog.globals[3]?).map (·.type) = some 117 := by kernel_rfl
theorem keyStr : KeyLaw Tryd.prog 9 := string_law Tryd.underlying9

theorem iface_cells {H : Type} {enc : TypeId × Value → H} {P : Program} {w : World} {base : Nat} {sp : Nat → Bool} {held : Bool} {fuel : Nat} {t : TypeId} {cs : List Value} {nm : String} {d : DataW H} {p : List MemPlace} {ms : Array (String × TypeId)}
    (hi : P.underlying t = some (.interface ms)) (h : DataW.trod enc P w base sp held fuel t cs = some (.iface nm d, p)) : ∃ u v, cs = [.iface u v] := by
  cases fuel with
  | zero => simp [DataW.trod] at h
  | succ n =>
    rw [DataW.trod_step] at h
    unfold DataW.trodStep at h
    rw [hi] at h
    split at h
    all_goals first
      | exact ⟨_, _, rfl⟩
      | simp_all

set_option maxRecDepth 100000 in
theorem abort_of {W : World} (h : laidMetH Tryd.prog Rows.fnRenderedPartsRow.laid W) : AbortAt W := by
  rw [MakeChecks.laidMetH_plain _ _ _ (by kernel_rfl)] at h
  obtain ⟨g, t, cs, fuel, p, hg, ht, hv, hd⟩ := Lib.laidMet.reads h (.tail _ (.head _))
  obtain rfl := Option.some.inj (gAbort.symm.trans hg)
  obtain rfl := Option.some.inj (tAbort.symm.trans ht)
  obtain ⟨u, v, hcs⟩ := iface_cells Tryd.underlying41 hd
  refine ⟨u, v, ?_⟩
  have := World.var?_cell hg hv 0
  rw [Array.eq_one_of_toList hcs] at this
  simpa using this

theorem zeroBool (w : World) : (zeroValue 4).run Tryd.prog w = .ok (.bool false) w := by kernel_rfl

theorem void_lists : ∀ l ∈ plainLists, ∀ zd : DataW Unit, (Rows.laid_given_example_pub_bosquet_pub_net_html_voidElements (H := Unit)).atKey (.string l) zd = zd := by
  intro l hl zd
  simp only [plainLists, List.mem_cons, List.not_mem_nil, or_false] at hl
  rcases hl with rfl | rfl | rfl | rfl | rfl | rfl | rfl | rfl | rfl | rfl | rfl | rfl | rfl | rfl | rfl | rfl <;> rfl

theorem void_not {s : ByteArray} (h : Plainish s) (zd : DataW Unit) : (Rows.laid_given_example_pub_bosquet_pub_net_html_voidElements (H := Unit)).atKey (.string s.data.toList) zd = zd := void_lists _ h zd

set_option maxRecDepth 100000 in
theorem void_of {W : World} (h : laidMetH Tryd.prog Rows.fnRenderedPartsRow.laid W) : VoidAt W := by
  rw [MakeChecks.laidMetH_plain _ _ _ (by kernel_rfl)] at h
  obtain ⟨g, t, cs, fuel, p, hg, ht, hv, hd⟩ := Lib.laidMet.reads h (.tail _ (.tail _ (.head _)))
  obtain rfl := Option.some.inj (gVoid.symm.trans hg)
  obtain rfl := Option.some.inj (tVoid.symm.trans ht)
  rcases open_map Tryd.underlying117 hd with ⟨_, hx⟩ | ⟨bm, es, clock, m, rfl, hcs, hb, _, F, hx⟩
  · simp [Rows.laid_given_example_pub_bosquet_pub_net_html_voidElements] at hx
  simp only [Prod.mk.injEq] at hx
  have hcell : W.cell? ⟨3, 0, none⟩ = some (.map (some bm)) := by
    have := World.var?_cell hg hv 0
    rw [Array.eq_one_of_toList hcs] at this
    simpa using this
  refine ⟨bm, hcell, fun w' hbw s hs => ?_⟩
  have hb' : w'.heap[bm]? = some (.map es clock) := by rw [hbw.block bm (Array.getElem?_eq_some_iff.1 hb).1]; exact hb
  rcases fit_lookup (w := w') keyStr Tryd.underlying117 (zeroBool w') hb' F (keyOf_string_mk (s := s) Tryd.underlying9 (by have := plainish_size hs; unfold maxLen; omega)) with ⟨hrun, _⟩ | ⟨v, y, _, _, hat, _⟩
  · exact hrun
  · have h1 := hat .nil
    have h2 := hat (.lit (.bool true))
    rw [← hx.1, void_not hs] at h1 h2
    rw [← h1] at h2
    cases h2

set_option maxRecDepth 100000 in
theorem tabs_of {W : World} (h : laidMetH Tryd.prog Rows.fnRenderedPartsRow.laid W) : TabsAt W := by
  rw [MakeChecks.laidMetH_plain _ _ _ (by kernel_rfl)] at h
  have h3 := Lib.laidMet.reads h (.tail _ (.tail _ (.tail _ (.head _))))
  have h4 := Lib.laidMet.reads h (.head _)
  exact utf8Tabs_of_readsT (U8Types.of196 Tryd.lays196) ⟨by kernel_rfl, by kernel_rfl, by kernel_rfl, by kernel_rfl, by kernel_rfl, by kernel_rfl, by kernel_rfl⟩ h3 h4

theorem var_below {P : Program} {B g : Nat} {W W' : World} {n : String} {cs : Array Value} (h : Below B W W') (hg : P.globalNamed n = some g) (hgB : g < B) (hv : W.var? P n = some cs) : W'.var? P n = some cs := by
  unfold World.var? at hv ⊢
  simp only [hg, Option.bind_some] at hv ⊢
  rw [h.block g hgB]
  exact hv

theorem var_lt {P : Program} {g : Nat} {W : World} {n : String} {cs : Array Value} (hg : P.globalNamed n = some g) (hv : W.var? P n = some cs) : g < W.heap.size := by
  unfold World.var? at hv
  simp only [hg, Option.bind_some] at hv
  by_cases hz : g < W.heap.size
  · exact hz
  · have : W.heap[g]? = none := Array.getElem?_eq_none (by omega)
    rw [this] at hv
    cases hv

/-- The two variables read as they did. -/
theorem vars_stay {H : Type} {enc : TypeId × Value → H} {W W' : World} {gs : List (DataW H)} {q : List MemPlace} (h : DataW.TrodVars enc Tryd.prog W (fun _ => true) ["given.example/pub-bosquet/pub/net/html.plaintextAbort", "given.example/pub-bosquet/pub/net/html.voidElements"] gs q) (hb : Below W.heap.size W W') :
    DataW.TrodVars enc Tryd.prog W' (fun b => decide (b < W.heap.size)) ["given.example/pub-bosquet/pub/net/html.plaintextAbort", "given.example/pub-bosquet/pub/net/html.voidElements"] gs q := by
  obtain ⟨g, t, cs, fuel, d, p, g', t', cs', fuel', d', p', rfl, h1, h2, h3, h4, h1', h2', h3', h4', rfl⟩ := trodVars_two h
  obtain rfl := Option.some.inj (gAbort.symm.trans h1)
  obtain rfl := Option.some.inj (tAbort.symm.trans h2)
  obtain rfl := Option.some.inj (gVoid.symm.trans h1')
  obtain rfl := Option.some.inj (tVoid.symm.trans h2')
  have hlt := DataW.trod_lt _ _ _ _ h4
  have hlt' := DataW.trod_lt _ _ _ _ h4'
  have hr : Tryd.prog.readableRec 41 = true := by kernel_rfl
  have hr' : Tryd.prog.readableRec 117 = true := by kernel_rfl
  exact ⟨_, _, cs, fuel, p, _, h1, h2, var_below hb h1 (var_lt h1 h3) h3, DataW.trod_stays (kids_book Tryd.laidOut hr) (book_sized hr) (fun h => by cases h) ⟨of_decide_eq_true (by kernel_rfl), book_self _⟩ h4 (fun x hx => hb.same (hlt x hx)) (fun x hx => by simpa using hlt x hx),
    trodVars_mk1 h1' h2' (var_below hb h1' (var_lt h1' h3') h3') (DataW.trod_stays (kids_book Tryd.laidOut hr') (book_sized hr') (fun h => by cases h) ⟨of_decide_eq_true (by kernel_rfl), book_self _⟩ h4' (fun x hx => hb.same (hlt' x hx)) (fun x hx => by simpa using hlt' x hx)), rfl⟩

end Go.Proofs.YtphppdbhofeagaaDoor
