/- Parts of a proof: ErrVars. -/
import Derived.Test.YtoanofdomhnafaaGreatDoorG44
import Derived.ProofKit
import Derived.LaidMore
import Derived.OpenShut
import Derived.ChangeVars
import Derived.Carry
set_option linter.unusedVariables false
set_option linter.unusedSimpArgs false
namespace Go.Proofs.YtoanofdomhnafaaGreatDoor
open Go.ChangeShapes Go.WideShapes Go.ChangeAt Go.WideMaps Go.WideElems Go.RowKit
theorem var_below {P : Program} {B g : Nat} {W W' : World} {n : String} {cs : Array Value} (h : Below B W W') (hg : P.globalNamed n = some g) (hgB : g < B) (hv : W.var? P n = some cs) : W'.var? P n = some cs := by
  unfold World.var? at hv ⊢
  simp only [hg, Option.bind_some] at hv ⊢
  rw [h.block g hgB]
  exact hv
theorem var_lt {P : Program} {g : Nat} {W : World} {n : String} {cs : Array Value} (hg : P.globalNamed n = some g) (hv : W.var? P n = some cs) : g < W.heap.size := by
  unfold World.var? at hv
  simp only [hg, Option.bind_some] at hv
  by_cases hz : g < W.heap.size
  · exact hz
  · have : W.heap[g]? = none := Array.getElem?_eq_none (by omega)
    rw [this] at hv
    cases hv
/-- A variable whose type is 'error'. -/
def ErrVar (n : String) : Prop := ∃ g, Tryz.prog.globalNamed n = some g ∧ (Tryz.prog.globals[g]?).map (·.type) = some 38
theorem errVars_stay {H : Type} {enc : TypeId × Value → H} {W W' : World} (hb : Below W.heap.size W W') : ∀ (ns : List String) (gs : List (DataW H)) (q : List MemPlace), (∀ n ∈ ns, ErrVar n) → DataW.TrodVars enc Tryz.prog W (fun _ => true) ns gs q →
    DataW.TrodVars enc Tryz.prog W' (fun b => decide (b < W.heap.size)) ns gs q
  | [], gs, q, _, h => by cases gs <;> exact h
  | n :: ns, [], q, _, h => by simp [DataW.TrodVars] at h
  | n :: ns, d :: ds, q, hn, h => by
    obtain ⟨g, t, cs, fuel, p, q', h1, h2, h3, h4, hs, rfl⟩ := h
    obtain ⟨g', e1, e2⟩ := hn n List.mem_cons_self
    obtain rfl := Option.some.inj (e1.symm.trans h1)
    obtain rfl := Option.some.inj (e2.symm.trans h2)
    have hlt := DataW.trod_lt _ _ _ _ h4
    have hr : Tryz.prog.readableRec 38 = true := by kernel_rfl
    exact ⟨_, _, cs, fuel, p, _, h1, h2, var_below hb h1 (var_lt h1 h3) h3, DataW.trod_stays (kids_book Tryz.laidOut hr) (book_sized hr) (fun h => by cases h) ⟨of_decide_eq_true (by kernel_rfl), book_self _⟩ h4 (fun x hx => hb.same (hlt x hx)) (fun x hx => by simpa using hlt x hx),
      errVars_stay hb ns ds q' (fun m hm => hn m (List.mem_cons_of_mem _ hm)) hs, rfl⟩
theorem trodVars_len3 {H : Type} {enc : TypeId × Value → H} {P : Program} {W : World} {spare : Nat → Bool} {n0 n1 n2 : String} {gs : List (DataW H)} {ps : List MemPlace} (h : DataW.TrodVars enc P W spare [n0, n1, n2] gs ps) : ∃ d0 d1 d2, gs = [d0, d1, d2] := by
  cases gs with
  | nil => simp [DataW.TrodVars] at h
  | cons d ds =>
    obtain ⟨_, _, _, _, _, _, _, _, _, _, hs, _⟩ := h
    obtain ⟨_, _, _, _, d1, _, _, _, _, _, d2, _, rfl, _⟩ := trodVars_two hs
    exact ⟨_, _, _, rfl⟩
theorem errs_stay {H : Type} {enc : TypeId × Value → H} {W W' : World} {gs : List (DataW H)} {q : List MemPlace} (h : DataW.TrodVars enc Tryz.prog W (fun _ => true) ["given.example/pub-bosquet/pub/cascadia.errExpectedParenthesis", "given.example/pub-bosquet/pub/cascadia.errExpectedClosingParenthesis", "given.example/pub-bosquet/pub/cascadia.errUnmatchedParenthesis"] gs q) (hb : Below W.heap.size W W') :
    DataW.TrodVars enc Tryz.prog W' (fun b => decide (b < W.heap.size)) ["given.example/pub-bosquet/pub/cascadia.errExpectedParenthesis", "given.example/pub-bosquet/pub/cascadia.errExpectedClosingParenthesis", "given.example/pub-bosquet/pub/cascadia.errUnmatchedParenthesis"] gs q :=
  errVars_stay hb _ gs q (fun n hn => by
    simp only [List.mem_cons, List.not_mem_nil, or_false] at hn
    rcases hn with rfl | rfl | rfl
    · exact ⟨0, by kernel_rfl, by kernel_rfl⟩
    · exact ⟨1, by kernel_rfl, by kernel_rfl⟩
    · exact ⟨2, by kernel_rfl, by kernel_rfl⟩) h
end Go.Proofs.YtoanofdomhnafaaGreatDoor
