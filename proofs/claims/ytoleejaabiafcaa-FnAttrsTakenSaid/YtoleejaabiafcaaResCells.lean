/- Results that lie in a cell: alone, ahead of two others, ahead of three. -/
import Derived.Tactics
import Derived.Test.YtoleejaabiafcaaCells
namespace Go.Proofs.Ytoleejaabiafcaa
open Go.RowKit

theorem results_cell1 {fn : Func} {p : Tmp} {ty : TypeId} (h : fn.results = #[.cell p ty]) (tmps : Array Value) (P : Program) (w : World) :
    (results fn tmps).run P w = ((asAddr (tmps.getD p undef)).run P w).andThen fun a w₁ => (loadVar ty a).run P w₁ := by
  simp only [results, h]
  simp [Sem.run_bind, Result.andThen]

theorem results_cell3 {fn : Func} {p u v : Tmp} {ty : TypeId} (h : fn.results = #[.cell p ty, .tmp u, .tmp v]) (tmps : Array Value) (P : Program) (w : World) :
    (results fn tmps).run P w = ((asAddr (tmps.getD p undef)).run P w).andThen fun a w₁ => ((loadVar ty a).run P w₁).andThen fun x w₂ => .ok (.tuple #[x, tmps.getD u undef, tmps.getD v undef]) w₂ := by
  simp only [results, h]
  simp [Sem.run_bind, Result.andThen]

theorem results_cell4 {fn : Func} {p u v x : Tmp} {ty : TypeId} (h : fn.results = #[.cell p ty, .tmp u, .tmp v, .tmp x]) (tmps : Array Value) (P : Program) (w : World) :
    (results fn tmps).run P w = ((asAddr (tmps.getD p undef)).run P w).andThen fun a w₁ => ((loadVar ty a).run P w₁).andThen fun y w₂ => .ok (.tuple #[y, tmps.getD u undef, tmps.getD v undef, tmps.getD x undef]) w₂ := by
  simp only [results, h]
  simp [Sem.run_bind, Result.andThen]

end Go.Proofs.Ytoleejaabiafcaa
