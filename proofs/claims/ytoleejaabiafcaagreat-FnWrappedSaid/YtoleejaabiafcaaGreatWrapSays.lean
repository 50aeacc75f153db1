/- What the reference says of nodes that are wrapped. -/
import Derived.Test.YtoleejaabiafcaaGreatEndsMany
import Derived.Test.YtoleejaabiafcaaGreatRemAll
import Derived.Test.YtoleejaabiafcaaGreatWrapKAll
namespace Go.Proofs.YtoleejaabiafcaaGreat
open Go.RowKit
set_option linter.unusedVariables false
set_option linter.unusedSimpArgs false

def WrapPhi (len : Nat) (ts : List NodeD) (zs1 zs2 : List Int) : Nat → (Nat → Int) → (Nat → NodeD) → Wd → Prop := WrapStepK len (fun i => (i : Int)) (fun i => ts.getD i default) (wd0 (sz ts) len) zs1 zs2

theorem wrMid0 {n : Nat} {F : Wd} (hF : WOk n F) (lab : Nat → NodeD) (L xs : List Nat) : WrMid n F lab L xs n lab F := ⟨hF, Nat.le_refl _, fun _ _ _ => rfl, fun _ _ => rfl, fun _ _ => rfl⟩

theorem wrapPhi_ok (len : Nat) (ts : List NodeD) (zs1 zs2 : List Int) : PhiOk len ts (WrapPhi len ts zs1 zs2) := by
  rintro n pl lab F hR ⟨h6, hold, hnew, xs, wd, L, hp1, hp2, hx0, hL, hs, hk, hM⟩
  have hF := wd0_ok hR.nest
  obtain ⟨h1, h2, _, _⟩ := hM.ok hs (wrMid0 hF (fun i => ts.getD i default) L xs)
  refine ⟨h1, by omega, by have := hR.pos; omega, fun i hi => ?_⟩
  by_cases e : i < len
  · rw [(hold i e).1]; simp only; omega
  · rw [hnew i (by omega) hi]; have := hR.pos; omega

theorem wrapSays {W : World} {len : Nat} {ts : List NodeD} {a1 : Option Addr} {n1 c1 : Nat} {a2 : Option Addr} {n2 c2 : Nat} {zs1 zs2 : List Int} (h : Ints W a1 n1 zs1) (h2 : Ints W a2 n2 zs2) {a : Option Addr} (hN : Nodes W a len ts) : StepSays len ts 9 a1 n1 c1 a2 n2 c2 (WrapPhi len ts zs1 zs2) W := by
  intro W' hb w f vf kn kv av hR hK hF hb2
  exact stepWrap_any w f len vf kn kv av _ _ _ _ hK (wd0_ok hR.nest) hF hR.pos hR.le rfl (fun y hy => ⟨(fit_of hR hN y hy).few, (fit_of hR hN y hy).wa⟩) a1 n1 c1 zs1 (h.below (hb.trans (hb2.mono hb.size))) a2 n2 c2 zs2 (h2.below (hb.trans (hb2.mono hb.size)))

end Go.Proofs.YtoleejaabiafcaaGreat
