/- What the reference says of nodes that are removed. -/
import Derived.Test.YtoleejaabiafcaaSureAll
import Derived.Test.YtoleejaabiafcaaStepRem
namespace Go.Proofs.Ytoleejaabiafcaa
open Go.RowKit
set_option linter.unusedVariables false
set_option linter.unusedSimpArgs false

theorem Picks.reads {len : Nat} {zs : List Int} {l : List Nat} (h : Picks len zs l) {w : World} {a : Option Addr} {n cap : Nat} (hw : Ints w a n zs) (h1 : n ≤ cap) (h2 : cap ≤ maxLen) : ReadsAs w (.slice a n cap) (l.map intV) := by
  have hn : n = (l.map intV).length := by
    have := hw.1
    rw [h.eq] at this
    simpa using this.symm
  refine ⟨a, cap, by rw [← hn], by omega, h2, ?_⟩
  rw [← hn]
  have : l.map intV = zs.map intZ := by rw [h.eq]; simp [intV, intZ, Function.comp_def]
  rw [this]
  exact hw

theorem once_nodup {l : List Nat} (h : l.Nodup) : Once l := fun i j hi hj e => by
  simp only [List.getD_eq_getElem?_getD, List.getElem?_eq_getElem hi, List.getElem?_eq_getElem hj, Option.getD_some] at e
  exact (List.getElem_inj h).1 e

theorem Picks.det {len : Nat} {zs : List Int} {l l' : List Nat} (h : Picks len zs l) (h' : Picks len zs l') : l = l' := by
  have h1 := h.eq
  rw [h'.eq] at h1
  have h2 := congrArg (List.map Int.toNat) h1
  simp only [List.map_map] at h2
  have h3 : ∀ q : List Nat, q.map (Int.toNat ∘ fun (n : Nat) => (n : Int)) = q := fun q => by
    conv => rhs; rw [← List.map_id q]
    exact List.map_congr_left (fun x _ => rfl)
  rw [h3, h3] at h2
  exact h2.symm

/-- Nodes of a right tree that are removed. -/
def RemPhi (len : Nat) (ts : List NodeD) (zs : List Int) : Nat → (Nat → Int) → (Nat → NodeD) → Wd → Prop := RemK len (fun i => (i : Int)) (fun i => ts.getD i default) (wd0 (sz ts) len) zs

theorem remPhi_ok (len : Nat) (ts : List NodeD) (zs : List Int) : PhiOk len ts (RemPhi len ts zs) := by
  rintro n pl lab F hR ⟨rfl, rfl, rfl, l, hl, rfl⟩
  exact ⟨(wd0_ok hR.nest).cuts l, by have := hR.le; omega, hR.pos, fun i hi => by simp only; omega⟩

theorem remSays {W : World} {len : Nat} {ts : List NodeD} {a1 : Option Addr} {n1 c1 : Nat} {zs : List Int} (h : Ints W a1 n1 zs) : StepSays len ts 6 a1 n1 c1 none 0 0 (RemPhi len ts zs) W := by
  intro W' hb w f vf kn kv av hR hK hF hb2
  exact stepRem_any w f len vf kn kv av _ _ _ _ hK (wd0_ok hR.nest) hF hR.pos hR.le a1 n1 c1 zs (h.below (hb.trans (hb2.mono hb.size)))

end Go.Proofs.Ytoleejaabiafcaa
