/- What the reference says of nodes that are put at one node; all nodes stay beneath the root. -/
import Derived.Test.YtoleejaabiafcaaGreatSure
import Derived.Test.YtoleejaabiafcaaGreatInsAll
import Derived.Test.YtoleejaabiafcaaGreatRemAll
import Derived.Test.YtoleejaabiafcaaGreatOutAll
import Derived.Test.YtoleejaabiafcaaGreatDomIns
namespace Go.Proofs.YtoleejaabiafcaaGreat
open Go.RowKit
set_option linter.unusedVariables false
set_option linter.unusedSimpArgs false

theorem mv_all {n : Nat} {F : Wd} (hF : WOk n F) {p : Nat} (hp : p < n) {A0 B0 : List Nat} (h0 : F.kids p = A0 ++ B0) {ws : List Nat} (hW : ∀ v ∈ ws, ¬ Anc F v p) (hnd : ws.Nodup) (hlt : ∀ v ∈ ws, v < n) : WOk n (mv F p A0 B0 ws) := by
  have key : ∀ k, k ≤ ws.length → WOk n (mv F p A0 B0 (ws.take k)) := by
    intro k
    induction k with
    | zero => intro _; rw [List.take_zero, mv_nil h0]; exact hF
    | succ k ih =>
      intro hk
      have hG := ih (by omega)
      have hlt2 : k < ws.length := by omega
      have hyT : ws.getD k 0 ∉ ws.take k := fun hm => by
        have h4 := hnd
        rw [← List.take_append_drop k ws, List.nodup_append] at h4
        refine h4.2.2 _ hm _ ?_ rfl
        rw [List.drop_eq_getElem_cons hlt2, List.getD_eq_getElem?_getD, List.getElem?_eq_getElem hlt2]
        exact List.mem_cons_self ..
      have hy := getD_mem' (d := 0) hlt2
      have h5 := mv_step hF hp h0 (T := ws.take k) (W := ws) (fun q hq => List.mem_of_mem_take hq) hW hy hyT (hlt _ hy) hG
      rw [take_snoc hlt2]
      exact h5.2.2.2.2.2
  have := key ws.length (Nat.le_refl _)
  rwa [List.take_length] at this

theorem mv_up {F : Wd} {p : Nat} {A0 B0 ws : List Nat} (y : Nat) : (mv F p A0 B0 ws).up y = if y ∈ ws then some p else F.up y := by
  by_cases h : y ∈ ws
  · simp only [mv, Wd.ins, if_pos h]
  · simp only [mv, Wd.ins, Wd.off, if_neg h]

theorem mv_kids {F : Wd} {p : Nat} {A0 B0 ws : List Nat} : (mv F p A0 B0 ws).kids p = offL ws A0 ++ (ws ++ offL ws B0) := by simp only [mv, Wd.ins, if_pos]

theorem mv_kk {F : Wd} {p : Nat} {A0 B0 ws : List Nat} {x : Nat} (h : (mv F p A0 B0 ws).kids x ≠ []) : x = p ∨ F.kids x ≠ [] := by
  by_cases e : x = p
  · exact .inl e
  · refine .inr (fun h2 => h ?_)
    simp only [mv, Wd.ins, if_neg e, Wd.off, h2]
    rfl

/-- All nodes of the order, where each but the root stands beneath another one. -/
theorem all_in {n : Nat} {F : Wd} (hF : WOk n F) {r : Nat} (hu : ∀ i, i < n → i ≠ r → ∃ p, F.up i = some p) {C : List (Nat × Nat)} (hC : Fs F.kids [r] C) (hnd : (C.map (·.1)).Nodup) (hlt : ∀ y ∈ C, y.1 < n) : (∀ i, i < n → i ∈ C.map (·.1)) ∧ C.length = n := by
  obtain ⟨d, M, h1, h2⟩ := hF.deep
  have key : ∀ m i, i < n → d i ≤ m → Anc F r i := by
    intro m
    induction m with
    | zero =>
      intro i hi hm
      by_cases e : i = r
      · subst e; exact .refl
      · obtain ⟨p, hp⟩ := hu i hi e
        have := h2 p i hp
        omega
    | succ m ih =>
      intro i hi hm
      by_cases e : i = r
      · subst e; exact .refl
      · obtain ⟨p, hp⟩ := hu i hi e
        have := h2 p i hp
        exact .step hp (ih p (hF.ltUp hp).2 (by omega))
  have hin : ∀ i, i < n → i ∈ C.map (·.1) := fun i hi => (hC.fl.anc hF i).2 ⟨r, by simp, key _ i hi (Nat.le_refl _)⟩
  refine ⟨hin, ?_⟩
  have a1 : C.length ≤ n := by
    have := nodup_len n _ hnd (fun y hy => by
      obtain ⟨q, hq, rfl⟩ := List.mem_map.1 hy
      exact hlt q hq)
    rwa [List.length_map] at this
  have a2 : n ≤ C.length := by
    have h3 : (List.range n).Nodup := List.nodup_range
    have h4 := h3.length_le_of_subset (l₂ := C.map (·.1)) (fun i hi => hin i (List.mem_range.1 hi))
    simpa using h4
  omega

/-- Nodes of a right tree that are put at one. -/
def InsPhi (op : Int) (len : Nat) (ts : List NodeD) (zs1 zs2 : List Int) : Nat → (Nat → Int) → (Nat → NodeD) → Wd → Prop := InsK op len (fun i => (i : Int)) (fun i => ts.getD i default) (wd0 (sz ts) len) zs1 zs2

theorem target_lt {op : Int} {lab : Nat → NodeD} {n : Nat} {F : Wd} (hF : WOk n F) {x p : Nat} {A B : List Nat} (hx : x < n) (h : Target op lab F x p A B) : p < n := by
  rcases h.2 with ⟨_, h2, _⟩ | ⟨_, h2, _⟩ | ⟨_, h2, _⟩
  · omega
  · exact (hF.ltUp h2).2
  · exact (hF.ltUp h2).2

theorem insPhi_ok (op : Int) (len : Nat) (ts : List NodeD) (zs1 zs2 : List Int) : PhiOk len ts (InsPhi op len ts zs1 zs2) := by
  rintro n pl lab F hR ⟨rfl, rfl, rfl, x, ws, p, A0, B0, h1, h2, hne, hap, htg, rfl⟩
  have hF := wd0_ok hR.nest
  have hx := h1.lt x (by simp)
  refine ⟨mv_all hF (target_lt hF hx htg) htg.1 (htg.clear hap) h2.nd h2.lt, by have := hR.le; omega, hR.pos, fun i hi => by simp only; omega⟩

theorem insSays_append {W : World} {len : Nat} {ts : List NodeD} {a1 : Option Addr} {c1 : Nat} {a2 : Option Addr} {n2 c2 : Nat} {zs1 zs2 : List Int} (h : Ints W a1 1 zs1) (h2 : Ints W a2 n2 zs2) : StepSays len ts 1 a1 1 c1 a2 n2 c2 (InsPhi 1 len ts zs1 zs2) W := by
  intro W' hb w f vf kn kv av hR hK hF hb2
  exact stepIns_append w f len vf kn kv av _ _ _ _ hK (wd0_ok hR.nest) hF hR.pos hR.le a1 c1 zs1 (h.below (hb.trans (hb2.mono hb.size))) a2 n2 c2 zs2 (h2.below (hb.trans (hb2.mono hb.size)))
theorem insSays_before {W : World} {len : Nat} {ts : List NodeD} {a1 : Option Addr} {c1 : Nat} {a2 : Option Addr} {n2 c2 : Nat} {zs1 zs2 : List Int} (h : Ints W a1 1 zs1) (h2 : Ints W a2 n2 zs2) : StepSays len ts 4 a1 1 c1 a2 n2 c2 (InsPhi 4 len ts zs1 zs2) W := by
  intro W' hb w f vf kn kv av hR hK hF hb2
  exact stepIns_before w f len vf kn kv av _ _ _ _ hK (wd0_ok hR.nest) hF hR.pos hR.le a1 c1 zs1 (h.below (hb.trans (hb2.mono hb.size))) a2 n2 c2 zs2 (h2.below (hb.trans (hb2.mono hb.size)))
theorem insSays_after {W : World} {len : Nat} {ts : List NodeD} {a1 : Option Addr} {c1 : Nat} {a2 : Option Addr} {n2 c2 : Nat} {zs1 zs2 : List Int} (h : Ints W a1 1 zs1) (h2 : Ints W a2 n2 zs2) : StepSays len ts 3 a1 1 c1 a2 n2 c2 (InsPhi 3 len ts zs1 zs2) W := by
  intro W' hb w f vf kn kv av hR hK hF hb2
  exact stepIns_after w f len vf kn kv av _ _ _ _ hK (wd0_ok hR.nest) hF hR.pos hR.le a1 c1 zs1 (h.below (hb.trans (hb2.mono hb.size))) a2 n2 c2 zs2 (h2.below (hb.trans (hb2.mono hb.size)))

/-- What the law knows of such a step: the order of the document behind it. -/
theorem ins_order {op : Int} {len : Nat} {ts : List NodeD} (hR : RightT ts len) {x p : Nat} {A0 B0 ws : List Nat} (hx : x < len) (htg : Target op (fun i => ts.getD i default) (wd0 (sz ts) len) x p A0 B0) (hap : ApartW (wd0 (sz ts) len) ws [x]) (hnd : ws.Nodup) (hlt : ∀ v ∈ ws, v < len ∧ 1 ≤ v) :
    ∃ C, Fs (mv (wd0 (sz ts) len) p A0 B0 ws).kids [0] C ∧ (C.map (·.1)).Nodup ∧ (∀ y ∈ C, y.1 < len) ∧ C.length = len ∧ (∀ i, i < len → i ∈ C.map (·.1)) ∧ WOk len (mv (wd0 (sz ts) len) p A0 B0 ws) ∧ (∀ q, q < len → (mv (wd0 (sz ts) len) p A0 B0 ws).kids q ≠ [] → (ts.getD q default).kind = 1 ∨ (ts.getD q default).kind = 3) := by
  have hF := wd0_ok hR.nest
  have hp := target_lt hF hx htg
  have hok := mv_all hF hp htg.1 (htg.clear hap) hnd (fun v hv => (hlt v hv).1)
  obtain ⟨C, hC, h1, h2, _⟩ := hok.sized hR.pos
  obtain ⟨h3, h4⟩ := all_in hok (fun i hi h0 => by
    rw [mv_up]
    by_cases h : i ∈ ws
    · rw [if_pos h]; exact ⟨p, rfl⟩
    · rw [if_neg h, wd0_up hi]
      exact par_is hR.root hi (by omega)) hC h1 h2
  refine ⟨C, hC, h1, h2, h4, h3, hok, fun q hq hk => ?_⟩
  rcases mv_kk hk with rfl | hk2
  · rcases htg.2 with ⟨_, rfl, _, h5⟩ | ⟨_, hu, _⟩ | ⟨_, hu, _⟩
    · exact .inr h5
    · exact wd0_kk hR q hq (List.ne_nil_of_mem ((hF.iff q x).2 hu))
    · exact wd0_kk hR q hq (List.ne_nil_of_mem ((hF.iff q x).2 hu))
  · exact wd0_kk hR q hq hk2

end Go.Proofs.YtoleejaabiafcaaGreat
