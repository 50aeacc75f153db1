/- More of a forest's order; plain. The order of a forest in which a node has been unwrapped; plain. -/
import Derived.Test.YtoleejaabiafcaaGreatWoodAll
import Derived.Test.YtoleejaabiafcaaGreatUnwKAll
import Derived.Test.YtoleejaabiafcaaGreatRemovedPure
import Derived.Test.YtoleejaabiafcaaGreatOutAll
namespace Go.Proofs.YtoleejaabiafcaaGreat
set_option linter.unusedVariables false
set_option linter.unusedSimpArgs false

theorem Fl.congrL {k1 k2 : Nat → List Nat} {xs L : List Nat} (h : Fl k1 xs L) : (∀ y ∈ L, k1 y = k2 y) → Fl k2 xs L := by
  induction h with
  | nil => intro _; exact .nil
  | @cons x xs A B h1 h2 ih1 ih2 =>
    intro hk
    have e : k1 x = k2 x := hk x (by simp)
    exact .cons (by rw [← e]; exact ih1 (fun y hy => hk y (by simp [hy]))) (ih2 (fun y hy => hk y (by simp [hy])))

/-- What is beneath a node in a tree as data. -/
theorem anc_range {z : Nat → Nat} {n : Nat} (hz : Nest z n) {w y : Nat} (hw : w < n) : Anc (wd0 z n) w y ↔ w ≤ y ∧ y < w + z w := by
  have h := (wd0_flat hz (z w) w hw (Nat.le_refl _)).anc (wd0_ok hz) y
  rw [List.mem_range'_1] at h
  constructor
  · intro ha
    exact h.2 ⟨w, by simp, ha⟩
  · intro hh
    obtain ⟨x, hx, ha⟩ := h.1 hh
    simp at hx
    subst hx
    exact ha

theorem Fl.fs_len {kids : Nat → List Nat} {x : Nat} {L : List Nat} {A : List (Nat × Nat)} (h : Fl kids [x] L) (hA : Fs kids (kids x) A) : L = x :: A.map (·.1) := h.det (Fl.one hA.fl)

end Go.Proofs.YtoleejaabiafcaaGreat

namespace Go.Proofs.YtoleejaabiafcaaGreat
set_option linter.unusedVariables false
set_option linter.unusedSimpArgs false

/-- Some nodes, p among them replaced by its kids. -/
def unwL (F : Wd) (p : Nat) (ys : List Nat) : List Nat := ys.flatMap (fun y => if y = p then F.kids p else [y])

theorem unwL_none {F : Wd} {p : Nat} : ∀ {ys : List Nat}, p ∉ ys → unwL F p ys = ys
  | [], _ => rfl
  | y :: r, h => by
    simp only [List.mem_cons, not_or] at h
    have ih := unwL_none (F := F) h.2
    unfold unwL at ih ⊢
    rw [List.flatMap_cons, if_neg (Ne.symm h.1), ih]
    rfl

theorem UnwOut.kids_eq {n : Nat} {F G : Wd} {p g : Nat} {A B : List Nat} (hF : WOk n F) (hu : F.up p = some g) (hk : F.kids g = A ++ p :: B) (h : UnwOut n F p g A B G) {z : Nat} (hz : z ≠ p) : G.kids z = unwL F p (F.kids z) := by
  by_cases e : z = g
  · subst e
    have hnd := hF.nd z
    rw [hk] at hnd
    obtain ⟨n1, n2, _⟩ := nd_parts hnd
    have e1 := unwL_none (F := F) n1
    have e2 := unwL_none (F := F) n2
    rw [h.kg, hk]
    unfold unwL at e1 e2 ⊢
    rw [List.flatMap_append, List.flatMap_cons, if_pos rfl, e1, e2, List.append_assoc]
  · rw [h.other z e hz, unwL_none (fun hm => by
      have := (hF.iff z p).1 hm
      rw [hu] at this
      exact e (Option.some.inj this).symm)]

/-- The order loses the node, and nothing else. -/
theorem UnwOut.fl {n : Nat} {F G : Wd} {p g : Nat} {A B : List Nat} (hF : WOk n F) (hu : F.up p = some g) (hk : F.kids g = A ++ p :: B) (h : UnwOut n F p g A B G) {xs L : List Nat} (hL : Fl F.kids xs L) : Fl G.kids (unwL F p xs) (L.filter (fun y => y != p)) := by
  have hpp : p ∉ F.kids p := fun hm => by
    have h1 := hF.not_up ((hF.iff p p).1 hm)
    exact h1 .refl
  induction hL with
  | nil => exact .nil
  | @cons x xs A' B' h1 h2 ih1 ih2 =>
    by_cases e : x = p
    · subst e
      rw [unwL_none hpp] at ih1
      have e3 : unwL F x (x :: xs) = F.kids x ++ unwL F x xs := by
        unfold unwL
        rw [List.flatMap_cons, if_pos rfl]
      rw [e3, List.filter_cons, if_neg (by simp), List.filter_append]
      exact ih1.append ih2
    · have e3 : unwL F p (x :: xs) = x :: unwL F p xs := by
        unfold unwL
        rw [List.flatMap_cons, if_neg e]
        rfl
      rw [← h.kids_eq hF hu hk e] at ih1
      rw [e3, List.filter_cons, if_pos (by simpa using e), List.filter_append]
      exact .cons ih1 ih2

theorem UnwOut.kk {n : Nat} {F G : Wd} {p g : Nat} {A B : List Nat} (hF : WOk n F) (hu : F.up p = some g) (hk : F.kids g = A ++ p :: B) (h : UnwOut n F p g A B G) {z : Nat} (hz : G.kids z ≠ []) : F.kids z ≠ [] := fun e => by
  by_cases e1 : z = p
  · subst e1; exact hz h.kp
  · rw [h.kids_eq hF hu hk e1, e] at hz
    exact hz rfl

/-- A node that is the only kid, unwrapped. -/
theorem unw_one {z : Nat → Nat} {n : Nat} (hz : Nest z n) (h0 : 0 < n) (hr : z 0 = n) {x p g : Nat} {A B : List Nat} (hx : x < n) (hp : par z x = some p) (hsz : z p = z x + 1) (hu : (wd0 z n).up p = some g) (hk : (wd0 z n).kids g = A ++ p :: B) {G : Wd} (h : UnwOut n (wd0 z n) p g A B G) {C : List (Nat × Nat)} (hC : Fs G.kids [0] C) (hnd : (C.map (·.1)).Nodup) :
    x = p + 1 ∧ C.length + 1 = n ∧ posFrom (C.map (·.1)) 0 p = -1 ∧ posFrom (C.map (·.1)) 0 x = (p : Int) ∧ p + z x ≤ C.length ∧ ∀ j, j < z x → C.getD (p + j) default = (x + j, z (x + j)) := by
  have hF := wd0_ok hz
  obtain ⟨hgn, hpn⟩ := hF.lt g p ((hF.iff g p).2 hu)
  have hgp : g < p := by
    have hu2 : par z p = some g := by simpa [wd0, hpn] using hu
    exact (par_some hu2).1
  obtain ⟨hpx, hxe⟩ := par_some hp
  have hpos := hz.pos x hx
  have hlam := hz.lam p x hpn (Nat.le_of_lt hpx) hxe.1
  have hxp : x = p + 1 := by omega
  have hfit := hz.fit p hpn
  have hfl := h.fl hF hu hk (wd0_root hz h0 hr)
  have e0 : unwL (wd0 z n) p [0] = [0] := unwL_none (by simp; omega)
  rw [e0] at hfl
  have hC1 := hC.fl.det hfl
  have hsplit : List.range' 0 n = List.range' 0 p ++ p :: List.range' (p + 1) (n - p - 1) := by
    have h1 : List.range' 0 n = List.range' 0 p ++ List.range' p (n - p) := by
      have := List.range'_append_1 (s := 0) (m := p) (n := n - p)
      rw [Nat.zero_add, show p + (n - p) = n by omega] at this
      exact this.symm
    have h2 : List.range' p (n - p) = p :: List.range' (p + 1) (n - p - 1) := by
      rw [show n - p = (n - p - 1) + 1 by omega, List.range'_succ]
      rfl
    rw [h1, h2]
  rw [hsplit, filter_ne (by rw [← hsplit]; exact List.nodup_range' ..)] at hC1
  have hlen : C.length + 1 = n := by
    have := congrArg List.length hC1
    simp at this
    omega
  have hat : ∀ q, p ≤ q → q < C.length → (C.getD q default).1 = q + 1 := fun q h1 h2 => by
    have h3 : (C.map (·.1)).getD q 0 = q + 1 := by
      rw [hC1, List.getD_eq_getElem?_getD, List.getElem?_append_right (by simp; exact h1), List.length_range', List.getElem?_range' (by omega)]
      simp
      omega
    simpa [List.getD_eq_getElem?_getD, List.getElem?_eq_getElem h2] using h3
  refine ⟨hxp, hlen, posFrom_not _ _ (by rw [hC1]; simp [List.mem_range'_1]; omega), ?_, by omega, fun j hj => ?_⟩
  · have h1 := posFrom_at hnd (q := p) (by omega)
    rw [hat p (Nat.le_refl _) (by omega), ← hxp] at h1
    exact h1
  · have hq : p + j < C.length := by omega
    have b2 : (C.getD (p + j) default).1 = x + j := by rw [hat _ (by omega) hq]; omega
    obtain ⟨A', c1, c2, _, _⟩ := hC.underAt (p + j) hq
    rw [b2] at c1
    have hlt : x + j < n := by omega
    have hflat : Fl G.kids [x + j] (List.range' (x + j) (z (x + j))) := (wd0_flat hz (z (x + j)) (x + j) hlt (Nat.le_refl _)).congrL (fun v hv => by
      rw [List.mem_range'_1] at hv
      exact (h.other v (by omega) (by omega)).symm)
    have e2 := hflat.fs_len c1
    have : A'.length + 1 = z (x + j) := by
      have := congrArg List.length e2
      simp at this
      omega
    exact Prod.ext b2 (c2.trans this)

end Go.Proofs.YtoleejaabiafcaaGreat

