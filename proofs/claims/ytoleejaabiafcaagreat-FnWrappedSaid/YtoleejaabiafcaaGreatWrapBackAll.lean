/- Wrapping in a node without kids, and unwrapping, undo each other; plain. A forest's order as data is the tree of a document, whatever the labels; plain. The document in which nodes have been wrapped is a right tree (but for its number of nodes); plain. A document in which nodes have been wrapped, unwrapped; plain. -/
import Derived.Test.YtoleejaabiafcaaGreatWrapKAll
import Derived.Test.YtoleejaabiafcaaGreatUnwFlatAll
import Derived.Test.YtoleejaabiafcaaGreatOutAll
import Derived.Test.YtoleejaabiafcaaGreatRightAll
import Derived.Test.YtoleejaabiafcaaGreatUnwKAll
import Derived.Test.YtoleejaabiafcaaGreatOnceF
namespace Go.Proofs.YtoleejaabiafcaaGreat
set_option linter.unusedVariables false
set_option linter.unusedSimpArgs false

theorem wok_le {n m : Nat} {F : Wd} (h : WOk n F) (hm : n ≤ m) : WOk m F :=
  ⟨fun x y hy => by have := h.lt x y hy; exact ⟨by omega, by omega⟩, h.iff, h.nd, h.deep⟩

theorem wok_far {n : Nat} {F : Wd} (h : WOk n F) {y : Nat} (hy : n ≤ y) : F.kids y = [] ∧ F.up y = none := by
  refine ⟨?_, ?_⟩
  · cases e : F.kids y with
    | nil => rfl
    | cons a r => have := (h.lt y a (by rw [e]; simp)).1; omega
  · cases e : F.up y with
    | none => rfl
    | some p => have := (h.lt p y ((h.iff p y).2 e)).2; omega

theorem cp_leaf {G : Wd} {m w : Nat} (hG : WOk m G) (hk : G.kids w = []) : cpW G m [w] [w] = G := by
  obtain ⟨f1, f2⟩ := wok_far hG (Nat.le_refl m)
  cases G with
  | mk k u =>
    simp only [cpW, Wd.mk.injEq]
    simp only at hk f1 f2
    refine ⟨funext fun q => ?_, funext fun q => ?_⟩
    · by_cases e : m ≤ q ∧ q < m + [w].length
      · rw [if_pos e]
        obtain rfl : q = m := by have := e.2; simp at this; omega
        rw [f1]
        simp [hk]
      · rw [if_neg e]
    · by_cases e : m ≤ q ∧ q < m + [w].length
      · rw [if_pos e]
        obtain rfl : q = m := by have := e.2; simp at this; omega
        rw [f2]
        simp
      · rw [if_neg e]

/-- One node wrapped: unwrapping gives back what was. -/
theorem wrap_back {G : Wd} {m w p x : Nat} {A B : List Nat} (hG : WOk m G) (hkw : G.kids w = []) (hu : G.up x = some p) (hk : G.kids p = A ++ x :: B) :
    UnwOut (m + 1) (wrap1 G m [w] w p A x w) m p A B G ∧ (wrap1 G m [w] w p A x w).up m = some p ∧ (wrap1 G m [w] w p A x w).kids p = A ++ m :: B ∧ (wrap1 G m [w] w p A x w).up x = some m ∧ ∀ y, y ≠ x → y ≠ m → (wrap1 G m [w] w p A x w).up y = G.up y := by
  obtain ⟨hpm, hxm⟩ := hG.lt p x ((hG.iff p x).2 hu)
  obtain ⟨f1, f2⟩ := wok_far hG (Nat.le_refl m)
  have hnd := hG.nd p
  rw [hk] at hnd
  obtain ⟨n1, n2, _⟩ := nd_parts hnd
  have e0 : wrap1 G m [w] w p A x w = ((G.put p A.length m).cut x).put m 0 x := by
    unfold wrap1
    rw [cp_leaf hG hkw, hkw]
    simp [ix]
  rw [e0]
  have hup : ∀ q, (((G.put p A.length m).cut x).put m 0 x).up q = if q = x then some m else if q = m then some p else G.up q := fun q => by
    simp only [Wd.put, Wd.cut]
    by_cases e : q = x
    · rw [if_pos e, if_pos e]
    · rw [if_neg e, if_neg e, if_neg e]
  have hkm : (((G.put p A.length m).cut x).put m 0 x).kids m = [x] := by
    simp only [Wd.put, Wd.cut, if_true]
    rw [if_neg (by omega), f1]
    rfl
  have hkp : (((G.put p A.length m).cut x).put m 0 x).kids p = A ++ m :: B := by
    simp only [Wd.put, Wd.cut]
    rw [if_neg (by omega), if_pos trivial, hk, List.take_left' rfl, List.drop_left' rfl, List.filter_append, filter_none n1, List.filter_cons, if_pos (by simp; omega), List.filter_cons, if_neg (by simp), filter_none n2]
  have hko : ∀ q, q ≠ p → q ≠ m → (((G.put p A.length m).cut x).put m 0 x).kids q = G.kids q := fun q h1 h2 => by
    simp only [Wd.put, Wd.cut]
    rw [if_neg h2, if_neg h1]
    exact filter_none (fun hm => by
      have := (hG.iff q x).1 hm
      rw [hu] at this
      exact h1 (Option.some.inj this).symm)
  refine ⟨⟨wok_le hG (by omega), by rw [hkm, hk]; simp, f1, fun q h1 h2 => (hko q h1 h2).symm, f2, fun q hq => ?_, fun q hq h2 => ?_⟩, by rw [hup, if_neg (by omega), if_pos rfl], hkp, by rw [hup, if_pos rfl], fun y h1 h2 => by rw [hup, if_neg h1, if_neg h2]⟩
  · rw [hkm] at hq
    simp only [List.mem_singleton] at hq
    rw [hq]; exact hu
  · rw [hkm] at hq
    simp only [List.mem_singleton] at hq
    rw [hup, if_neg hq, if_neg h2]

theorem Inm.leaf {lab : Nat → NodeD} {G : Wd} {w : Nat} {o : Option Nat} (h : Inm lab G w o) (hk : G.kids w = []) : o = some w := by
  have h2 : elK lab G w = [] := by unfold elK; rw [hk]; rfl
  exact h.det (.stop h2)

/-- All nodes wrapped. -/
structure WrapsBack (n2 : Nat) (lab2 : Nat → NodeD) (G2 : Wd) (w : Nat) (xs : List Nat) (m : Nat) (lab : Nat → NodeD) (G : Wd) : Prop where
  num : n2 = m + xs.length
  up : ∀ i, i < xs.length → G2.up (xs.getD i 0) = some (m + i)
  upc : ∀ i, i < xs.length → ∃ g, G2.up (m + i) = some g
  lab : ∀ i, i < xs.length → lab2 (m + i) = lab w
  rest : ∀ y, y < m → y ∉ xs → G2.up y = G.up y
  kk : ∀ y, y < m → G2.kids y ≠ [] → G.kids y ≠ []
  fl : ∀ y L, y < m → Fl G2.kids [y] L → Fl G.kids [y] (L.filter (fun v => decide (v < m)))

theorem Wraps.back {n : Nat} {F : Wd} {lab0 : Nat → NodeD} {w : Nat} {n2 : Nat} {lab2 : Nat → NodeD} {G2 : Wd} {xs : List Nat} {m : Nat} {lab : Nat → NodeD} {G : Wd} (h : Wraps w [w] n2 lab2 G2 xs m lab G) : WrSide n F w [w] xs → WrMid n F lab0 [w] xs m lab G → F.kids w = [] → WrapsBack n2 lab2 G2 w xs m lab G := by
  induction h with
  | @nil m' lab G hm hl hG =>
    intro hs hmid hk0
    subst hm hG
    refine ⟨by simp, fun i hi => by simp at hi, fun i hi => by simp at hi, fun i hi => by simp at hi, fun _ _ _ => rfl, fun _ _ h => h, fun y L hy hL => ?_⟩
    have : L.filter (fun v => decide (v < n2)) = L := List.filter_eq_self.2 (fun v hv => by
      have h1 := (hL.anc hmid.ok v).1 hv
      obtain ⟨x, hx, ha⟩ := h1
      simp only [List.mem_singleton] at hx
      subst hx
      rcases ha.inv with e | ⟨p, hp, _⟩
      · subst e; simpa using hy
      · have := (hmid.ok.lt p v ((hmid.ok.iff p v).2 hp)).2
        simpa using this)
    rw [this]
    exact hL
  | @cons x p z m xs lab lab' G A B hu hk hz g1 g2 g3 ih =>
    intro hs hmid hk0
    have hc := hmid.cp hs.cp
    have hkw : G.kids w = [] := (hmid.tree w (by simp)).trans hk0
    obtain rfl : z = w := Option.some.inj (hz.leaf hkw)
    have hzL : z ∈ [z] := by simp
    obtain ⟨h1, h2, h3⟩ := hmid.step hs hu hk hzL g1
    have hb := ih h3 h2 hk0
    obtain ⟨b1, b2, b3, b4, b5⟩ := wrap_back hmid.ok hkw hu hk
    obtain ⟨hpm, hxm⟩ := hmid.ok.lt p x ((hmid.ok.iff p x).2 hu)
    have hnd := hs.nd
    rw [List.nodup_cons] at hnd
    have hxin : ∀ y ∈ x :: xs, y < m := fun y hy => Nat.lt_of_lt_of_le (hs.xin y hy).1 hmid.le
    have e1 : m + [z].length = m + 1 := rfl
    have hmx : m ∉ xs := fun hm => by have := hxin m (List.mem_cons_of_mem _ hm); omega
    refine ⟨by rw [hb.num, e1]; simp; omega, fun i hi => ?_, fun i hi => ?_, fun i hi => ?_, fun y hy hyx => ?_, fun y hy hyk => ?_, fun y L hy hL => ?_⟩
    · cases i with
      | zero =>
        have := hb.rest x (by omega) hnd.1
        rw [List.getD_cons_zero, this]
        exact b4
      | succ i =>
        have := hb.up i (by simpa using hi)
        rw [List.getD_cons_succ, this, e1]
        congr 1
        omega
    · cases i with
      | zero => exact ⟨p, by rw [Nat.add_zero, hb.rest m (by omega) hmx]; exact b2⟩
      | succ i =>
        have := hb.upc i (by simpa using hi)
        rw [e1] at this
        rw [show m + (i + 1) = m + 1 + i by omega]
        exact this
    · cases i with
      | zero =>
        have h5 := (g3.ok h3 h2).2.2.1 m (by simp)
        have h6 := g2 0 (by simp)
        rw [Nat.add_zero] at h6 ⊢
        rw [h5, h6]
        rfl
      | succ i =>
        have h5 := hb.lab i (by simpa using hi)
        rw [e1] at h5
        rw [show m + (i + 1) = m + 1 + i by omega, h5]
        exact g1 z (hc.lt z (by simp))
    · have hy2 : y ≠ x := fun e => hyx (by rw [e]; simp)
      rw [hb.rest y (by omega) (fun hm => hyx (List.mem_cons_of_mem _ hm))]
      exact b5 y hy2 (by omega)
    · have h5 := hb.kk y (by omega) hyk
      by_cases e : y = p
      · rw [e, hk]; simp
      · rw [b1.other y e (by omega)]; exact h5
    · have h5 := hb.fl y L (by omega) hL
      have h6 := b1.fl h2.ok b2 b3 h5
      rw [unwL_none (by simp; omega), List.filter_filter] at h6
      have e2 : (L.filter fun a => (a != m) && decide (a < m + [z].length)) = L.filter (fun v => decide (v < m)) := List.filter_congr (fun v _ => by
        by_cases hv : v < m
        · have a1 : (v != m) = true := by simp; omega
          have a2 : decide (v < m + [z].length) = true := by simp; omega
          rw [a1, a2]
          simp [hv]
        · have a3 : decide (v < m) = false := by simp; omega
          rw [a3]
          by_cases hv2 : v = m
          · simp [hv2]
          · have a2 : decide (v < m + [z].length) = false := by simp; omega
            rw [a2, Bool.and_false])
      rw [e2] at h6
      exact h6

end Go.Proofs.YtoleejaabiafcaaGreat

namespace Go.Proofs.YtoleejaabiafcaaGreat
set_option linter.unusedVariables false
set_option linter.unusedSimpArgs false

theorem out_shapedG {len : Nat} {lab : Nat → NodeD} (h0k : (lab 0).kind = 1) (hkinds : ∀ x, x < len → ((lab x).kind = 1 ∧ x = 0) ∨ (lab x).kind = 2 ∨ (lab x).kind = 3 ∨ (lab x).kind = 4 ∨ (lab x).kind = 5) {F : Wd} {C : List (Nat × Nat)} (hC : Fs F.kids [0] C) (hnd : (C.map (·.1)).Nodup) (hlt : ∀ y ∈ C, y.1 < len) (hkk : ∀ x, x < len → F.kids x ≠ [] → (lab x).kind = 1 ∨ (lab x).kind = 3) {ts' : List NodeD} (hl : LikeOut ts' lab C) : ShapedT ts' C.length := by
  have hsz : ∀ i, i < C.length → sz ts' i = (C.getD i default).2 := fun i hi => by
    unfold sz
    rw [(hl i hi).2.2.2.2]
    simp
  obtain ⟨A, hA, hAk⟩ := hC.one_inv
  have hpos : 0 < C.length := by rw [hA]; simp
  have h0 : C.getD 0 default = (0, A.length + 1) := by rw [hA]; rfl
  have hmem : ∀ i, i < C.length → C.getD i default ∈ C := fun i hi => by rw [List.getD_eq_getElem?_getD, List.getElem?_eq_getElem hi]; exact List.getElem_mem _
  have huniq : ∀ i, i < C.length → (C.getD i default).1 = 0 → i = 0 := fun i hi he => by
    have h1 : i < (C.map (·.1)).length := by simpa using hi
    have h2 : 0 < (C.map (·.1)).length := by simpa using hpos
    refine (List.getElem_inj (h₀ := h1) (h₁ := h2) hnd).1 ?_
    simp only [List.getElem_map]
    have e1 : C[i] = C.getD i default := by rw [List.getD_eq_getElem?_getD, List.getElem?_eq_getElem hi]; rfl
    have e2 : C[0] = C.getD 0 default := by rw [List.getD_eq_getElem?_getD, List.getElem?_eq_getElem hpos]; rfl
    rw [e1, e2, he, h0]
  refine ⟨hpos, ?_, fun j hj => ?_, hC.nest.congr (fun i hi => (hsz i hi).symm), fun j hj => ?_⟩
  · rw [hsz 0 hpos, h0, hA]; simp
  · rw [hsz j hj]; exact (hl j hj).2.2.2.2
  · rw [(hl j hj).1, hsz j hj]
    have hx := hlt _ (hmem j hj)
    obtain ⟨A', hA1, hA2⟩ := hC.under _ (hmem j hj)
    obtain ⟨x, hxx⟩ : ∃ x, (C.getD j default).1 = x := ⟨_, rfl⟩
    rw [hxx] at hx hA1 ⊢
    have hone : (lab x).kind ≠ 1 → (lab x).kind ≠ 3 → (C.getD j default).2 = 1 := fun h1 h3 => by
      have hk : F.kids x = [] := Classical.byContradiction fun h => by
        rcases hkk x hx h with h | h
        · exact h1 h
        · exact h3 h
      rw [hk] at hA1
      cases hA1
      exact hA2
    have hj0 : (lab x).kind ≠ 1 → 0 < j := fun h1 => by
      rcases Nat.eq_zero_or_pos j with e | e
      · subst e
        rw [h0] at hxx
        subst hxx
        exact absurd h0k h1
      · exact e
    rcases hkinds x hx with ⟨h1, h2⟩ | h1 | h1 | h1 | h1
    · subst h2
      exact .inl ⟨h1, huniq j hj hxx⟩
    · exact .inr (.inl ⟨h1, hj0 (by omega), hone (by omega) (by omega)⟩)
    · exact .inr (.inr (.inl ⟨h1, hj0 (by omega)⟩))
    · exact .inr (.inr (.inr (.inl ⟨h1, hj0 (by omega), hone (by omega) (by omega)⟩)))
    · exact .inr (.inr (.inr (.inr ⟨h1, hj0 (by omega), hone (by omega) (by omega)⟩)))

end Go.Proofs.YtoleejaabiafcaaGreat

namespace Go.Proofs.YtoleejaabiafcaaGreat
set_option linter.unusedVariables false
set_option linter.unusedSimpArgs false

theorem tsum_sum (ts : List NodeD) : ∀ n, tsum ts n = ((List.range n).map fun i => (ts.getD i default).text.size).sum
  | 0 => rfl
  | n + 1 => by rw [tsum, tsum_sum ts n, List.range_succ, List.map_append, List.sum_append]; simp

theorem sum_keep {f : Nat → Nat} {p : Nat → Bool} : ∀ l : List Nat, (∀ y ∈ l, p y = false → f y = 0) → (l.map f).sum = ((l.filter p).map f).sum
  | [], _ => rfl
  | y :: r, h => by
    have ih := sum_keep r (fun z hz => h z (List.mem_cons_of_mem _ hz))
    rw [List.map_cons, List.sum_cons, ih]
    by_cases e : p y = true
    · rw [List.filter_cons, if_pos e, List.map_cons, List.sum_cons]
    · rw [List.filter_cons, if_neg e, h y (by simp) (by simpa using e), Nat.zero_add]

/-- What a node of a right tree is, wherever it stands. -/
structure NodeFit (m : NodeD) : Prop where
  kinds : m.kind = 1 ∨ m.kind = 2 ∨ m.kind = 3 ∨ m.kind = 4 ∨ m.kind = 5
  bare : m.kind ≠ 3 → m.tag.toList = [] ∧ m.attrs = []
  attrs : m.kind = 3 → m.attrs.length ≤ 20 ∧ Apart m.attrs m.attrs.length
  txt : m.kind = 3 ∨ m.kind = 1 → m.text.toList = []
  vals : ∀ x ∈ m.attrs, x.2.size ≤ 4000

theorem NodeOk.fit {m : NodeD} {z i : Nat} (h : NodeOk m z i) (hv : ∀ x ∈ m.attrs, x.2.size ≤ 4000) : NodeFit m :=
  ⟨by rcases h.kinds with h | h | h | h | h
      · exact .inl h.1
      · exact .inr (.inl h.1)
      · exact .inr (.inr (.inl h))
      · exact .inr (.inr (.inr (.inl h.1)))
      · exact .inr (.inr (.inr (.inr h.1))), h.bare, h.attrs, h.txt, hv⟩

theorem size_nil {b : ByteArray} (h : b.toList = []) : b.size = 0 := by
  rw [ByteArray.toList_eq] at h
  cases b with
  | mk d =>
    have h2 : d = #[] := Array.toList_inj.1 h
    rw [h2]
    rfl

theorem wrapMid {len : Nat} {ts : List NodeD} (hR : RightT ts len) {wd n2 : Nat} {lab2 : Nat → NodeD} {G2 : Wd} {xs : List Nat} (hb : WrapsBack n2 lab2 G2 wd xs len (fun i => ts.getD i default) (wd0 (sz ts) len)) (hwd : wd < len) (hkd : (ts.getD wd default).kind = 3) (hlab : ∀ i, i < len → lab2 i = ts.getD i default) {C2 : List (Nat × Nat)} (hC2 : Fs G2.kids [0] C2) (hnd : (C2.map (·.1)).Nodup) (hlt : ∀ y ∈ C2, y.1 < n2) (hCl : C2.length = n2) (hle : n2 ≤ 600) {ts' : List NodeD} (hl : LikeOut ts' lab2 C2) :
    ShapedT ts' C2.length ∧ RightT ts' C2.length := by
  have hpos := hR.pos
  have hnew : ∀ i, len ≤ i → i < n2 → lab2 i = ts.getD wd default := fun i h1 h2 => by
    have := hb.lab (i - len) (by have := hb.num; omega)
    rwa [show len + (i - len) = i by omega] at this
  have hfit : ∀ i, i < n2 → NodeFit (lab2 i) := fun i hi => by
    by_cases e : i < len
    · rw [hlab i e]; exact (hR.node i e).fit (hR.vals i e)
    · rw [hnew i (by omega) hi]; exact (hR.node wd hwd).fit (hR.vals wd hwd)
  have h0k : (lab2 0).kind = 1 := by rw [hlab 0 hpos]; exact hR.kind
  have hkinds : ∀ x, x < n2 → ((lab2 x).kind = 1 ∧ x = 0) ∨ (lab2 x).kind = 2 ∨ (lab2 x).kind = 3 ∨ (lab2 x).kind = 4 ∨ (lab2 x).kind = 5 := fun x hx => by
    by_cases e : x < len
    · rw [hlab x e]
      rcases (hR.node x e).kinds with h | h | h | h | h
      · exact .inl h
      · exact .inr (.inl h.1)
      · exact .inr (.inr (.inl h))
      · exact .inr (.inr (.inr (.inl h.1)))
      · exact .inr (.inr (.inr (.inr h.1)))
    · rw [hnew x (by omega) hx]
      exact .inr (.inr (.inl hkd))
  have hkk : ∀ x, x < n2 → G2.kids x ≠ [] → (lab2 x).kind = 1 ∨ (lab2 x).kind = 3 := fun x hx h => by
    by_cases e : x < len
    · rw [hlab x e]
      exact wd0_kk hR x e (hb.kk x e h)
    · rw [hnew x (by omega) hx]
      exact .inr hkd
  have hS := out_shapedG h0k hkinds hC2 hnd hlt hkk hl
  have hmem : ∀ i, i < C2.length → C2.getD i default ∈ C2 := fun i hi => by rw [List.getD_eq_getElem?_getD, List.getElem?_eq_getElem hi]; exact List.getElem_mem _
  have hroot := wd0_root hR.nest hR.pos hR.root
  have hfl := (hb.fl 0 _ hpos hC2.fl).det hroot
  refine ⟨hS, hS.pos, by omega, hS.root, hS.rootKind, fun j hj => ⟨hS.nest.pos j hj, hS.size j hj, fun k h1 h2 => hS.nest.lam j k hj h1 h2⟩, fun j hj => ?_, ?_, fun j hj => ?_⟩
  · obtain ⟨k1, k2, k3, k4, _⟩ := hl j hj
    have hf := hfit _ (hlt _ (hmem j hj))
    refine ⟨?_, ?_, ?_, ?_⟩
    · rcases hS.kinds j hj with h | h | h | h | h
      · exact .inl h
      · exact .inr (.inl ⟨h.1, h.2.2⟩)
      · exact .inr (.inr (.inl h.1))
      · exact .inr (.inr (.inr (.inl ⟨h.1, h.2.2⟩)))
      · exact .inr (.inr (.inr (.inr ⟨h.1, h.2.2⟩)))
    · rw [k1, k2, k4]; exact hf.bare
    · rw [k1, k4]; exact hf.attrs
    · rw [k1, k3]; exact hf.txt
  · have e1 : ((List.range C2.length).map fun i => (ts'.getD i default).text.size) = (C2.map (·.1)).map fun y => (lab2 y).text.size := by
      refine List.ext_getElem (by simp) (fun j h1 h2 => ?_)
      have hj : j < C2.length := by simpa using h1
      simp only [List.getElem_map, List.getElem_range]
      rw [(hl j hj).2.2.1, List.getD_eq_getElem?_getD, List.getElem?_eq_getElem hj]
      rfl
    rw [tsum_sum, e1, sum_keep (p := fun v => decide (v < len)) _ (fun y hy hp => by
      obtain ⟨c, hc, rfl⟩ := List.mem_map.1 hy
      have h1 := hlt c hc
      have h2 : ¬ c.1 < len := by simpa using hp
      rw [hnew c.1 (by omega) h1]
      exact size_nil ((hR.node wd hwd).txt (.inl hkd))), hfl]
    have e2 : ((List.range' 0 len).map fun y => (lab2 y).text.size) = (List.range len).map fun i => (ts.getD i default).text.size := by
      rw [← List.range_eq_range']
      exact List.map_congr_left (fun y hy => by rw [hlab y (List.mem_range.1 hy)])
    rw [e2, ← tsum_sum]
    exact hR.texts
  · rw [(hl j hj).2.2.2.1]
    exact (hfit _ (hlt _ (hmem j hj))).vals

end Go.Proofs.YtoleejaabiafcaaGreat

namespace Go.Proofs.YtoleejaabiafcaaGreat
set_option linter.unusedVariables false
set_option linter.unusedSimpArgs false

theorem unws_ex {n : Nat} : ∀ (ps : List Nat) (G : Wd), WOk n G → ps.Nodup → (∀ p ∈ ps, ∃ g, G.up p = some g) → ∃ G2, Unws G2 ps G
  | [], G, _, _, _ => ⟨G, .nil rfl⟩
  | p :: ps, G, hG, hnd, hup => by
    rw [List.nodup_cons] at hnd
    obtain ⟨g, hg⟩ := hup p (by simp)
    obtain ⟨A, B, hk⟩ := List.append_of_mem ((hG.iff g p).2 hg)
    have ho := unwr_out hG hg hk
    obtain ⟨G2, h2⟩ := unws_ex ps _ ho.ok hnd.2 (fun q hq => unwr_up hG hg hk (fun e => hnd.1 (e ▸ hq)) (hup q (List.mem_cons_of_mem _ hq)))
    exact ⟨G2, .cons hg hk h2⟩

theorem Unws.fl {n : Nat} {G2 : Wd} {ps : List Nat} {G : Wd} (h : Unws G2 ps G) : WOk n G → ∀ (y : Nat) (L : List Nat), y ∉ ps → Fl G.kids [y] L → Fl G2.kids [y] (L.filter fun v => decide (v ∉ ps)) := by
  induction h with
  | nil h =>
    intro _ y L _ hL
    rw [h, List.filter_eq_self.2 (fun v _ => by simp)]
    exact hL
  | @cons p g ps A B G hu hk _ ih =>
    intro hG y L hy hL
    simp only [List.mem_cons, not_or] at hy
    have ho := unwr_out hG hu hk
    have h1 := ho.fl hG hu hk hL
    rw [unwL_none (by simp; exact Ne.symm hy.1)] at h1
    have h2 := ih ho.ok y _ hy.2 h1
    rw [List.filter_filter] at h2
    have e : (L.filter fun a => decide (a ∉ ps) && (a != p)) = L.filter fun v => decide (v ∉ p :: ps) := List.filter_congr (fun v _ => by
      by_cases e1 : v = p
      · simp [e1]
      · by_cases e2 : v ∈ ps
        · simp [e2]
        · simp [e1, e2])
    rw [e] at h2
    exact h2

theorem seg_map {C A : List (Nat × Nat)} {q : Nat} (hA : ∀ j, j < A.length → C.getD (q + 1 + j) default = A.getD j default) : (List.range' q (A.length + 1)).map (fun i => (C.getD i default).1) = (C.getD q default).1 :: A.map (·.1) := by
  rw [List.range'_succ, List.map_cons]
  congr 1
  refine List.ext_getElem (by simp) (fun j h1 h2 => ?_)
  have hj : j < A.length := by simpa using h2
  simp only [List.getElem_map, List.getElem_range', Nat.one_mul]
  rw [hA j hj, List.getD_eq_getElem?_getD, List.getElem?_eq_getElem hj]
  rfl

structure WrapRound (n N2 : Nat) (z : Nat → Nat) (C2 : List (Nat × Nat)) (ys : List Nat) (M G3 : Wd) : Prop where
  unws : Unws G3 (onceF (ys.map (parK M))) M
  good : ∀ y ∈ ys, ∃ p g, M.up y = some p ∧ M.up p = some g ∧ p < N2 ∧ n ≤ (C2.getD p default).1 ∧ (C2.getD p default).1 < N2
  out : ∀ C3, Fs G3.kids [0] C3 → C3.length = n ∧ ∀ k, k < n → (C3.getD k default).1 < N2 ∧ (C2.getD (C3.getD k default).1 default).1 = k ∧ (C3.getD k default).2 = z k

theorem wrapRound {z : Nat → Nat} {n : Nat} (hz : Nest z n) (h0 : 0 < n) (hr : z 0 = n) {wd n2 : Nat} {lab0 lab2 : Nat → NodeD} {G2 : Wd} {xs : List Nat} (hb : WrapsBack n2 lab2 G2 wd xs n lab0 (wd0 z n)) (hG2 : WOk n2 G2) (hx0 : ∀ x ∈ xs, x < n ∧ x ≠ 0)
    {C2 : List (Nat × Nat)} (hC2 : Fs G2.kids [0] C2) (hnd : (C2.map (·.1)).Nodup) {ts' : List NodeD} (hsz : ∀ i, i < C2.length → sz ts' i = (C2.getD i default).2) (hz' : Nest (sz ts') C2.length) {ys : List Nat} (hyl : ys.length = xs.length) (hys : ∀ i, i < xs.length → ys.getD i 0 < C2.length ∧ (C2.getD (ys.getD i 0) default).1 = xs.getD i 0) :
    C2.length = n + xs.length ∧ ∃ G3, WrapRound n C2.length z C2 ys (wd0 (sz ts') C2.length) G3 := by
  have hF0 := wd0_ok hz
  have hroot := wd0_root hz h0 hr
  have hup0 : G2.up 0 = none := by
    rw [hb.rest 0 h0 (fun hm => (hx0 0 hm).2 rfl)]
    simp [wd0, h0]
    rfl
  have h1 := (hb.fl 0 _ h0 hC2.fl).det hroot
  have hmem : ∀ y, y ∈ C2.map (·.1) ↔ Anc G2 0 y := fun y => by
    rw [hC2.fl.anc hG2 y]
    simp
  have hold : ∀ y, y < n → y ∈ C2.map (·.1) := fun y hy => by
    have : y ∈ (C2.map (·.1)).filter (fun v => decide (v < n)) := by rw [h1]; simp [List.mem_range'_1, hy]
    exact (List.mem_filter.1 this).1
  have hparent : ∀ y c, y ∈ C2.map (·.1) → G2.up y = some c → c ∈ C2.map (·.1) := fun y c hy hc => by
    rcases ((hmem y).1 hy).inv with e | ⟨p, hp, ha⟩
    · rw [← e, hup0] at hc; cases hc
    · rw [hc] at hp
      cases hp
      exact (hmem c).2 ha
  have hlt : ∀ y ∈ C2.map (·.1), y < n2 := fun y hy => by
    rcases ((hmem y).1 hy).inv with e | ⟨p, hp, _⟩
    · have := hb.num; omega
    · exact (hG2.lt p y ((hG2.iff p y).2 hp)).2
  have hall : ∀ y, y < n2 → y ∈ C2.map (·.1) := fun y hy => by
    by_cases e : y < n
    · exact hold y e
    · have hi : y - n < xs.length := by have := hb.num; omega
      have hxm := getD_mem' (d := 0) hi
      have := hparent _ _ (hold _ (hx0 _ hxm).1) (hb.up (y - n) hi)
      rwa [show n + (y - n) = y by omega] at this
  have hlen : C2.length = n2 := by
    have a1 := onceF_sub_len hnd (l2 := List.range n2) (fun y hy => List.mem_range.2 (hlt y hy))
    have a2 := onceF_sub_len (List.nodup_range (n := n2)) (l2 := C2.map (·.1)) (fun y hy => hall y (List.mem_range.1 hy))
    simp at a1 a2
    omega
  have hinj : ∀ i j, i < C2.length → j < C2.length → (C2.getD i default).1 = (C2.getD j default).1 → i = j := fun i j hi hj he => by
    have a1 := posFrom_at hnd hi
    have a2 := posFrom_at hnd hj
    rw [he] at a1
    rw [a1] at a2
    omega
  have hgm : ∀ q, q < C2.length → (C2.getD q default).1 ∈ C2.map (·.1) := fun q hq => by
    refine List.mem_map.2 ⟨C2.getD q default, ?_, rfl⟩
    rw [List.getD_eq_getElem?_getD, List.getElem?_eq_getElem hq]
    exact List.getElem_mem _
  have hM := wd0_ok hz'
  have hpar : ∀ q c, q < C2.length → G2.up (C2.getD q default).1 = some c → ∃ q', q' < C2.length ∧ (wd0 (sz ts') C2.length).up q = some q' ∧ (C2.getD q' default).1 = c := fun q c hq hc => by
    obtain ⟨q', a1, a2, _⟩ := pos_of hnd (hparent _ c (hgm q hq) hc)
    obtain ⟨b1, b2⟩ := kids_pos hC2 hsz a1
    rw [a2] at b1 b2
    have hk := (hG2.iff c _).2 hc
    obtain ⟨j, hj, hje⟩ := List.getElem_of_mem hk
    obtain ⟨b3, b4⟩ := b2 j hj
    have e1 : (G2.kids c).getD j 0 = (C2.getD q default).1 := by rw [List.getD_eq_getElem?_getD, List.getElem?_eq_getElem hj]; exact hje
    rw [e1] at b3
    have e2 := hinj _ _ b4 hq b3
    refine ⟨q', a1, (hM.iff q' q).1 ?_, a2⟩
    show q ∈ (if q' < C2.length then kids (sz ts') q' else [])
    rw [if_pos a1, ← e2]
    exact getD_mem' (by rw [b1]; exact hj)
  have hgood : ∀ i, i < xs.length → ∃ p g, (wd0 (sz ts') C2.length).up (ys.getD i 0) = some p ∧ (wd0 (sz ts') C2.length).up p = some g ∧ p < C2.length ∧ (C2.getD p default).1 = n + i := fun i hi => by
    obtain ⟨c1, c2⟩ := hys i hi
    obtain ⟨p, p1, p2, p3⟩ := hpar _ (n + i) c1 (by rw [c2]; exact hb.up i hi)
    obtain ⟨g, hg⟩ := hb.upc i hi
    obtain ⟨g', _, g2, _⟩ := hpar p g p1 (by rw [p3]; exact hg)
    exact ⟨p, g', p2, g2, p1, p3⟩
  obtain ⟨M, hMM⟩ : ∃ M, wd0 (sz ts') C2.length = M := ⟨_, rfl⟩
  rw [hMM] at hM hpar hgood
  have hyi : ∀ y ∈ ys, ∃ i, i < xs.length ∧ ys.getD i 0 = y := fun y hy => by
    obtain ⟨i, hi, he⟩ := List.getElem_of_mem hy
    exact ⟨i, by omega, by rw [List.getD_eq_getElem?_getD, List.getElem?_eq_getElem hi]; exact he⟩
  have hps : ∀ q, q < C2.length → (q ∈ onceF (ys.map (parK M)) ↔ n ≤ (C2.getD q default).1) := fun q hq => by
    rw [onceF_mem, List.mem_map]
    constructor
    · rintro ⟨y, hy, rfl⟩
      obtain ⟨i, hi, rfl⟩ := hyi y hy
      obtain ⟨p, g, a1, _, a3, a4⟩ := hgood i hi
      have e : parK M (ys.getD i 0) = p := by unfold parK; rw [a1]; rfl
      rw [e, a4]
      omega
    · intro hn
      have hq2 := hlt _ (hgm q hq)
      have hi : (C2.getD q default).1 - n < xs.length := by have := hb.num; omega
      obtain ⟨p, g, a1, _, a3, a4⟩ := hgood _ hi
      have e : p = q := hinj _ _ a3 hq (by rw [a4]; omega)
      exact ⟨ys.getD ((C2.getD q default).1 - n) 0, getD_mem' (by omega), by unfold parK; rw [a1, e]; rfl⟩
  obtain ⟨ps, hpse⟩ : ∃ ps, onceF (ys.map (parK M)) = ps := ⟨_, rfl⟩
  have hpsn : ps.Nodup := by rw [← hpse]; exact onceF_nd
  have hpsu : ∀ p ∈ ps, ∃ g, M.up p = some g := fun p hp => by
    rw [← hpse, onceF_mem, List.mem_map] at hp
    obtain ⟨y, hy, rfl⟩ := hp
    obtain ⟨i, hi, rfl⟩ := hyi y hy
    obtain ⟨p, g, a1, a2, _, _⟩ := hgood i hi
    have e : parK M (ys.getD i 0) = p := by unfold parK; rw [a1]; rfl
    rw [e]
    exact ⟨g, a2⟩
  rw [hpse] at hps
  obtain ⟨G3, hU⟩ := unws_ex ps M hM hpsn hpsu
  refine ⟨by rw [hlen]; exact hb.num, G3, by rw [hMM, hpse]; exact hU, fun y hy => ?_, fun C3 hC3 => ?_⟩
  · obtain ⟨i, hi, rfl⟩ := hyi y hy
    obtain ⟨p, g, a1, a2, a3, a4⟩ := hgood i hi
    rw [hMM]
    exact ⟨p, g, a1, a2, a3, by omega, by have := hb.num; omega⟩
  -- what stands beneath a place
  have hsub : ∀ q, q < C2.length → (C2.getD q default).1 < n → ∃ L, Fl G3.kids [q] L ∧ L.map (fun i => (C2.getD i default).1) = List.range' (C2.getD q default).1 (z (C2.getD q default).1) ∧ ∀ i ∈ L, i < C2.length := fun q hq hk => by
    obtain ⟨A, a1, a2, a3, a4⟩ := hC2.underAt q hq
    have e1 := seg_map a3
    have e2 : sz ts' q = A.length + 1 := by rw [hsz q hq, a2]
    have f1 := hb.fl _ _ hk (Fl.one a1.fl)
    have f2 := f1.det (wd0_flat hz _ _ hk (Nat.le_refl _))
    have f3 : Fl M.kids [q] (List.range' q (sz ts' q)) := by rw [← hMM]; exact wd0_flat hz' _ q hq (Nat.le_refl _)
    have hqp : q ∉ ps := fun hm => by have := (hps q hq).1 hm; omega
    have f4 := hU.fl hM q _ hqp f3
    refine ⟨_, f4, ?_, fun i hi => ?_⟩
    · rw [← f2, ← e1, e2, List.filter_map]
      congr 1
      refine List.filter_congr (fun v hv => ?_)
      rw [List.mem_range'_1] at hv
      have hv2 : v < C2.length := by omega
      have hd : decide (v ∉ ps) = decide ((C2.getD v default).1 < n) := by
        by_cases e : v ∈ ps
        · have h7 := (hps v hv2).1 e
          rw [decide_eq_false (by simpa using e), decide_eq_false (by omega)]
        · have h7 : ¬ n ≤ (C2.getD v default).1 := fun h => e ((hps v hv2).2 h)
          rw [decide_eq_true e, decide_eq_true (by omega)]
      exact hd
    · have := (List.mem_filter.1 hi).1
      rw [List.mem_range'_1] at this
      omega
  obtain ⟨A, hA, hAk⟩ := hC2.one_inv
  have hC20 : (C2.getD 0 default).1 = 0 := by rw [hA]; rfl
  have hC2l : 0 < C2.length := by rw [hA]; simp
  obtain ⟨L0, k1, k2, k3⟩ := hsub 0 hC2l (by rw [hC20]; exact h0)
  rw [hC20, hr] at k2
  have hC31 := hC3.fl.det k1
  rw [← hC31] at k2 k3
  have hC3l : C3.length = n := by
    have := congrArg List.length k2
    simpa using this
  refine ⟨hC3l, fun k hk => ?_⟩
  have hkl : k < C3.length := by omega
  have hkm : (C3.getD k default).1 ∈ C3.map (·.1) := by
    refine List.mem_map.2 ⟨C3.getD k default, ?_, rfl⟩
    rw [List.getD_eq_getElem?_getD, List.getElem?_eq_getElem hkl]
    exact List.getElem_mem _
  have hq := k3 _ hkm
  have hgk : (C2.getD (C3.getD k default).1 default).1 = k := by
    have h5 : ((C3.map (·.1)).map (fun i => (C2.getD i default).1))[k]? = (List.range' 0 n)[k]? := by rw [k2]
    have e9 : C3.getD k default = C3[k] := by rw [List.getD_eq_getElem?_getD, List.getElem?_eq_getElem hkl]; rfl
    rw [List.getElem?_range' hk, List.map_map, List.getElem?_map, List.getElem?_eq_getElem hkl] at h5
    simp only [Option.map_some, Function.comp, Option.some.injEq] at h5
    rw [e9]
    exact h5.trans (by omega)
  refine ⟨hq, hgk, ?_⟩
  obtain ⟨A3, b1, b2, _, _⟩ := hC3.underAt k hkl
  obtain ⟨L, c1, c2, _⟩ := hsub _ hq (by rw [hgk]; exact hk)
  rw [hgk] at c2
  have e5 := c1.fs_len b1
  have e6 := congrArg List.length c2
  rw [e5] at e6
  simp at e6
  rw [b2]
  exact e6

end Go.Proofs.YtoleejaabiafcaaGreat

