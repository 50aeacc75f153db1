/- A forest's order as data is the tree of a document, by its sizes and kinds; plain. -/
import Derived.Test.YtoleejaabiafcaaShaped
import Derived.Test.YtoleejaabiafcaaWoodAll
import Derived.Test.YtoleejaabiafcaaRightAll
namespace Go.Proofs.Ytoleejaabiafcaa
set_option linter.unusedVariables false
set_option linter.unusedSimpArgs false

theorem Nest.congr {z z' : Nat → Nat} {n : Nat} (h : Nest z n) (he : ∀ i, i < n → z i = z' i) : Nest z' n := by
  refine ⟨fun i hi => by rw [← he i hi]; exact h.pos i hi, fun i j hi h1 h2 => ?_, fun i hi => by rw [← he i hi]; exact h.fit i hi⟩
  rw [← he i hi] at h2 ⊢
  have h3 := h.fit i hi
  rw [← he j (by omega)]
  exact h.lam i j hi h1 h2

theorem Fs.nest {kids : Nat → List Nat} {xs : List Nat} {C : List (Nat × Nat)} (h : Fs kids xs C) : Nest (fun i => (C.getD i default).2) C.length := by
  induction h with
  | nil => exact ⟨fun i hi => by simp at hi, fun i j hi => by simp at hi, fun i hi => by simp at hi⟩
  | @cons x xs A B h1 h2 ih1 ih2 =>
    have e0 : (((x, A.length + 1) :: (A ++ B)).getD 0 default).2 = A.length + 1 := rfl
    have eA : ∀ i, i < A.length → (((x, A.length + 1) :: (A ++ B)).getD (i + 1) default).2 = (A.getD i default).2 := fun i hi => by
      simp [List.getD_eq_getElem?_getD, List.getElem?_append_left hi]
    have eB : ∀ i, (((x, A.length + 1) :: (A ++ B)).getD (A.length + i + 1) default).2 = (B.getD i default).2 := fun i => by
      simp [List.getD_eq_getElem?_getD, List.getElem?_append_right (show A.length ≤ A.length + i by omega)]
    have cases3 : ∀ i, i < A.length + B.length + 1 → i = 0 ∨ (∃ k, k < A.length ∧ i = k + 1) ∨ ∃ k, k < B.length ∧ i = A.length + k + 1 := fun i hi => by
      by_cases h0 : i = 0
      · exact .inl h0
      · by_cases hA : i ≤ A.length
        · exact .inr (.inl ⟨i - 1, by omega, by omega⟩)
        · exact .inr (.inr ⟨i - 1 - A.length, by omega, by omega⟩)
    have hl : ((x, A.length + 1) :: (A ++ B)).length = A.length + B.length + 1 := by simp
    refine ⟨fun i hi => ?_, fun i j hi hij hj => ?_, fun i hi => ?_⟩
    · rw [hl] at hi
      rcases cases3 i hi with rfl | ⟨k, hk, rfl⟩ | ⟨k, hk, rfl⟩
      · simp only [e0]; omega
      · simp only [eA k hk]; exact ih1.pos k hk
      · simp only [eB k]; exact ih2.pos k hk
    · rw [hl] at hi
      rcases cases3 i hi with rfl | ⟨k, hk, rfl⟩ | ⟨k, hk, rfl⟩
      · simp only [e0] at hj ⊢
        rcases cases3 j (by omega) with rfl | ⟨m, hm, rfl⟩ | ⟨m, hm, rfl⟩
        · simp only [e0]; omega
        · simp only [eA m hm]
          have := ih1.fit m hm
          (try simp only at this)
          omega
        · omega
      · simp only [eA k hk] at hj ⊢
        have hf := ih1.fit k hk
        (try simp only at hf)
        obtain ⟨m, rfl⟩ : ∃ m, j = m + 1 := ⟨j - 1, by omega⟩
        have hm : m < A.length := by omega
        simp only [eA m hm]
        have := ih1.lam k m hk (by omega) (by (try simp only); omega)
        (try simp only at this)
        omega
      · simp only [eB k] at hj ⊢
        have hf := ih2.fit k hk
        (try simp only at hf)
        obtain ⟨m, rfl⟩ : ∃ m, j = A.length + m + 1 := ⟨j - 1 - A.length, by omega⟩
        simp only [eB m]
        have := ih2.lam k m hk (by omega) (by (try simp only); omega)
        (try simp only at this)
        omega
    · rw [hl] at hi ⊢
      rcases cases3 i hi with rfl | ⟨k, hk, rfl⟩ | ⟨k, hk, rfl⟩
      · simp only [e0]; omega
      · simp only [eA k hk]
        have := ih1.fit k hk
        (try simp only at this)
        omega
      · simp only [eB k]
        have := ih2.fit k hk
        (try simp only at this)
        omega

theorem Fs.under {kids : Nat → List Nat} {xs : List Nat} {C : List (Nat × Nat)} (h : Fs kids xs C) : ∀ y ∈ C, ∃ A, Fs kids (kids y.1) A ∧ y.2 = A.length + 1 := by
  induction h with
  | nil => intro y hy; cases hy
  | @cons x xs A B h1 h2 ih1 ih2 =>
    intro y hy
    rcases List.mem_cons.1 hy with rfl | hy
    · exact ⟨A, h1, rfl⟩
    · rcases List.mem_append.1 hy with hy | hy
      · exact ih1 y hy
      · exact ih2 y hy

/-- What an order as data looks like, node for node. -/
def LikeOut (ts' : List NodeD) (lab : Nat → NodeD) (C : List (Nat × Nat)) : Prop := ∀ i, i < C.length → (ts'.getD i default).kind = (lab (C.getD i default).1).kind ∧ (ts'.getD i default).tag = (lab (C.getD i default).1).tag ∧ (ts'.getD i default).text = (lab (C.getD i default).1).text ∧ (ts'.getD i default).attrs = (lab (C.getD i default).1).attrs ∧ (ts'.getD i default).size = ((C.getD i default).2 : Int)

theorem out_shaped {len : Nat} {ts : List NodeD} (hR : RightT ts len) {F : Wd} {C : List (Nat × Nat)} (hC : Fs F.kids [0] C) (hnd : (C.map (·.1)).Nodup) (hlt : ∀ y ∈ C, y.1 < len) (hkk : ∀ x, x < len → F.kids x ≠ [] → (ts.getD x default).kind = 1 ∨ (ts.getD x default).kind = 3) {ts' : List NodeD} (hl : LikeOut ts' (fun i => ts.getD i default) C) : ShapedT ts' C.length := by
  have hsz : ∀ i, i < C.length → sz ts' i = (C.getD i default).2 := fun i hi => by
    unfold sz
    rw [(hl i hi).2.2.2.2]
    simp
  obtain ⟨A, hA, hAk⟩ := hC.one_inv
  have hpos : 0 < C.length := by rw [hA]; simp
  have h0 : C.getD 0 default = (0, A.length + 1) := by rw [hA]; rfl
  have hmem : ∀ i, i < C.length → C.getD i default ∈ C := fun i hi => by rw [List.getD_eq_getElem?_getD, List.getElem?_eq_getElem hi]; exact List.getElem_mem _
  have huniq : ∀ i, i < C.length → (C.getD i default).1 = 0 → i = 0 := fun i hi he => by
    have h1 : i < (C.map (·.1)).length := by simpa using hi
    have h2 : 0 < (C.map (·.1)).length := by simpa using hpos
    refine (List.getElem_inj (h₀ := h1) (h₁ := h2) hnd).1 ?_
    simp only [List.getElem_map]
    have e1 : C[i] = C.getD i default := by rw [List.getD_eq_getElem?_getD, List.getElem?_eq_getElem hi]; rfl
    have e2 : C[0] = C.getD 0 default := by rw [List.getD_eq_getElem?_getD, List.getElem?_eq_getElem hpos]; rfl
    rw [e1, e2, he, h0]
  refine ⟨hpos, ?_, fun j hj => ?_, hC.nest.congr (fun i hi => (hsz i hi).symm), fun j hj => ?_⟩
  · rw [hsz 0 hpos, h0, hA]; simp
  · rw [hsz j hj]; exact (hl j hj).2.2.2.2
  · rw [(hl j hj).1, hsz j hj]
    have hx := hlt _ (hmem j hj)
    obtain ⟨A', hA1, hA2⟩ := hC.under _ (hmem j hj)
    obtain ⟨x, hxx⟩ : ∃ x, (C.getD j default).1 = x := ⟨_, rfl⟩
    rw [hxx] at hx hA1 ⊢
    simp only
    have hone : (ts.getD x default).kind ≠ 1 → (ts.getD x default).kind ≠ 3 → (C.getD j default).2 = 1 := fun h1 h3 => by
      have hk : F.kids x = [] := Classical.byContradiction fun h => by
        rcases hkk x hx h with h | h
        · exact h1 h
        · exact h3 h
      rw [hk] at hA1
      cases hA1
      exact hA2
    have hj0 : (ts.getD x default).kind ≠ 1 → 0 < j := fun h1 => by
      rcases Nat.eq_zero_or_pos j with e | e
      · subst e
        rw [h0] at hxx
        subst hxx
        exact absurd hR.kind h1
      · exact e
    rcases (hR.node x hx).kinds with ⟨h1, h2⟩ | ⟨h1, _⟩ | h1 | ⟨h1, _⟩ | ⟨h1, _⟩
    · subst h2
      exact .inl ⟨h1, huniq j hj hxx⟩
    · exact .inr (.inl ⟨h1, hj0 (by omega), hone (by omega) (by omega)⟩)
    · exact .inr (.inr (.inl ⟨h1, hj0 (by omega)⟩))
    · exact .inr (.inr (.inr (.inl ⟨h1, hj0 (by omega), hone (by omega) (by omega)⟩)))
    · exact .inr (.inr (.inr (.inr ⟨h1, hj0 (by omega), hone (by omega) (by omega)⟩)))

/-- Only documents and elements have kids. -/
theorem wd0_kk {len : Nat} {ts : List NodeD} (hR : RightT ts len) : ∀ x, x < len → (wd0 (sz ts) len).kids x ≠ [] → (ts.getD x default).kind = 1 ∨ (ts.getD x default).kind = 3 := fun x hx h => by
  have hz : 1 < sz ts x := by
    rcases Nat.lt_or_ge 1 (sz ts x) with h1 | h1
    · exact h1
    · have h2 := hR.nest.pos x hx
      have h3 : sz ts x = 1 := by omega
      exfalso
      apply h
      simp only [wd0, if_pos hx, kids, h3]
      exact kidsFrom_end (Nat.le_refl _)
  rcases (hR.node x hx).kinds with ⟨h1, _⟩ | ⟨_, h1⟩ | h1 | ⟨_, h1⟩ | ⟨_, h1⟩
  · exact .inl h1
  · omega
  · exact .inr h1
  · omega
  · omega

theorem cutsW_kids (l : List Nat) : ∀ (F : Wd) (x : Nat), (cutsW F l).kids x ≠ [] → F.kids x ≠ [] := by
  induction l with
  | nil => intro F x h; exact h
  | cons y l ih =>
    intro F x h
    have h1 := ih (F.cut y) x h
    intro h2
    apply h1
    simp only [Wd.cut, h2]
    rfl

end Go.Proofs.Ytoleejaabiafcaa
