/- Attributes that have lost their class: which ones are left. Plain. -/
import Derived.Test.YtoleejaabiafcaaRemoveAttrAll
import Derived.Test.YtoleejaabiafcaaAttrPure
namespace Go.Proofs.Ytoleejaabiafcaa
set_option linter.unusedVariables false
set_option linter.unusedSimpArgs false

theorem dist_at {l : KVs} (h : DistKV l) {a b : Nat} (ha : a < l.length) (hb : b < l.length) (hne : a ≠ b) : (l.getD a default).1.toList ≠ (l.getD b default).1.toList := by
  unfold DistKV at h
  rw [List.pairwise_iff_getElem] at h
  rw [List.getD_eq_getElem?_getD, List.getD_eq_getElem?_getD, List.getElem?_eq_getElem ha, List.getElem?_eq_getElem hb]
  rcases Nat.lt_or_gt_of_ne hne with h1 | h1
  · exact h a b ha hb h1
  · exact fun e => h b a hb ha h1 e.symm

theorem dist_mk {l : KVs} (h : ∀ a b, a < l.length → b < l.length → a < b → (l.getD a default).1.toList ≠ (l.getD b default).1.toList) : DistKV l := by
  unfold DistKV
  rw [List.pairwise_iff_getElem]
  intro a b ha hb hab
  have := h a b ha hb hab
  rw [List.getD_eq_getElem?_getD, List.getD_eq_getElem?_getD, List.getElem?_eq_getElem ha, List.getElem?_eq_getElem hb] at this
  exact this

theorem swap_get {l : KVs} {i j : Nat} {e : ByteArray × ByteArray} (hj : j + 1 < l.length) : ((l.set i e).dropLast).getD j default = if j = i then e else l.getD j default := by
  rw [List.getD_eq_getElem?_getD, List.getElem?_dropLast, List.length_set, if_pos (by omega), List.getElem?_set]
  by_cases h : i = j
  · subst h
    rw [if_pos rfl, if_pos (by omega), if_pos rfl]
    rfl
  · rw [if_neg h, if_neg (Ne.symm h), List.getD_eq_getElem?_getD]

structure RemSay (l l' : KVs) : Prop where
  dist : DistKV l'
  mem : ∀ x, x ∈ l' ↔ x ∈ l ∧ (x.1.toList == [99, 108, 97, 115, 115]) = false
  len : l'.length ≤ l.length

theorem getD_mem_kv {l : KVs} {j : Nat} (h : j < l.length) : l.getD j default ∈ l := by
  rw [List.getD_eq_getElem?_getD, List.getElem?_eq_getElem h]; exact List.getElem_mem _

theorem mem_getD_kv {l : KVs} {x : ByteArray × ByteArray} (h : x ∈ l) : ∃ j, j < l.length ∧ l.getD j default = x := by
  obtain ⟨j, hj, e⟩ := List.getElem_of_mem h
  exact ⟨j, hj, by rw [List.getD_eq_getElem?_getD, List.getElem?_eq_getElem hj]; exact e⟩

theorem remC_say {l l' : KVs} (hd : DistKV l) (h : RemC l l') : RemSay l l' := by
  rcases h with ⟨hn, rfl⟩ | ⟨i, hi, hc, rfl⟩
  · exact ⟨hd, fun x => ⟨fun hx => ⟨hx, hn x hx⟩, fun hx => hx.1⟩, Nat.le_refl _⟩
  · have hlen : ((l.set i (l.getD (l.length - 1) default)).dropLast).length = l.length - 1 := by simp
    have hcls : ∀ j, j < l.length → j ≠ i → ((l.getD j default).1.toList == [99, 108, 97, 115, 115]) = false := fun j hj hne => by
      have h1 := dist_at hd hj hi hne
      have h2 := eq_of_beq hc
      rw [h2] at h1
      simpa using h1
    -- each place of the new list is a place of the old one
    have hidx : ∀ j, j + 1 < l.length → ∃ k, k < l.length ∧ k ≠ i ∧ ((l.set i (l.getD (l.length - 1) default)).dropLast).getD j default = l.getD k default ∧ ((j = i ∧ k = l.length - 1) ∨ (j ≠ i ∧ k = j)) := fun j hj => by
      rw [swap_get hj]
      by_cases e : j = i
      · exact ⟨l.length - 1, by omega, by omega, by rw [if_pos e], .inl ⟨e, rfl⟩⟩
      · exact ⟨j, by omega, e, by rw [if_neg e], .inr ⟨e, rfl⟩⟩
    refine ⟨dist_mk (fun a b ha hb hab => ?_), fun x => ⟨fun hx => ?_, fun hx => ?_⟩, by rw [hlen]; omega⟩
    · rw [hlen] at ha hb
      obtain ⟨ka, a1, a2, a3, a4⟩ := hidx a (by omega)
      obtain ⟨kb, b1, b2, b3, b4⟩ := hidx b (by omega)
      rw [a3, b3]
      refine dist_at hd a1 b1 ?_
      rcases a4 with ⟨_, e1⟩ | ⟨_, e1⟩ <;> rcases b4 with ⟨_, e2⟩ | ⟨_, e2⟩ <;> omega
    · obtain ⟨j, hj, rfl⟩ := mem_getD_kv hx
      rw [hlen] at hj
      obtain ⟨k, a1, a2, a3, _⟩ := hidx j (by omega)
      rw [a3]
      exact ⟨getD_mem_kv a1, hcls k a1 a2⟩
    · obtain ⟨hx1, hx2⟩ := hx
      obtain ⟨k, hk, rfl⟩ := mem_getD_kv hx1
      have hki : k ≠ i := fun e => by rw [e, hc] at hx2; cases hx2
      by_cases hl : k + 1 < l.length
      · have h1 := swap_get (i := i) (e := l.getD (l.length - 1) default) hl
        rw [if_neg hki] at h1
        rw [← h1]
        exact getD_mem_kv (by rw [hlen]; omega)
      · have hk2 : k = l.length - 1 := by omega
        have h1 := swap_get (l := l) (i := i) (j := i) (e := l.getD (l.length - 1) default) (by omega)
        rw [if_pos rfl] at h1
        have h2 := getD_mem_kv (l := (l.set i (l.getD (l.length - 1) default)).dropLast) (j := i) (by rw [hlen]; omega)
        rw [h1] at h2
        rw [hk2]
        exact h2

end Go.Proofs.Ytoleejaabiafcaa
