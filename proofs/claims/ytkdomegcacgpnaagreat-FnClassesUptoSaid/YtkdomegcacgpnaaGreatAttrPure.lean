/- Attributes as a list: what a set value does to them (the plain law of FnAttrsSetTwice). -/
import Derived.Test.YtkdomegcacgpnaaGreatBaseAll
namespace Go.Proofs.YtkdomegcacgpnaaGreat
open Go.RowKit
set_option linter.unusedVariables false
set_option linter.unusedSimpArgs false

abbrev KVs := List (ByteArray × ByteArray)

/-- The attributes behind a value set. -/
def setKV : KVs → ByteArray → ByteArray → KVs
  | [], key, val => [(key, val)]
  | x :: r, key, val => if x.1.toList = key.toList then (x.1, val) :: r else x :: setKV r key val

/-- The value of a key: the first one's. -/
def lookKV : KVs → ByteArray → Option ByteArray
  | [], _ => none
  | x :: r, key => if x.1.toList = key.toList then some x.2 else lookKV r key

/-- Each key once. -/
def DistKV (l : KVs) : Prop := l.Pairwise fun x y => x.1.toList ≠ y.1.toList

theorem look_set (l : KVs) (k v k' : ByteArray) : lookKV (setKV l k v) k' = if k.toList = k'.toList then some v else lookKV l k' := by
  induction l with
  | nil => simp [setKV, lookKV]
  | cons x r ih =>
    simp only [setKV]
    by_cases h : x.1.toList = k.toList
    · rw [if_pos h]
      simp only [lookKV]
      by_cases h2 : k.toList = k'.toList
      · rw [if_pos (h.trans h2), if_pos h2]
      · rw [if_neg (fun e => h2 (h.symm.trans e)), if_neg h2, if_neg (fun e => h2 (h.symm.trans e))]
    · rw [if_neg h]
      simp only [lookKV]
      rw [ih]
      by_cases h2 : x.1.toList = k'.toList
      · rw [if_pos h2, if_neg (fun e => h (h2.trans e.symm)), if_pos h2]
      · rw [if_neg h2, if_neg h2]

theorem mem_set {l : KVs} {k v : ByteArray} {y : ByteArray × ByteArray} (h : y ∈ setKV l k v) : (∃ x ∈ l, x.1.toList = y.1.toList) ∨ y.1.toList = k.toList := by
  induction l with
  | nil => simp [setKV] at h; subst h; exact .inr rfl
  | cons x r ih =>
    simp only [setKV] at h
    by_cases hx : x.1.toList = k.toList
    · rw [if_pos hx] at h
      rcases List.mem_cons.mp h with h | h
      · subst h; exact .inl ⟨x, by simp, rfl⟩
      · exact .inl ⟨y, by simp [h], rfl⟩
    · rw [if_neg hx] at h
      rcases List.mem_cons.mp h with h | h
      · subst h; exact .inl ⟨y, by simp, rfl⟩
      · rcases ih h with ⟨z, hz, he⟩ | he
        · exact .inl ⟨z, by simp [hz], he⟩
        · exact .inr he

theorem dist_set {l : KVs} (h : DistKV l) (k v : ByteArray) : DistKV (setKV l k v) := by
  unfold DistKV at *
  induction l with
  | nil => simp [setKV]
  | cons x r ih =>
    rw [List.pairwise_cons] at h
    simp only [setKV]
    by_cases hx : x.1.toList = k.toList
    · rw [if_pos hx, List.pairwise_cons]
      exact ⟨h.1, h.2⟩
    · rw [if_neg hx, List.pairwise_cons]
      refine ⟨fun y hy => ?_, ih h.2⟩
      rcases mem_set hy with ⟨z, hz, he⟩ | he
      · rw [← he]; exact h.1 z hz
      · rw [he]; exact hx

theorem look_mem {l : KVs} (h : DistKV l) {p : ByteArray × ByteArray} (hp : p ∈ l) : lookKV l p.1 = some p.2 := by
  unfold DistKV at h
  induction l with
  | nil => cases hp
  | cons x r ih =>
    rw [List.pairwise_cons] at h
    simp only [lookKV]
    rcases List.mem_cons.mp hp with e | e
    · subst e; rw [if_pos rfl]
    · rw [if_neg (h.1 p e), ih h.2 e]

theorem length_some {l : KVs} {k : ByteArray} (v : ByteArray) {y : ByteArray} (h : lookKV l k = some y) : (setKV l k v).length = l.length := by
  induction l with
  | nil => simp [lookKV] at h
  | cons x r ih =>
    simp only [lookKV] at h
    simp only [setKV]
    by_cases hx : x.1.toList = k.toList
    · rw [if_pos hx]; simp
    · rw [if_neg hx] at h ⊢
      simp only [List.length_cons, ih h]

theorem length_none {l : KVs} {k : ByteArray} (v : ByteArray) (h : lookKV l k = none) : (setKV l k v).length = l.length + 1 := by
  induction l with
  | nil => simp [setKV]
  | cons x r ih =>
    simp only [lookKV] at h
    simp only [setKV]
    by_cases hx : x.1.toList = k.toList
    · rw [if_pos hx] at h; simp at h
    · rw [if_neg hx] at h ⊢
      simp only [List.length_cons, ih h]

theorem length_set_le (l : KVs) (k v : ByteArray) : (setKV l k v).length ≤ l.length + 1 ∧ l.length ≤ (setKV l k v).length ∧ 0 < (setKV l k v).length := by
  cases h : lookKV l k with
  | none => rw [length_none v h]; omega
  | some y =>
    rw [length_some v h]
    cases l with
    | nil => simp [lookKV] at h
    | cons x r => simp

theorem set_set (l : KVs) (k a b : ByteArray) : setKV (setKV l k a) k b = setKV l k b := by
  induction l with
  | nil => simp [setKV]
  | cons x r ih =>
    simp only [setKV]
    by_cases hx : x.1.toList = k.toList
    · rw [if_pos hx, if_pos hx]; simp [setKV, hx]
    · rw [if_neg hx, if_neg hx]; simp [setKV, hx, ih]

/-- All of a list is found in another one. -/
def Found (x y : KVs) : Prop := ∀ p ∈ x, lookKV y p.1 = some p.2

theorem swapped_found {l : KVs} (hd : DistKV l) {key other : ByteArray} (a b : ByteArray) (hne : key.toList ≠ other.toList) :
    Found (setKV (setKV l key a) other b) (setKV (setKV l other b) key a) := by
  intro p hp
  rw [← look_mem (dist_set (dist_set hd key a) other b) hp]
  rw [look_set, look_set, look_set, look_set]
  by_cases h1 : key.toList = p.1.toList
  · rw [if_pos h1, if_neg (fun e => hne (h1.trans e.symm)), if_pos h1]
  · rw [if_neg h1, if_neg h1]

theorem swapped_length (l : KVs) {key other : ByteArray} (a b : ByteArray) (hne : key.toList ≠ other.toList) :
    (setKV (setKV l key a) other b).length = (setKV (setKV l other b) key a).length := by
  have e1 : lookKV (setKV l key a) other = lookKV l other := by rw [look_set, if_neg hne]
  have e2 : lookKV (setKV l other b) key = lookKV l key := by rw [look_set, if_neg (fun e => hne e.symm)]
  cases h1 : lookKV l key with
  | none =>
    cases h2 : lookKV l other with
    | none => rw [length_none b (e1.trans h2), length_none a h1, length_none a (e2.trans h1), length_none b h2]
    | some y => rw [length_some b (e1.trans h2), length_none a h1, length_none a (e2.trans h1), length_some b h2]
  | some x =>
    cases h2 : lookKV l other with
    | none => rw [length_none b (e1.trans h2), length_some a h1, length_some a (e2.trans h1), length_none b h2]
    | some y => rw [length_some b (e1.trans h2), length_some a h1, length_some a (e2.trans h1), length_some b h2]

/-- None of the first ones has a key. -/
def NoneBefore (l : KVs) (key : ByteArray) (n : Nat) : Prop := ∀ j, j < n → ((l.getD j default).1.toList == key.toList) = false

theorem NoneBefore.succ {l : KVs} {key x : ByteArray} {n : Nat} (h : NoneBefore l key n) (hx : (l.getD n default).1 = x) (hk : (x.toList == key.toList) = false) : NoneBefore l key (n + 1) := by
  intro j hj
  by_cases e : j = n
  · subst e; rw [hx]; exact hk
  · exact h j (by omega)

theorem set_none {l : KVs} {key : ByteArray} (val : ByteArray) (h : NoneBefore l key l.length) : setKV l key val = l ++ [(key, val)] := by
  induction l with
  | nil => rfl
  | cons x r ih =>
    have h0 := h 0 (by simp)
    have h0' : x.1.toList ≠ key.toList := by simpa using h0
    simp only [setKV, List.cons_append]
    rw [if_neg h0', ih fun j hj => by simpa using h (j + 1) (by simpa using hj)]

theorem set_at {l : KVs} {key : ByteArray} (val : ByteArray) {k : Nat} (hk : k < l.length) (h : NoneBefore l key k) (he : ((l.getD k default).1.toList == key.toList) = true) : setKV l key val = l.set k ((l.getD k default).1, val) := by
  induction l generalizing k with
  | nil => simp at hk
  | cons x r ih =>
    simp only [setKV]
    cases k with
    | zero =>
      have he' : x.1.toList = key.toList := by simpa using he
      rw [if_pos he']; simp
    | succ k =>
      have h0 := h 0 (by omega)
      have h0' : x.1.toList ≠ key.toList := by simpa using h0
      rw [if_neg h0', ih (by simpa using hk) (fun j hj => by simpa using h (j + 1) (by omega)) (by simpa using he)]
      simp

theorem look_none {l : KVs} {key : ByteArray} (h : NoneBefore l key l.length) : lookKV l key = none := by
  induction l with
  | nil => rfl
  | cons x r ih =>
    have h0 := h 0 (by simp)
    have h0' : x.1.toList ≠ key.toList := by simpa using h0
    simp only [lookKV]
    rw [if_neg h0', ih fun j hj => by simpa using h (j + 1) (by simpa using hj)]

theorem look_at {l : KVs} {key : ByteArray} {k : Nat} (hk : k < l.length) (h : NoneBefore l key k) (he : ((l.getD k default).1.toList == key.toList) = true) : lookKV l key = some (l.getD k default).2 := by
  induction l generalizing k with
  | nil => simp at hk
  | cons x r ih =>
    simp only [lookKV]
    cases k with
    | zero =>
      have he' : x.1.toList = key.toList := by simpa using he
      rw [if_pos he']; simp
    | succ k =>
      have h0 := h 0 (by omega)
      have h0' : x.1.toList ≠ key.toList := by simpa using h0
      rw [if_neg h0', ih (by simpa using hk) (fun j hj => by simpa using h (j + 1) (by omega)) (by simpa using he)]
      simp

theorem dist_of {l : KVs} (h : ∀ i, i < l.length → ∀ j, j < i → ((l.getD j default).1.toList == (l.getD i default).1.toList) = false) : DistKV l := by
  unfold DistKV
  rw [List.pairwise_iff_getElem]
  intro i j hi hj hij
  have := h j hj i hij
  rw [List.getD_eq_getElem?_getD, List.getD_eq_getElem?_getD, List.getElem?_eq_getElem hi, List.getElem?_eq_getElem hj] at this
  simpa using this

end Go.Proofs.YtkdomegcacgpnaaGreat
