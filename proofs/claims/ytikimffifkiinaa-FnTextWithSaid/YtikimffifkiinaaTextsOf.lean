/- spec.TextsOf. -/
import Derived.Test.YtikimffifkiinaaTextAll
import Derived.Test.YtikimffifkiinaaTextsPure
import Derived.Test.YtikimffifkiinaaKids
namespace Go.Proofs.Ytikimffifkiinaa
open Go.RowKit
set_option linter.unusedVariables false
set_option linter.unusedSimpArgs false

def bytesOf (L : List ByteArray) : List (List UInt8) := L.map (·.data.toList)

/-- What the inner loop has so far. -/
structure SoFar (ts : List NodeD) (trim : Bool) (name : Option ByteArray) (sep : List UInt8) (done : List Nat) (x j : Nat) (z : ByteArray) (b : Bool) : Prop where
  out : z.data.toList = Lib.join (bytesOf (partsL ts trim name done ++ parts ts trim name x j)) sep
  some : b = !(partsL ts trim name done ++ parts ts trim name x j).isEmpty
  len : (partsL ts trim name done ++ parts ts trim name x j).length ≤ 200 * done.length + j
  tr : ∀ i ∈ done, Trimmable ts i trim name
  trx : ∀ i, x ≤ i → i < x + j → (ts.getD i default).kind = 4 → trim = true → wanted ts name i = true → ∀ q (h : q < (ts.getD i default).text.size), ((ts.getD i default).text[q]'h).toNat < 128 ∧ ((ts.getD i default).text[q]'h).toNat ≠ 11

theorem SoFar.skip {ts : List NodeD} {trim : Bool} {name : Option ByteArray} {sep : List UInt8} {done : List Nat} {x j : Nat} {z : ByteArray} {b : Bool} (h : SoFar ts trim name sep done x j z b) (hp : part ts trim name (x + j) = [])
    (ht : (ts.getD (x + j) default).kind = 4 → trim = true → wanted ts name (x + j) = true → ∀ q (h : q < (ts.getD (x + j) default).text.size), ((ts.getD (x + j) default).text[q]'h).toNat < 128 ∧ ((ts.getD (x + j) default).text[q]'h).toNat ≠ 11) : SoFar ts trim name sep done x (j + 1) z b := by
  have e : parts ts trim name x (j + 1) = parts ts trim name x j := by rw [parts, hp, List.append_nil]
  refine ⟨by rw [e]; exact h.out, by rw [e]; exact h.some, by rw [e]; have := h.len; omega, h.tr, fun i h1 h2 => ?_⟩
  rcases Nat.lt_or_ge i (x + j) with h3 | h3
  · exact h.trx i h1 h3
  · obtain rfl : i = x + j := by omega
    exact ht

theorem SoFar.add {ts : List NodeD} {trim : Bool} {name : Option ByteArray} {sep : List UInt8} {done : List Nat} {x j : Nat} {z z' r : ByteArray} {b : Bool} (h : SoFar ts trim name sep done x j z b) (hp : part ts trim name (x + j) = [r])
    (hz : z'.data.toList = if b then z.data.toList ++ sep ++ r.data.toList else r.data.toList)
    (ht : (ts.getD (x + j) default).kind = 4 → trim = true → wanted ts name (x + j) = true → ∀ q (h : q < (ts.getD (x + j) default).text.size), ((ts.getD (x + j) default).text[q]'h).toNat < 128 ∧ ((ts.getD (x + j) default).text[q]'h).toNat ≠ 11) : SoFar ts trim name sep done x (j + 1) z' true := by
  have e : partsL ts trim name done ++ parts ts trim name x (j + 1) = (partsL ts trim name done ++ parts ts trim name x j) ++ [r] := by rw [parts, hp, List.append_assoc]
  have hs := h.some
  have ho := h.out
  have hl := h.len
  obtain ⟨L, hL⟩ : ∃ L, partsL ts trim name done ++ parts ts trim name x j = L := ⟨_, rfl⟩
  rw [hL] at e hs ho hl
  refine ⟨?_, ?_, ?_, h.tr, fun i h1 h2 => ?_⟩
  · rw [e, hz, show bytesOf (L ++ [r]) = bytesOf L ++ [r.data.toList] by simp [bytesOf], join_snoc, ho, hs]
    cases L with
    | nil => rfl
    | cons a t => simp [bytesOf]
  · rw [e]; simp
  · rw [e, List.length_append]; simp; omega
  · rcases Nat.lt_or_ge i (x + j) with h3 | h3
    · exact h.trx i h1 h3
    · obtain rfl : i = x + j := by omega
      exact ht

theorem SoFar.next {ts : List NodeD} {trim : Bool} {name : Option ByteArray} {sep : List UInt8} {done : List Nat} {x y : Nat} {z : ByteArray} {b : Bool} (h : SoFar ts trim name sep done x (sz ts x) z b) (hx : sz ts x ≤ 200) : SoFar ts trim name sep (done ++ [x]) y 0 z b := by
  have e : partsL ts trim name (done ++ [x]) ++ parts ts trim name y 0 = partsL ts trim name done ++ parts ts trim name x (sz ts x) := by rw [partsL_snoc, parts, List.append_nil]
  refine ⟨by rw [e]; exact h.out, by rw [e]; exact h.some, by rw [e, show (done ++ [x]).length = done.length + 1 by simp]; have := h.len; omega, fun i hi => ?_, fun i h1 h2 => by omega⟩
  rw [List.mem_append, List.mem_singleton] at hi
  rcases hi with hi | rfl
  · exact h.tr i hi
  · exact fun i h1 h2 => h.trx i h1 h2

theorem SoFar.start {ts : List NodeD} {trim : Bool} {name : Option ByteArray} {sep : List UInt8} {y : Nat} : SoFar ts trim name sep [] y 0 ⟨#[]⟩ false :=
  ⟨by simp [partsL, parts, bytesOf, Lib.join_nil], rfl, by simp [partsL, parts], fun i hi => by simp at hi, fun i h1 h2 => by omega⟩

theorem all_drop {p : UInt8 → Bool} : ∀ l : List UInt8, l.dropWhile p = [] → ∀ a ∈ l, p a = true
  | [], _, a, ha => by cases ha
  | b :: r, h, a, ha => by
    rw [List.dropWhile_cons] at h
    cases hb : p b
    · rw [hb] at h; cases h
    · rw [hb] at h
      rcases List.mem_cons.1 ha with rfl | ha
      · exact hb
      · exact all_drop r h a ha

theorem all_take {p : UInt8 → Bool} : ∀ l : List UInt8, ∀ a ∈ l.takeWhile p, p a = true
  | [], a, ha => by cases ha
  | b :: r, a, ha => by
    rw [List.takeWhile_cons] at ha
    cases hb : p b
    · rw [hb] at ha; cases ha
    · rw [hb] at ha
      rcases List.mem_cons.1 ha with rfl | ha
      · exact hb
      · exact all_take r a ha

/-- The bytes of a text that is of white space only. -/
theorem spaces_ok {t : ByteArray} (h : bareL t.data.toList = []) : ∀ q (hq : q < t.size), (t[q]'hq).toNat < 128 ∧ (t[q]'hq).toNat ≠ 11 := by
  intro q hq
  have h1 : (t.data.toList.dropWhile spaceB).reverse.dropWhile spaceB = [] := by
    unfold bareL at h
    simpa using h
  have h2 := all_drop _ h1
  have h3 : ∀ a ∈ t.data.toList, spaceB a = true := by
    intro a ha
    rw [← List.takeWhile_append_dropWhile (p := spaceB) (l := t.data.toList), List.mem_append] at ha
    rcases ha with ha | ha
    · exact all_take _ a ha
    · exact h2 a (List.mem_reverse.2 ha)
  have h4 : spaceB (t[q]'hq) = true := h3 _ (by
    have hl := size_list t
    have : t.data.toList[q]'(by omega) = t[q]'hq := rfl
    rw [← this]
    exact List.getElem_mem _)
  unfold spaceB spaceI at h4
  simp only [Bool.or_eq_true, beq_iff_eq] at h4
  omega

end Go.Proofs.Ytikimffifkiinaa
