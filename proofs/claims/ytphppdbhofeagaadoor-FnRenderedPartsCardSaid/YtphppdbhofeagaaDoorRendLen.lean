/- How long the text of a tree is (plain); the nodes of a plain document. -/
import Derived.Test.YtphppdbhofeagaaDoorRend
import Derived.Test.YtphppdbhofeagaaDoorKidTo
namespace Go.Proofs.YtphppdbhofeagaaDoor
open Go.RowKit
set_option linter.unusedVariables false
set_option linter.unusedSimpArgs false

/-- The names of plain elements, and body. -/
def plainLists : List (List UInt8) := [[100, 105, 118], [115, 101, 99, 116, 105, 111, 110], [97, 114, 116, 105, 99, 108, 101], [97, 115, 105, 100, 101], [110, 97, 118], [104, 101, 97, 100, 101, 114], [102, 111, 111, 116, 101, 114], [109, 97, 105, 110], [115, 112, 97, 110], [97, 98, 98, 114], [115, 117, 98], [115, 117, 112], [113], [120, 45, 97], [120, 45, 98], [98, 111, 100, 121]]
def Plainish (s : ByteArray) : Prop := s.data.toList ∈ plainLists

theorem plainish_ne {s : ByteArray} (h : Plainish s) (c : List UInt8) (hc : plainLists.contains c = false) : (s.toList == c) = false := by
  rw [ByteArray.toList_eq]
  rw [Bool.eq_false_iff]
  intro he
  have := eq_of_beq he
  rw [Plainish, this] at h
  have h2 : plainLists.contains c = true := by rw [List.contains_iff_mem]; exact h
  rw [hc] at h2
  cases h2

theorem plainish_size {s : ByteArray} (h : Plainish s) : s.size ≤ 7 := by
  have e : s.size = s.data.toList.length := by rw [Array.length_toList]; rfl
  rw [e]
  exact (by decide : ∀ l ∈ plainLists, l.length ≤ 7) _ h

/-- What a node of a plain document is, from the body on. -/
def PlainNode (n : NodeD) : Prop := (n.kind = 3 ∧ Plainish n.tag) ∨ n.kind = 4 ∨ (n.kind = 5 ∧ Letters n.text)

/-- A node whose texts are short. -/
structure SmallNode (n : NodeD) : Prop where
  tag : n.kind = 3 → n.tag.size ≤ 1000
  text : n.text.size ≤ 4000
  many : n.attrs.length ≤ 20
  attrs : ∀ x ∈ n.attrs, x.1.size ≤ 4000 ∧ x.2.size ≤ 4000

theorem small_node {ts : List NodeD} {len : Nat} (hR : RightT ts len) {i : Nat} (hi : i < len) (hP : PlainNode (ts.getD i default)) : SmallNode (ts.getD i default) := by
  have h := hR.node i hi
  by_cases h3 : (ts.getD i default).kind = 3
  · refine ⟨fun _ => ?_, hR.text_le hi, (h.attrs h3).1, fun x hx => ⟨?_, hR.vals i hi x hx⟩⟩
    · rcases hP with ⟨_, hp⟩ | hp | ⟨hp, _⟩
      · have := plainish_size hp; omega
      · omega
      · omega
    · obtain ⟨j, hj, rfl⟩ := List.getElem_of_mem hx
      have := h.keys h3 j hj
      rw [List.getD_eq_getElem?_getD, List.getElem?_eq_getElem hj] at this
      simp only [Option.getD_some] at this
      omega
  · refine ⟨fun h => absurd h h3, hR.text_le hi, ?_, ?_⟩
    · rw [(h.bare h3).2]; simp
    · rw [(h.bare h3).2]; simp

theorem kidsFrom_len {z : Nat → Nat} {a e K : Nat} {g : Nat → List UInt8} (hfit : ∀ j, a < j → j < e → j + z j ≤ e) (hg : ∀ j, a < j → j < e → (g j).length ≤ z j * K) :
    ∀ f k, a < k → k ≤ e → ((kidsFrom z e f k).flatMap g).length ≤ (e - k) * K
  | 0, k, _, _ => by simp [kidsFrom]
  | f + 1, k, h1, h2 => by
    rw [kidsFrom]
    split
    · rename_i hlt
      have h3 := hfit k h1 hlt
      have h4 := kidsFrom_len hfit hg f (k + z k) (by omega) h3
      have h5 := hg k h1 hlt
      rw [List.flatMap_cons, List.length_append]
      have h6 : e - k = z k + (e - (k + z k)) := by omega
      rw [h6, Nat.add_mul]
      omega
    · simp

theorem rendF_length {ts : List NodeD} {n : Nat} (hz : Nest (sz ts) n) (hS : ∀ i, 4 ≤ i → i < n → SmallNode (ts.getD i default)) : ∀ f x, x < n → 4 ≤ x → sz ts x ≤ f → (rendF ts f x).length ≤ sz ts x * 600000
  | 0, x, _, _, _ => by simp [rendF]
  | f + 1, x, hx, h4, hf => by
    have hpos := hz.pos x hx
    have hfit := hz.fit x hx
    have hs := hS x h4 hx
    have e1 : (ts.getD x default).text.data.toList.length = (ts.getD x default).text.size := by rw [Array.length_toList]; rfl
    have e2 : (ts.getD x default).tag.data.toList.length = (ts.getD x default).tag.size := by rw [Array.length_toList]; rfl
    have h1 := hs.text
    obtain ⟨zz, hzz⟩ : ∃ zz, sz ts x = zz + 1 := ⟨sz ts x - 1, by omega⟩
    rw [rendF]
    split
    · have h2 := escL_length (ts.getD x default).text.data.toList
      rw [hzz, Nat.add_mul]
      omega
    · split
      · simp only [List.length_append, List.length_cons, List.length_nil]
        rw [hzz, Nat.add_mul]
        omega
      · split
        · rename_i h3
          have ht := hs.tag h3
          have ha := attsB_length (M := 4000) hs.attrs
          have hm := hs.many
          have hk : ((kids (sz ts) x).flatMap (rendF ts f)).length ≤ (x + sz ts x - (x + 1)) * 600000 :=
            kidsFrom_len (a := x) (fun j h1 h2 => by
              have := hz.lam x j hx (by omega) h2
              omega) (fun j h1 h2 => by
              have := hz.lam x j hx (by omega) h2
              exact rendF_length hz hS f j (by omega) (by omega) (by omega)) _ _ (by omega) (by omega)
          rw [show x + sz ts x - (x + 1) = zz by omega] at hk
          have hb : (attsB (ts.getD x default).attrs).length ≤ 20 * 24004 := Nat.le_trans ha (Nat.mul_le_mul hm (Nat.le_refl _))
          simp only [openB, closeB, List.length_append, List.length_cons, List.length_nil]
          rw [hzz, Nat.add_mul]
          omega
        · simp

theorem rend_length {ts : List NodeD} {n : Nat} (hz : Nest (sz ts) n) (hS : ∀ i, 4 ≤ i → i < n → SmallNode (ts.getD i default)) {x : Nat} (hx : x < n) (h4 : 4 ≤ x) : (rend ts x).length ≤ sz ts x * 600000 :=
  rendF_length hz hS _ x hx h4 (Nat.le_refl _)

theorem openB_length {n : NodeD} (hs : SmallNode n) (h3 : n.kind = 3) : (openB n).length ≤ 500000 := by
  have ht := hs.tag h3
  have ha := attsB_length (M := 4000) hs.attrs
  have hb : (attsB n.attrs).length ≤ 20 * 24004 := Nat.le_trans ha (Nat.mul_le_mul hs.many (Nat.le_refl _))
  have e2 : n.tag.data.toList.length = n.tag.size := by rw [Array.length_toList]; rfl
  simp only [openB, List.length_append, List.length_cons, List.length_nil]
  omega

theorem attsB_take_length {n : NodeD} (hs : SmallNode n) (k : Nat) : (attsB (n.attrs.take k)).length ≤ 20 * 24004 := by
  have ha := attsB_length (M := 4000) (l := n.attrs.take k) fun x hx => hs.attrs x (List.mem_of_mem_take hx)
  have : (n.attrs.take k).length ≤ 20 := by rw [List.length_take]; have := hs.many; omega
  exact Nat.le_trans ha (Nat.mul_le_mul this (Nat.le_refl _))

theorem attsB_step {l : List (ByteArray × ByteArray)} {k : Nat} (hk : k < l.length) : attsB (l.take (k + 1)) = attsB (l.take k) ++ attB (l.getD k default) := by
  have e : l.take (k + 1) = l.take k ++ [l.getD k default] := by
    rw [List.take_add_one, List.getElem?_eq_getElem hk, List.getD_eq_getElem?_getD, List.getElem?_eq_getElem hk]
    rfl
  rw [e, attsB, List.flatMap_append, attsB]
  simp only [List.flatMap_cons, List.flatMap_nil, List.append_nil]

end Go.Proofs.YtphppdbhofeagaaDoor
