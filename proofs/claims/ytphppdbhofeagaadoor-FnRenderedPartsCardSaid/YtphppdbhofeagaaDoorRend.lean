/- The text of a tree, as html.Render writes it (plain). -/
import Derived.Test.YtphppdbhofeagaaDoorComment
import Derived.Test.YtphppdbhofeagaaDoorKids
import Derived.Test.YtphppdbhofeagaaDoorRightAll
namespace Go.Proofs.YtphppdbhofeagaaDoor
open Go.RowKit
set_option linter.unusedVariables false
set_option linter.unusedSimpArgs false

/-- An attribute; an element's opening and closing. -/
def attB (x : ByteArray × ByteArray) : List UInt8 := [32] ++ x.1.data.toList ++ [61, 34] ++ escL x.2.data.toList ++ [34]
def attsB (l : List (ByteArray × ByteArray)) : List UInt8 := l.flatMap attB
def openB (n : NodeD) : List UInt8 := [60] ++ n.tag.data.toList ++ attsB n.attrs ++ [62]
def closeB (n : NodeD) : List UInt8 := [60, 47] ++ n.tag.data.toList ++ [62]

/-- A node with all beneath it. -/
def rendF (ts : List NodeD) : Nat → Nat → List UInt8
  | 0, _ => []
  | f + 1, x =>
    if (ts.getD x default).kind = 4 then escL (ts.getD x default).text.data.toList
    else if (ts.getD x default).kind = 5 then [60, 33, 45, 45] ++ (ts.getD x default).text.data.toList ++ [45, 45, 62]
    else if (ts.getD x default).kind = 3 then openB (ts.getD x default) ++ (kids (sz ts) x).flatMap (rendF ts f) ++ closeB (ts.getD x default)
    else []

theorem kidsFrom_in {z : Nat → Nat} {n x : Nat} (hz : Nest z n) (hx : x < n) : ∀ (f k : Nat), x < k → ∀ j ∈ kidsFrom z (x + z x) f k, x < j ∧ j < x + z x
  | 0, k, _, j, hj => by simp [kidsFrom] at hj
  | f + 1, k, hk, j, hj => by
    rw [kidsFrom] at hj
    split at hj
    · rename_i hlt
      rcases List.mem_cons.1 hj with h | h
      · subst h; exact ⟨hk, hlt⟩
      · exact kidsFrom_in hz hx f (k + z k) (by omega) j h
    · simp at hj

theorem kids_in {z : Nat → Nat} {n x : Nat} (hz : Nest z n) (hx : x < n) {j : Nat} (hj : j ∈ kids z x) : x < j ∧ j < x + z x ∧ j < n ∧ z j < z x := by
  obtain ⟨h1, h2⟩ := kidsFrom_in hz hx _ _ (Nat.lt_succ_self x) j hj
  have h3 := hz.fit x hx
  have h4 := hz.lam x j hx (by omega) h2
  exact ⟨h1, h2, by omega, by omega⟩

theorem flatMap_congr {l : List Nat} {f g : Nat → List UInt8} (h : ∀ x ∈ l, f x = g x) : l.flatMap f = l.flatMap g := by
  induction l with
  | nil => rfl
  | cons a l ih => rw [List.flatMap_cons, List.flatMap_cons, h a (by simp), ih fun x hx => h x (by simp [hx])]

theorem rend_enough {ts : List NodeD} {n : Nat} (hz : Nest (sz ts) n) : ∀ (f g x : Nat), x < n → sz ts x ≤ f → sz ts x ≤ g → rendF ts f x = rendF ts g x
  | 0, g, x, hx, hf, _ => by have := hz.pos x hx; omega
  | f + 1, 0, x, hx, _, hg => by have := hz.pos x hx; omega
  | f + 1, g + 1, x, hx, hf, hg => by
    have : (kids (sz ts) x).flatMap (rendF ts f) = (kids (sz ts) x).flatMap (rendF ts g) := flatMap_congr fun j hj => by
      obtain ⟨_, _, h3, h4⟩ := kids_in hz hx hj
      exact rend_enough hz f g j h3 (by omega) (by omega)
    simp only [rendF, this]

/-- The text of the node at a place. -/
def rend (ts : List NodeD) (x : Nat) : List UInt8 := rendF ts (sz ts x) x
/-- .. of what stands beneath it. -/
def inner (ts : List NodeD) (x : Nat) : List UInt8 := (kids (sz ts) x).flatMap (rend ts)

theorem rend_text {ts : List NodeD} {n : Nat} (hz : Nest (sz ts) n) {x : Nat} (hx : x < n) (h : (ts.getD x default).kind = 4) : rend ts x = escL (ts.getD x default).text.data.toList := by
  have h1 := hz.pos x hx
  obtain ⟨m, hm⟩ : ∃ m, sz ts x = m + 1 := ⟨sz ts x - 1, by omega⟩
  rw [rend, hm, rendF, if_pos h]

theorem rend_comment {ts : List NodeD} {n : Nat} (hz : Nest (sz ts) n) {x : Nat} (hx : x < n) (h : (ts.getD x default).kind = 5) : rend ts x = [60, 33, 45, 45] ++ (ts.getD x default).text.data.toList ++ [45, 45, 62] := by
  have h1 := hz.pos x hx
  obtain ⟨m, hm⟩ : ∃ m, sz ts x = m + 1 := ⟨sz ts x - 1, by omega⟩
  rw [rend, hm, rendF, if_neg (by omega), if_pos h]

theorem rend_el {ts : List NodeD} {n : Nat} (hz : Nest (sz ts) n) {x : Nat} (hx : x < n) (h : (ts.getD x default).kind = 3) : rend ts x = openB (ts.getD x default) ++ inner ts x ++ closeB (ts.getD x default) := by
  have h1 := hz.pos x hx
  obtain ⟨m, hm⟩ : ∃ m, sz ts x = m + 1 := ⟨sz ts x - 1, by omega⟩
  have : (kids (sz ts) x).flatMap (rendF ts m) = inner ts x := flatMap_congr fun j hj => by
    obtain ⟨_, _, h3, h4⟩ := kids_in hz hx hj
    exact rend_enough hz m (sz ts j) j h3 (by omega) (Nat.le_refl _)
  rw [rend, hm, rendF, if_neg (by omega), if_neg (by omega), if_pos h, this]

theorem attB_length {x : ByteArray × ByteArray} {M : Nat} (h1 : x.1.size ≤ M) (h2 : x.2.size ≤ M) : (attB x).length ≤ 6 * M + 4 := by
  have h3 := escL_length x.2.data.toList
  have e1 : x.1.data.toList.length = x.1.size := by rw [Array.length_toList]; rfl
  have e2 : x.2.data.toList.length = x.2.size := by rw [Array.length_toList]; rfl
  simp only [attB, List.length_append, List.length_cons, List.length_nil]
  omega

theorem attsB_length {M : Nat} : ∀ {l : List (ByteArray × ByteArray)}, (∀ x ∈ l, x.1.size ≤ M ∧ x.2.size ≤ M) → (attsB l).length ≤ l.length * (6 * M + 4)
  | [], _ => Nat.zero_le _
  | x :: l, h => by
    have h1 := attB_length (h x (by simp)).1 (h x (by simp)).2
    have h2 := attsB_length (l := l) fun y hy => h y (by simp [hy])
    rw [attsB, List.flatMap_cons, List.length_append, List.length_cons, Nat.succ_mul]
    rw [attsB] at h2
    omega

end Go.Proofs.YtphppdbhofeagaaDoor
