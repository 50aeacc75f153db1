/- spec.rightNode: where it says yes, the node has what its kind says. -/
import Derived.Test.YtikimffifkiinaaRightRoot
import Derived.Test.YtikimffifkiinaaRightAttrs
namespace Go.Proofs.Ytikimffifkiinaa
open Go.RowKit
set_option linter.unusedVariables false
set_option linter.unusedSimpArgs false

/-- A node has what its kind says. -/
structure NodeOk (n : NodeD) (z at_ : Nat) : Prop where
  kinds : (n.kind = 1 ∧ at_ = 0) ∨ (n.kind = 2 ∧ z = 1) ∨ n.kind = 3 ∨ (n.kind = 4 ∧ z = 1) ∨ (n.kind = 5 ∧ z = 1)
  bare : n.kind ≠ 3 → n.tag.toList = [] ∧ n.attrs = []
  attrs : n.kind = 3 → n.attrs.length ≤ 20 ∧ Apart n.attrs n.attrs.length
  txt : n.kind = 3 ∨ n.kind = 1 → n.text.toList = []

def NodeSays (n : NodeD) (z at_ : Nat) (b : Bool) : Prop := b = true → NodeOk n z at_
theorem nodeSays_false (n : NodeD) (z at_ : Nat) : NodeSays n z at_ false := by simp [NodeSays]

set_option maxRecDepth 100000 in
set_option maxHeartbeats 4000000 in
theorem rightNode_any (a : Option Addr) (len cap : Nat) (ts : List NodeD) (at_ : Nat) (w : World) (h : Nodes w a len ts) (hsz : ∀ j, j < len → Sz ts j) (h0 : sz ts 0 = len) (hlen : len ≤ 200) (hat : at_ < len) :
    Calls Try.prog 16 #[.slice a len cap, .int .i64 at_] w (SomeBoolB (NodeSays (ts.getD at_ default) (sz ts at_) at_) w) := by
  have hnest := nest_of h0 hsz (by omega)
  have hA : ∀ o, Nodes (w.alloc o) a len ts := fun o => h.below ((Below.refl _ _).alloc (Nat.le_refl _) o)
  obtain ⟨b, off, rfl, hc⟩ := h.at (by omega)
  have c := hc at_ hat
  have hsz1 := (hsz at_ hat).2.1
  have hbel : ∀ o, Below w.heap.size w (w.alloc o) := fun o => (Below.refl _ _).alloc (Nat.le_refl _) o
  have hroot := fun (o : Obj) => rightRoot_any _ len cap ts (w.alloc o) (hA o) hsz h0 hlen (by omega)
  have hpar := fun (w' : World) (hb : Below w.heap.size w w') => parent_any _ len cap ts at_ w' (h.below hb) hsz (fun j hj => hnest.fit j hj) hat
  generalize ts.getD at_ default = n at *
  obtain ⟨k, tag, text, aa, al, ac, attrs, size⟩ := n
  simp only at hsz1
  subst hsz1
  generalize sz ts at_ = z at *
  have c0 := c.kind
  have c1 := c.tag
  have c2 := c.text
  have c3 := c.attrs
  have c4 := c.size
  have hat2 := c.at_
  have hwt := c.wt
  simp only at c0 c1 c2 c3 c4 hat2 hwt
  have hattrs := fun (o : Obj) => rightAttrs_any aa al ac attrs (w.alloc o) (hat2.below (hbel o))
  have HROOT := Lib.hid hroot
  have HPAR := Lib.hid hpar
  have HATT := Lib.hid hattrs
  have HBEL := Lib.hid hbel
  have HAT := Lib.hid hat2
  have HWT := Lib.hid hwt
  clear hc c hnest h hA hbel hroot hpar hattrs hat2 hwt hsz h0
  by_cases h3 : k = 3
  · subst h3
    go_enter Try.func16, Try.ntmps16
    go_wp2_with fail
    refine (plain_any text _ HWT.out.2).mono ?_
    rintro e w' ⟨q, _, rfl, hw⟩
    rw [← hw]
    clear hw w'
    cases q
    · go_wp2
      go_ret
      exact ⟨_, nodeSays_false _ _ _, rfl, HBEL.out _⟩
    cases hte : text.toList.isEmpty
    · go_wp2
      go_ret
      exact ⟨_, nodeSays_false _ _ _, rfl, HBEL.out _⟩
    have HTE := Lib.hid (show text.toList = [] by simpa using hte)
    go_wp2_with fail
    refine (name_any tag _ HWT.out.1).mono ?_
    rintro e w' ⟨q, _, rfl, hw⟩
    rw [← hw]
    clear hw w'
    cases q
    · go_wp2
      go_ret
      exact ⟨_, nodeSays_false _ _ _, rfl, HBEL.out _⟩
    go_wp2_with fail
    refine (HATT.out _).mono ?_
    rintro e w' ⟨q, hq, rfl, hb⟩
    have HQ := Lib.hid (And.intro hq hb)
    clear hq hb
    go_wp2
    go_ret
    exact ⟨q, fun hqt => ⟨.inr (.inr (.inl rfl)), fun h => absurd rfl h, fun _ => HQ.out.1 hqt, fun _ => HTE.out⟩, rfl, (HBEL.out _).trans (HQ.out.2.mono (by simp))⟩
  have G3 := Lib.hid h3
  have g3 : (!(k == 3)) = true := by simp [h3]
  have g3' : (k == 3) = false := by simp [h3]
  clear h3
  cases hta : tag.toList.isEmpty
  · go_enter Try.func16, Try.ntmps16
    go_wp2
    go_ret
    exact ⟨_, nodeSays_false _ _ _, rfl, HBEL.out _⟩
  by_cases hal : 0 < al
  · go_enter Try.func16, Try.ntmps16
    go_wp2
    go_ret
    exact ⟨_, nodeSays_false _ _ _, rfl, HBEL.out _⟩
  have hal0 : attrs = [] := List.eq_nil_of_length_eq_zero (by rw [HAT.out.1]; omega)
  have htag : tag.toList = [] := by simpa using hta
  have HALL := Lib.hid (And.intro htag hal0)
  obtain rfl : al = 0 := by omega
  clear hal hal0 htag
  go_enter Try.func16, Try.ntmps16
  go_wp2_with fail
  refine (plain_any text _ HWT.out.2).mono ?_
  rintro e w' ⟨q, _, rfl, hw⟩
  rw [← hw]
  clear hw w'
  cases q
  · go_wp2
    go_ret
    exact ⟨_, nodeSays_false _ _ _, rfl, HBEL.out _⟩
  by_cases h1 : k = 1
  · subst h1
    by_cases ha : at_ = 0
    · subst ha
      cases hte : text.toList.isEmpty
      · go_wp2
        go_ret
        exact ⟨_, nodeSays_false _ _ _, rfl, HBEL.out _⟩
      have HTE := Lib.hid (show text.toList = [] by simpa using hte)
      go_wp2_with fail
      refine (HROOT.out _).mono ?_
      rintro e w' ⟨q, _, rfl, hb⟩
      have HB := Lib.hid hb
      clear hb
      go_wp2
      go_ret
      exact ⟨q, fun _ => ⟨.inl ⟨rfl, rfl⟩, fun _ => HALL.out, (fun h => by simp at h), fun _ => HTE.out⟩, rfl, (HBEL.out _).trans (HB.out.mono (by simp))⟩
    · have ga : ((at_ : Int) == 0) = false := by simp; omega
      go_wp2
      go_ret
      exact ⟨_, nodeSays_false _ _ _, rfl, HBEL.out _⟩
  have g1 : (k == 1) = false := by simp [h1]
  clear h1
  by_cases hz1 : z = 1
  · subst hz1
    by_cases h2 : k = 2
    · subst h2
      go_wp2_with fail
      refine (name_any text _ HWT.out.2).mono ?_
      rintro e w' ⟨q, _, rfl, hw⟩
      rw [← hw]
      clear hw w'
      cases q
      · go_wp2
        go_ret
        exact ⟨_, nodeSays_false _ _ _, rfl, HBEL.out _⟩
      go_wp2_with fail
      refine (HPAR.out _ (HBEL.out _)).mono ?_
      rintro e w' ⟨rfl, hw⟩
      rw [← hw]
      clear hw w'
      go_wp2
      go_ret
      exact ⟨_, fun _ => ⟨.inr (.inl ⟨rfl, rfl⟩), fun _ => HALL.out, (fun h => by simp at h), (fun h => by simp at h)⟩, rfl, HBEL.out _⟩
    have g2 : (k == 2) = false := by simp [h2]
    clear h2
    by_cases h4 : k = 4
    · subst h4
      go_wp2
      go_ret
      exact ⟨_, fun _ => ⟨.inr (.inr (.inr (.inl ⟨rfl, rfl⟩))), fun _ => HALL.out, (fun h => by simp at h), (fun h => by simp at h)⟩, rfl, HBEL.out _⟩
    have g4 : (k == 4) = false := by simp [h4]
    clear h4
    by_cases h5 : k = 5
    · subst h5
      go_wp2
      go_ret
      exact ⟨_, fun _ => ⟨.inr (.inr (.inr (.inr ⟨rfl, rfl⟩))), fun _ => HALL.out, (fun h => by simp at h), (fun h => by simp at h)⟩, rfl, HBEL.out _⟩
    have g5 : (k == 5) = false := by simp [h5]
    clear h5
    go_wp2
    go_ret
    exact ⟨_, nodeSays_false _ _ _, rfl, HBEL.out _⟩
  · have gz : ((z : Int) == 1) = false := by simp; omega
    clear hz1
    by_cases h2 : k = 2
    · subst h2
      go_wp2
      go_ret
      exact ⟨_, nodeSays_false _ _ _, rfl, HBEL.out _⟩
    have g2 : (k == 2) = false := by simp [h2]
    clear h2
    by_cases h4 : k = 4
    · subst h4
      go_wp2
      go_ret
      exact ⟨_, nodeSays_false _ _ _, rfl, HBEL.out _⟩
    have g4 : (k == 4) = false := by simp [h4]
    clear h4
    by_cases h5 : k = 5
    · subst h5
      go_wp2
      go_ret
      exact ⟨_, nodeSays_false _ _ _, rfl, HBEL.out _⟩
    have g5 : (k == 5) = false := by simp [h5]
    clear h5
    go_wp2
    go_ret
    exact ⟨_, nodeSays_false _ _ _, rfl, HBEL.out _⟩

end Go.Proofs.Ytikimffifkiinaa
