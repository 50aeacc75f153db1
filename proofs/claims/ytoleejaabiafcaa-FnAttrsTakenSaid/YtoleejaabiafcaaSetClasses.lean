/- goquery.setClasses, of an element. -/
import Derived.Test.YtoleejaabiafcaaGetClasses
import Derived.Test.YtoleejaabiafcaaRemoveAttrAll
import Derived.Test.YtoleejaabiafcaaTrimAll
namespace Go.Proofs.Ytoleejaabiafcaa
open Go.RowKit
set_option linter.unusedVariables false
set_option linter.unusedSimpArgs false

/-- The attributes when a text of classes has been laid at a place. -/
def Sets (l : KVs) (k : Nat) (c : List UInt8) (l2 : KVs) : Prop :=
  (bareL c = [] ∧ RemC l l2) ∨ ∃ r : ByteArray, r.data.toList = bareL c ∧ bareL c ≠ [] ∧ l2 = l.set k ((l.getD k default).1, r)

def ScPost (g : Nat) (l : KVs) (k : Nat) (c : ByteArray) (w : World) (e : Ending) (w' : World) : Prop :=
  ∃ v l2, e = .returned (.tuple #[]) ∧ Hid (Sets l k c.data.toList l2) ∧ Hid (World.nodeAt w' g (elemR v)) ∧ Hid (w'.ownsRow (g + 1) 123 3 v l2.length (attrCells l2)) ∧ Hid (Below g w w')

set_option maxRecDepth 100000 in
set_option maxHeartbeats 4000000 in
theorem setClasses_any (g gr k cap : Nat) (l : KVs) (c : ByteArray) (w : World) (hn : World.nodeAt w g (elemR (.slice (some ⟨gr, 0, none⟩) l.length cap))) (ho : w.ownsRow (g + 1) 123 3 (.slice (some ⟨gr, 0, none⟩) l.length cap) l.length (attrCells l)) (hk : k < l.length) (hl : l.length ≤ 100) (hs : c.size ≤ 4611686018427387904) (ha : ∀ i (h : i < c.size), (c[i]'h).toNat < 128 ∧ (c[i]'h).toNat ≠ 11) :
    Calls Try.prog 96 #[.pointer (some ⟨g, 0, none⟩), .pointer (some ⟨gr, k * 3, none⟩), .string c] w (ScPost g l k c w) := by
  have ht := trim_any c w hs ha
  have HT := Lib.hid ht
  have HN := Lib.hid hn
  have HO := Lib.hid ho
  clear ht hn ho ha
  go_enter Try.func96, Try.ntmps96
  go_wp2_with fail
  refine HT.out.mono ?_
  rintro e w1 ⟨r, rfl, hr, hrs, hb1⟩
  have hlt := HN.out.lt
  have n1 := nodeAt_below HN.out hb1
  have o1 := ownsRow_kept HO.out (fun k hk => hb1.block k (World.ownsRow.lt HO.out k hk).2)
  have HB1 := Lib.hid (hb1.mono (Nat.le_of_lt hlt))
  have HR := Lib.hid hr
  have hsz := hb1.size
  have HSZ := Lib.hid hsz
  clear hb1 hr hrs hsz
  cases hE : r.toList.isEmpty
  · have hrow : w1.frozen? ⟨gr, k * 3 + 2, none⟩ = false := by
      rcases o1.2 with ⟨h1, _⟩ | ⟨g', cap', cur, hv, hb, hg, hn, hm, hcs, ht⟩
      · simp at h1
      · simp at hv
        obtain ⟨rfl, rfl⟩ := hv
        simp [World.frozen?, hg]
    obtain ⟨_, _, g', hvv, _, hga, hc⟩ := attr_open o1
    simp at hvv
    have hgg : gr = g' := by
      have h3 := hga (by omega)
      rw [← hvv.1] at h3
      simpa using h3
    subst hgg
    have c2 := (hc k hk).2.2
    have hgr := (World.ownsRow.lt o1 gr rfl).1
    have hst2 : (w1.setCell ⟨gr, k * 3 + 2, none⟩ (.string r)).ownsRow (g + 1) 123 3 (.slice (some ⟨gr, 0, none⟩) l.length cap) l.length ((attrCells l).set (k * 3 + 2) (.string r)) := ownsRow_set o1 (by omega) (.string r)
    have hb1' : ∀ B, B ≤ g + 1 → ∀ W, Below B W w1 → Below B W (w1.setCell ⟨gr, k * 3 + 2, none⟩ (.string r)) := fun B hB W h => Below.setCell (p := ⟨gr, k * 3 + 2, none⟩) h (by show B ≤ gr; omega) (.string r)
    have hnd : World.nodeAt (w1.setCell ⟨gr, k * 3 + 2, none⟩ (.string r)) g (elemR (.slice (some ⟨gr, 0, none⟩) l.length cap)) := by
      have hn0 := n1
      unfold World.nodeAt at hn0 ⊢
      rw [(hb1' (g + 1) (Nat.le_refl _) w1 (Below.refl _ _)).block g (by omega)]
      exact hn0
    rw [attrCells_set l k r hk] at hst2
    have HST := Lib.hid (And.intro hst2 (And.intro (hb1' g (by omega) w HB1.out) hnd))
    have hne : bareL c.data.toList ≠ [] := by
      intro h
      rw [← HR.out] at h
      have := size_pos hE
      rw [size_list, h] at this
      simp at this
    have HNE := Lib.hid hne
    clear o1 hvv hga hc hst2 hb1' hnd n1 hgr hne hlt
    go_wp2
    go_end0
    refine ⟨_, l.set k ((l.getD k default).1, r), rfl, Lib.hid (.inr ⟨r, HR.out, HNE.out, rfl⟩), Lib.hid HST.out.2.2, ?_, Lib.hid HST.out.2.1⟩
    rw [List.length_set]
    exact Lib.hid HST.out.1
  · have hrem := removeAttr_any (g + 1) g _ l w1 n1 o1 hl
    have HREM := Lib.hid hrem
    have hb0 := HR.out
    rw [nil_of hE] at hb0
    have HB0 := Lib.hid hb0.symm
    clear hrem n1 o1 hb0 hlt
    go_wp2_with fail
    refine HREM.out.mono ?_
    rintro e w2 ⟨v', l', rfl, hu⟩
    go_wp2
    go_end0
    exact ⟨v', l', rfl, Lib.hid (.inl ⟨HB0.out, hu.out.rem⟩), Lib.hid hu.out.node, Lib.hid hu.out.own, Lib.hid (HB1.out.trans (hu.out.bel g (by omega) (Nat.le_refl _)))⟩

end Go.Proofs.Ytoleejaabiafcaa
