/- goquery's Selection.Parent; impl.ParentOf. -/
import Derived.Test.YtobnglgnoflbnaaParNodes
import Derived.Test.YtobnglgnoflbnaaPlacesOf
namespace Go.Proofs.Ytobnglgnoflbnaa
open Go.RowKit
set_option linter.unusedVariables false
set_option linter.unusedSimpArgs false

set_option maxRecDepth 100000 in
set_option maxHeartbeats 1000000 in
theorem selParent_any {B B' : Nat} (s : Nat) (v : Value) (l : List Nat) (w : World) (bl len : Nat) (nb : Nat → Nat) (vv : Nat → Value) (ts : List NodeD) (hs : SelAt w s v (l.map nb) B) (hF : Forest B' w bl len nb vv ts) (hR : RightT ts len)
    (hin : ∀ i ∈ l, i < len) (hn : l.length ≤ 200) :
    Calls Try.prog 67 #[.pointer (some ⟨s, 0, none⟩)] w (SelPost ((onceF (parList ts l)).map nb) w) := by
  have hp := parNodes_any v l w bl len nb vv ts hF hR hs.own.ptrs hin hn
  obtain ⟨L, hL⟩ : ∃ L, (onceF (parList ts l)).map nb = L := ⟨_, rfl⟩
  rw [hL] at hp ⊢
  obtain ⟨d, hd⟩ := hs.doc
  have c0 := hs.nodes
  have HP := Lib.hid hp
  have HD := Lib.hid hd
  clear hp hs hF hR hd hL hin
  go_enter Try.func67, Try.ntmps67
  go_wp2_with fail
  refine HP.out.mono ?_
  rintro e w1 ⟨v', rfl, ho, hb⟩
  have c1' := cell_below hb.out HD.out
  have c0' := cell_below hb.out c0
  obtain ⟨a', cap', hv, _⟩ := ho.out.ptrs.nil
  rw [List.length_map] at hv
  subst hv
  clear HP HD
  go_wp2
  go_ret
  refine ⟨w1.heap.size, .slice a' L.length cap', rfl, Lib.hid ⟨?_, ⟨d, ?_⟩, ?_, hb.out.size⟩, Lib.hid ?_⟩
  · exact cell_alloc_new' _ _ _ (by simp) rfl
  · exact cell_alloc_new' _ _ _ (by simp) rfl
  · exact ho.out.alloc _
  · exact hb.out.alloc hb.out.size _

def ParentPost (l : List Nat) (w : World) (e : Ending) (w' : World) : Prop := ∃ v, e = .returned (.tuple #[v, .bool true]) ∧ Hid (OwnPl w' w.heap.size v l) ∧ Hid (Below w.heap.size w w')

set_option maxRecDepth 100000 in
set_option maxHeartbeats 1000000 in
theorem implParentOf_any (W : World) (a : Option Addr) (len cap : Nat) (ts : List NodeD) (hR : RightT ts len) (hN : Nodes W a len ts) (v1 : Value) (l1 : List Nat) (r1 : ReadsAs W v1 (l1.map intV))
    (i1 : ∀ i ∈ l1, i < len) (o1 : Once l1) (n1 : l1.length ≤ 200) :
    Calls Try.prog 30 #[.slice a len cap, v1] W (ParentPost (onceF (parList ts l1)) W) := by
  have hlen := hR.le
  have hch := chosen_any W a len cap ts hR hN v1 l1 r1 i1 o1 n1
  have hsel := fun (B B' s : Nat) (v : Value) (w : World) (bl : Nat) (nb : Nat → Nat) (vv : Nat → Value) (hs : SelAt w s v (l1.map nb) B) (hF : Forest B' w bl len nb vv ts) => selParent_any s v l1 w bl len nb vv ts hs hF hR i1 n1
  obtain ⟨K, hK⟩ : ∃ K, onceF (parList ts l1) = K := ⟨_, rfl⟩
  have hKm : ∀ i ∈ K, i < len := fun i hi => parList_lt i1 (onceF_mem.1 (by rw [hK]; exact hi))
  have hKn : K.length ≤ 200 := by
    rw [← hK]
    have h1 := once_len (l := parList ts l1)
    have h2 := parList_len (ts := ts) (l := l1)
    omega
  rw [hK] at hsel ⊢
  have HKM := Lib.hid hKm
  have HCH := Lib.hid hch
  have HSEL := Lib.hid hsel
  clear hR hN hch r1 i1 o1 hK hKm hsel
  go_enter Try.func30, Try.ntmps30
  go_wp2_with fail
  refine HCH.out.mono ?_
  rintro e w1 ⟨bl, nb, vv, s, v, rfl, hF, hs, hb⟩
  have hsp := HSEL.out _ _ s v w1 bl nb vv hs.out hF.out
  have HSP := Lib.hid hsp
  clear hsp HCH HSEL
  go_wp2_with fail
  refine HSP.out.mono ?_
  rintro e w3 ⟨s3, v3, rfl, hs3, hb3⟩
  have hF3 := hF.out.below hb3.out
  have c0 := hs3.out.nodes
  have hpl := placesOf_any w3 bl len len nb vv ts hF3 hlen v3 K hs3.out.own.ptrs HKM.out hKn
  have HPL := Lib.hid hpl
  have HB03 := Lib.hid (hb.out.trans (hb3.out.mono hb.out.size))
  clear hpl hF3 hs3 hb3 HSP hF hs hb
  go_wp2_with fail
  refine HPL.out.mono ?_
  rintro e w4 ⟨v4, rfl, ho4, hb4⟩
  have hfin := Lib.hid (HB03.out.trans (hb4.out.mono HB03.out.size))
  have hown : Hid (OwnPl w4 W.heap.size v4 K) := Lib.hid (ownsRow_base ho4.out HB03.out.size)
  clear HPL ho4 hb4
  go_wp2
  go_ret2
  exact ⟨v4, rfl, hown, hfin⟩

end Go.Proofs.Ytobnglgnoflbnaa
