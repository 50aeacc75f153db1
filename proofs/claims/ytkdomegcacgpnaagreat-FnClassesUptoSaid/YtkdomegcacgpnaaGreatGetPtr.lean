/- goquery.getAttributePtr. -/
import Derived.Test.YtkdomegcacgpnaaGreatAttrPure
import Derived.Test.YtkdomegcacgpnaaGreatKnotAll
import Derived.Test.YtkdomegcacgpnaaGreatAloneAll
import Derived.Test.YtkdomegcacgpnaaGreatIntsAll
import Derived.Test.YtkdomegcacgpnaaGreatSegAll
namespace Go.Proofs.YtkdomegcacgpnaaGreat
open Go.RowKit
set_option linter.unusedVariables false
set_option linter.unusedSimpArgs false

theorem attrCells_set : ∀ (l : KVs) (k : Nat) (y : ByteArray), k < l.length → (attrCells l).set (k * 3 + 2) (.string y) = attrCells (l.set k ((l.getD k default).1, y)) := by
  intro l
  induction l with
  | nil => intro k y h; simp at h
  | cons x l ih =>
    intro k y h
    have hc : ∀ z (r : KVs), attrCells (z :: r) = [.string ByteArray.empty, .string z.1, .string z.2] ++ attrCells r := fun z r => by simp [attrCells]
    cases k with
    | zero => simp [hc]
    | succ k =>
      have h' : k < l.length := by simpa using h
      rw [hc, List.set_cons_succ, hc]
      rw [show (k + 1) * 3 + 2 = (k * 3 + 2) + 3 by omega]
      simp only [List.cons_append, List.nil_append, List.set_cons_succ, ih k y h', List.getD_cons_succ]

theorem nodeAt_below {w w' : World} {b : Nat} {r : NRec} (h : World.nodeAt w b r) (hb : Below w.heap.size w w') : World.nodeAt w' b r := by
  have hl := h.lt
  unfold World.nodeAt at h ⊢
  rw [hb.block b hl]
  exact h

/-- Where an attribute of a key lies. -/
def GapPost (g : Nat) (l : KVs) (key : ByteArray) (w : World) (e : Ending) (w' : World) : Prop :=
  ((e = .returned (.pointer none) ∧ NoneBefore l key l.length) ∨ ∃ k, k < l.length ∧ e = .returned (.pointer (some ⟨g, k * 3, none⟩)) ∧ NoneBefore l key k ∧ ((l.getD k default).1.toList == key.toList) = true) ∧ Hid (Below w.heap.size w w')

set_option maxRecDepth 100000 in
set_option maxHeartbeats 2000000 in
theorem getPtr_any (n g cap : Nat) (a : Option Addr) (r : NRec) (l : KVs) (key : ByteArray) (w : World) (hn : World.nodeAt w n r) (hv : r.attr = .slice a l.length cap) (hm : l.length ≤ 9223372036854775807) (ha : 0 < l.length → a = some ⟨g, 0, none⟩)
    (hc : ∀ i, i < l.length → w.cell? ⟨g, i * 3, none⟩ = some (.string ByteArray.empty) ∧ w.cell? ⟨g, i * 3 + 1, none⟩ = some (.string (l.getD i default).1) ∧ w.cell? ⟨g, i * 3 + 2, none⟩ = some (.string (l.getD i default).2)) :
    Calls Tryz.prog 71 #[.string key, .pointer (some ⟨n, 0, none⟩)] w (GapPost g l key w) := by
  have k9 := hn.attr
  rw [hv] at k9
  have HA := Lib.hid ha
  have HC := Lib.hid hc
  clear hn hv ha hc
  go_enter Tryz.func71, Tryz.ntmps71
  go_wp2
  go_loopw [14] (fun i wr => ∃ k : Nat, k ≤ l.length ∧ i = .int .i64 (k : Int) ∧ NoneBefore l key k ∧ Below w.heap.size w wr) (fun i _ => l.length - (intOf i).toNat)
  case atStart => exact ⟨0, by omega, by go_num, fun j hj => by omega, Below.refl _ _⟩
  case round =>
    obtain ⟨k, hk, rfl, hno, hbel⟩ := hrel
    have HBEL := Lib.hid hbel
    have HNO := Lib.hid hno
    clear hbel hno
    by_cases hlt : k < l.length
    · obtain rfl := HA.out (by omega)
      obtain ⟨c0, c1, c2⟩ := HC.out k hlt
      have c0 := cell_below HBEL.out c0
      have c1 := cell_below HBEL.out c1
      have c2 := cell_below HBEL.out c2
      have c9 := cell_below HBEL.out k9
      obtain ⟨x, hxx⟩ : ∃ x, (l.getD k default).1 = x := ⟨_, rfl⟩
      obtain ⟨y, hyy⟩ : ∃ y, (l.getD k default).2 = y := ⟨_, rfl⟩
      rw [hxx] at c1
      rw [hyy] at c2
      have hbo : ∀ o, Below w.heap.size w (wr.alloc o) := fun o => HBEL.out.alloc HBEL.out.size o
      have HBO := Lib.hid hbo
      have HX := Lib.hid hxx
      have hkI : (k : Int) < (l.length : Int) := by omega
      clear hxx hyy hbo
      cases hke : (x.toList == key.toList)
      · have HKE := Lib.hid (HNO.out.succ HX.out hke)
        go_wp2
        go_roundw
        case rel => exact ⟨k + 1, by omega, by go_num, HKE.out, HBO.out _⟩
        case measure => simp [intOf]; omega
      · have hke2 : ((l.getD k default).1.toList == key.toList) = true := by rw [HX.out]; exact hke
        have HKE := Lib.hid hke2
        have c9a := cell_alloc_old c9 (.cells #[.string ByteArray.empty, .string x, .string y] 119)
        clear hke2
        go_wp2
        go_ret
        exact ⟨.inr ⟨k, hlt, by simp [Addr.add], HNO.out, HKE.out⟩, Lib.hid (HBO.out _)⟩
    · obtain rfl : k = l.length := by omega
      go_wp2
      go_ret
      exact ⟨.inl ⟨rfl, HNO.out⟩, HBEL⟩

end Go.Proofs.YtkdomegcacgpnaaGreat
