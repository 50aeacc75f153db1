/- placeOf, placesOf; SameList. -/
import Derived.Test.YtphppdbhofeagaaGreatChosen
import Derived.StillTailTactics
import Derived.Test.YtphppdbhofeagaaGreatPlaceAll
namespace Go.Proofs.YtphppdbhofeagaaGreat
open Go.RowKit
set_option linter.unusedVariables false
set_option linter.unusedSimpArgs false

/-- A tree's row of pointers, as a slice. -/
theorem Forest.ptrs {B : Nat} {w : World} {bl len : Nat} {nb : Nat → Nat} {v : Nat → Value} {ts : List NodeD} (h : Forest B w bl len nb v ts) {p : Nat} (hp : p < len) : ∀ i, i < len → i ≠ p → nb i ≠ nb p :=
  fun i hi hne he => hne (h.seg.inj i p (Nat.zero_le _) hi (Nat.zero_le _) hp he)

set_option maxRecDepth 100000 in
set_option maxHeartbeats 1000000 in
theorem placeOf_any (bl len lcap : Nat) (nb : Nat → Nat) (p : Nat) (w : World) (hrow : ∀ i, i < len → w.cell? ⟨bl, i, none⟩ = some (.pointer (some ⟨nb i, 0, none⟩))) (hal : ∀ i, i < len → Alive w (nb i)) (hinj : ∀ i, i < len → i ≠ p → nb i ≠ nb p) (hp : p < len) (hlen : len ≤ 200) :
    Calls Tryz.prog 66 #[.slice (some ⟨bl, 0, none⟩) len lcap, .pointer (some ⟨nb p, 0, none⟩)] w (IntPost (p : Int) w) := by
  have HR := Lib.hid hrow
  have HAL := Lib.hid hal
  have HI := Lib.hid hinj
  clear hrow hal hinj
  go_enter Tryz.func66, Tryz.ntmps66
  go_wp2
  go_loop [8] (fun i => ∃ k : Nat, k ≤ p ∧ i = .int .i64 (k : Int)) (fun i => len - (intOf i).toNat)
  case atStart => exact ⟨0, by omega, by go_num⟩
  case round =>
    obtain ⟨k, hk, rfl⟩ := hrel
    have hlt : k < len := by omega
    have ck := HR.out k hlt
    have hkI : (k : Int) < (len : Int) := by omega
    by_cases he : k = p
    · subst he
      have heq := eql_same w (nb k)
      go_wp2
      go_ret
      exact ⟨rfl, rfl⟩
    · have hne := HI.out k hlt he
      have heq := eql_other (HAL.out k hlt) (HAL.out p hp) hne
      obtain ⟨x, hx⟩ : ∃ x, nb k = x := ⟨_, rfl⟩
      rw [hx] at ck hne heq
      have H := Lib.hid he
      clear he hne hx
      go_wp2
      go_round
      case rel => exact ⟨k + 1, by have := H.out; omega, by go_num⟩
      case measure => simp [intOf]; omega

theorem ownInts_any_snoc {w1 : World} {B : Nat} {v' : Value} {done : List Nat} {k : Nat} (h : w1.ownsRow B 3 1 v' (done.length + 1) (List.map intV done ++ [.int .i64 (k : Int)])) :
    w1.ownsRow B 3 1 v' (done ++ [k]).length ((done ++ [k]).map intV) := by
  simpa [intV] using h

/-- A slice of places, of the call's own. -/
def OwnPl (w : World) (B : Nat) (v : Value) (l : List Nat) : Prop := w.ownsRow B 3 1 v l.length (l.map intV)
theorem OwnPl.reads {w : World} {B : Nat} {v : Value} {l : List Nat} (h : OwnPl w B v l) : ReadsAs w v (l.map intV) := owns_reads (l := l.map intV) (by simpa [OwnPl] using h)

def OwnPlPost (l : List Nat) (w : World) (e : Ending) (w' : World) : Prop := ∃ v, e = .returned v ∧ Hid (OwnPl w' w.heap.size v l) ∧ Hid (Below w.heap.size w w')

set_option maxRecDepth 100000 in
set_option maxHeartbeats 1000000 in
theorem placesOf_any {B : Nat} (w : World) (bl len lcap : Nat) (nb : Nat → Nat) (vv : Nat → Value) (ts : List NodeD) (hF : Forest B w bl len nb vv ts) (hlen : len ≤ 200) (v : Value) (l : List Nat) (h : PtrsOf w v (l.map nb)) (hin : ∀ i ∈ l, i < len) (hn : l.length ≤ 200) :
    Calls Tryz.prog 29 #[.slice (some ⟨bl, 0, none⟩) len lcap, v] w (OwnPlPost l w) := by
  obtain ⟨a, cap, b, off, rfl, hm, ha, hc⟩ := ptrs_open h
  rw [List.length_map] at hm ha hc ⊢
  have hc' : ∀ i, i < l.length → w.cell? ⟨b, off + i, none⟩ = some (.pointer (some ⟨nb (l.getD i 0), 0, none⟩)) := fun i hi => by
    rw [hc i hi]
    simp [List.getD, hi]
  have HA := Lib.hid ha
  have HC := Lib.hid hc'
  have HF := Lib.hid hF
  have HIN := Lib.hid hin
  clear h ha hc hc' hin hF
  obtain ⟨i0, hi, hz0, hz1, hz2⟩ := info_parts Tryz.infoInt
  go_enter Tryz.func29, Tryz.ntmps29
  go_wp2
  go_loopw [5, 10] (fun x i wr => ∃ (k : Nat) (done : List Nat), i = .int .i64 k ∧ k ≤ l.length ∧ done.length = k ∧ l.take k = done ∧ OwnPl wr w.heap.size x done ∧ Below w.heap.size w wr)
    (fun _ i _ => l.length - (intOf i).toNat)
  case atStart => exact ⟨0, [], by go_num, by omega, rfl, rfl, World.ownsRow_nil _ _ _ _, Below.refl _ _⟩
  case round =>
    obtain ⟨k, done, rfl, hk, hdl, hdone, hown, hbel⟩ := hrel
    have HDONE := Lib.hid hdone
    have HOWN := Lib.hid hown
    have HBEL := Lib.hid hbel
    clear hdone hown hbel
    by_cases hlt : k < l.length
    · obtain rfl := HA.out (by omega)
      have ck := cell_below HBEL.out (HC.out k hlt)
      have htk := take_snoc hlt
      have hx := HIN.out _ (getD_mem' (d := 0) hlt)
      obtain ⟨x, hxx⟩ : ∃ x, l.getD k 0 = x := ⟨_, rfl⟩
      rw [hxx] at ck htk hx
      have hFr := HF.out.below HBEL.out
      have hpl := placeOf_any bl len lcap nb x wr (fun i hi => hFr.cell hi) (fun i hi => (hFr.node hi).alive) (hFr.ptrs hx) hx hlen
      have hown' : wr.ownsRow w.heap.size 3 1 u5 done.length (done.map intV) := HOWN.out
      have HTK := Lib.hid htk
      have HPL := Lib.hid hpl
      clear htk hxx hpl hFr hx
      go_wp2_with fail
      refine HPL.out.mono ?_
      rintro e w1 ⟨rfl, rfl⟩
      go_wp2_with (at_builtin; refine wpList_append_own _ rfl _ _ 23 rfl w.heap.size 3 i0 (.int .i64 0) 1 8 Tryz.underlying23 hi hz0 hz1 hz2 rfl (by decide) _ _ _ rfl (hown'.alloc _) ⟨wr.heap.size, 0, none⟩ 1 1 [.int .i64 (x : Int)] rfl rfl ?c1 ?c2 ?c3 ?c4 ?c5 ?_)
      case c1 =>
        intro j u hj
        match j, hj with
        | 0, hj => simp at hj; subst hj; simp [Addr.add]
      case c2 => intro u hu; simp at hu; subst hu; rfl
      case c3 => unfold maxLen; omega
      case c4 => omega
      case c5 => have := HBEL.out.size; simp; omega
      intro v' w1 hown2 hgrow _
      have hbel2 : Below w.heap.size w w1 := (HBEL.out.alloc HBEL.out.size _).grown hgrow (by have := HBEL.out.size; simp; omega) (fun q hq => (World.ownsRow.lt hown' q hq).1)
      rw [← hdl] at hown2
      have hsn := ownInts_any_snoc (k := x) hown2
      have H1 := Lib.hid (And.intro hsn hbel2)
      clear hown2 hgrow hbel2 hsn hown' ck HPL
      go_wp2
      go_roundw
      case rel =>
        exact ⟨k + 1, done ++ [x], by go_num, by omega, by simp; omega, by rw [HTK.out, HDONE.out], H1.out.1, H1.out.2⟩
      case measure => simp [intOf]; omega
    · obtain rfl : k = l.length := by omega
      have hdone := HDONE.out
      rw [List.take_length] at hdone
      have HO : Hid (OwnPl wr w.heap.size u5 l) := by rw [hdone]; exact HOWN
      clear hdone hlt HDONE
      go_wp2
      go_ret
      exact ⟨_, rfl, HO, HBEL⟩

theorem ints_open {w : World} {v : Value} {l : List Nat} (h : ReadsAs w v (l.map intV)) : ∃ a cap b off, v = .slice a l.length cap ∧ l.length ≤ 9223372036854775807 ∧ (0 < l.length → a = some ⟨b, off, none⟩) ∧ ∀ i, i < l.length → w.cell? ⟨b, off + i, none⟩ = some (.int .i64 ((l.getD i 0 : Nat) : Int)) := by
  obtain ⟨a, cap, rfl, hm⟩ := h.nil
  have hl : (l.map intV).length = l.length := by simp
  rw [hl] at hm h ⊢
  by_cases h0 : 0 < l.length
  · obtain ⟨b, off, cap', he, _, hc⟩ := h.at (by simpa using h0)
    simp at he
    exact ⟨a, cap, b, off, rfl, hm, fun _ => he.1, int_cells hc⟩
  · exact ⟨a, cap, 0, 0, rfl, hm, fun h => absurd h h0, fun i hi => by omega⟩

set_option maxRecDepth 100000 in
set_option maxHeartbeats 1000000 in
/-- Two slices of the same numbers. -/
theorem sameList_any (v1 v2 : Value) (l : List Nat) (w : World) (h1 : ReadsAs w v1 (l.map intV)) (h2 : ReadsAs w v2 (l.map intV)) :
    Calls Tryz.prog 16 #[v1, v2] w (YesB w) := by
  obtain ⟨a1, cap1, b1, off1, rfl, hm, ha1, hc1⟩ := ints_open h1
  obtain ⟨a2, cap2, b2, off2, rfl, _, ha2, hc2⟩ := ints_open h2
  have HA1 := Lib.hid ha1
  have HC1 := Lib.hid hc1
  have HA2 := Lib.hid ha2
  have HC2 := Lib.hid hc2
  clear h1 h2 ha1 ha2 hc1 hc2
  have gl : ((l.length : Int) != (l.length : Int)) = false := by simp
  go_enter Tryz.func16, Tryz.ntmps16
  go_wp2
  go_loopw [5] (fun i wr => ∃ k : Nat, k ≤ l.length ∧ i = .int .i64 (k : Int) ∧ Below w.heap.size w wr) (fun i _ => l.length - (intOf i).toNat)
  case atStart => exact ⟨0, by omega, by go_num, Below.refl _ _⟩
  case round =>
    obtain ⟨k, hk, rfl, hbel⟩ := hrel
    have HBEL := Lib.hid hbel
    clear hbel
    by_cases hlt : k < l.length
    · obtain rfl := HA1.out (by omega)
      obtain rfl := HA2.out (by omega)
      have ck1 := cell_below HBEL.out (HC1.out k hlt)
      have ck2 := cell_below HBEL.out (HC2.out k hlt)
      obtain ⟨x, hx⟩ : ∃ x, l.getD k 0 = x := ⟨_, rfl⟩
      rw [hx] at ck1 ck2
      have hkI : (k : Int) < (l.length : Int) := by omega
      have gx : ((x : Int) != (x : Int)) = false := by simp
      clear hx
      go_wp2
      go_quiet (fail)
      go_wp2
      go_roundw
      case rel => exact ⟨k + 1, by omega, by go_num, below_drewN HBEL.out _⟩
      case measure => simp [intOf]; omega
    · obtain rfl : k = l.length := by omega
      go_wp2
      go_ret
      exact ⟨rfl, HBEL.out⟩

end Go.Proofs.YtphppdbhofeagaaGreat
