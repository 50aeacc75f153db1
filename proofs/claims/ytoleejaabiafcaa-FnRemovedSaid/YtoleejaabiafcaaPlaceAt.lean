/- impl.placeOf, impl.placesOf: where nodes are among others; -1 where none. -/
import Derived.Test.YtoleejaabiafcaaSelBase
import Derived.Test.YtoleejaabiafcaaInts
import Derived.Test.YtoleejaabiafcaaWoodAll
namespace Go.Proofs.Ytoleejaabiafcaa
open Go.RowKit
set_option linter.unusedVariables false
set_option linter.unusedSimpArgs false

set_option maxRecDepth 100000 in
set_option maxHeartbeats 1000000 in
theorem placeAt_any (v : Value) (l : List Nat) (p : Nat) (w : World) (h : PtrsOf w v l) (hal : ∀ i, i < l.length → Alive w (l.getD i 0)) (hp : Alive w p) :
    Calls Try.prog 115 #[v, .pointer (some ⟨p, 0, none⟩)] w (IntPost (findI l p) w) := by
  obtain ⟨a, cap, b, off, rfl, hm, ha, hc⟩ := ptrs_open h
  have HA := Lib.hid ha
  have HC := Lib.hid hc
  have HAL := Lib.hid hal
  have HP := Lib.hid hp
  clear h ha hc hal hp
  go_enter Try.func115, Try.ntmps115
  go_wp2
  go_loop [8] (fun i => ∃ k : Nat, k ≤ l.length ∧ i = .int .i64 (k : Int) ∧ findAt l p (l.length - k) = findI l p) (fun i => l.length - (intOf i).toNat)
  case atStart => exact ⟨0, by omega, by go_num, rfl⟩
  case round =>
    obtain ⟨k, hk, rfl, hf⟩ := hrel
    have HF := Lib.hid hf
    clear hf
    by_cases hlt : k < l.length
    · have hcur := HC.out k hlt
      obtain rfl := HA.out (by omega)
      have hkI : (k : Int) < (l.length : Int) := by omega
      by_cases he : l.getD k 0 = p
      · rw [he] at hcur
        have heq := eql_same w p
        go_wp2
        go_ret
        have := HF.out
        rw [findAt_step hlt, if_pos he] at this
        rw [← this]
        exact ⟨rfl, rfl⟩
      · obtain ⟨x, hx⟩ : ∃ x, l.getD k 0 = x := ⟨_, rfl⟩
        rw [hx] at hcur he
        have heq := eql_other (by rw [← hx]; exact HAL.out k hlt) HP.out he
        have HX := Lib.hid (And.intro hx he)
        clear hx he
        go_wp2
        go_round
        case rel => exact ⟨k + 1, by omega, by go_num, by
            have := HF.out
            rw [findAt_step hlt, HX.out.1, if_neg HX.out.2] at this
            exact this⟩
        case measure => simp [intOf]; omega
    · obtain rfl : k = l.length := by omega
      have hf := HF.out
      go_wp2
      go_ret
      simp only [Nat.sub_self, findAt] at hf
      rw [← hf]
      exact ⟨rfl, rfl⟩

/-- Integers of the call's own. -/
def OwnZ (w : World) (B : Nat) (v : Value) (l : List Int) : Prop := w.ownsRow B 3 1 v l.length (l.map intZ)
def OwnZPost (l : List Int) (w : World) (e : Ending) (w' : World) : Prop := ∃ v, e = .returned v ∧ Hid (OwnZ w' w.heap.size v l) ∧ Hid (Below w.heap.size w w')

theorem ownZ_snoc {w1 : World} {B : Nat} {v' : Value} {done : List Int} {z : Int} (h : w1.ownsRow B 3 1 v' (done.length + 1) (List.map intZ done ++ [.int .i64 z])) : OwnZ w1 B v' (done ++ [z]) := by
  unfold OwnZ
  simpa [intZ] using h

set_option maxRecDepth 100000 in
set_option maxHeartbeats 1000000 in
theorem placesAt_any (vl : Value) (L : List Nat) (v : Value) (l : List Nat) (w : World) (hL : PtrsOf w vl L) (hLa : ∀ i, i < L.length → Alive w (L.getD i 0)) (h : PtrsOf w v l) (hla : ∀ i, i < l.length → Alive w (l.getD i 0)) (hn : l.length ≤ 200) :
    Calls Try.prog 79 #[vl, v] w (OwnZPost (l.map fun p => findI L p) w) := by
  obtain ⟨a, cap, b, off, rfl, hm, ha, hc⟩ := ptrs_open h
  obtain ⟨aL, capL, _, _, hvl, _⟩ := ptrs_open hL
  subst hvl
  have HA := Lib.hid ha
  have HC := Lib.hid hc
  have HL := Lib.hid (And.intro hL (And.intro hLa hla))
  clear h ha hc hL hLa hla
  obtain ⟨i0, hi, hz0, hz1, hz2⟩ := info_parts Try.infoInt
  go_enter Try.func79, Try.ntmps79
  go_wp2
  go_loopw [5, 10] (fun x i wr => ∃ (k : Nat) (done : List Int), i = .int .i64 k ∧ k ≤ l.length ∧ done.length = k ∧ (l.take k).map (fun p => findI L p) = done ∧ OwnZ wr w.heap.size x done ∧ Below w.heap.size w wr)
    (fun _ i _ => l.length - (intOf i).toNat)
  case atStart => exact ⟨0, [], by go_num, by omega, rfl, rfl, World.ownsRow_nil _ _ _ _, Below.refl _ _⟩
  case round =>
    obtain ⟨k, done, rfl, hk, hdl, hdone, hown, hbel⟩ := hrel
    have HDONE := Lib.hid hdone
    have HOWN := Lib.hid hown
    have HBEL := Lib.hid hbel
    clear hdone hown hbel
    by_cases hlt : k < l.length
    · obtain rfl := HA.out (by omega)
      have ck := cell_below HBEL.out (HC.out k hlt)
      have htk := take_snoc hlt
      have hx := HL.out.2.2 k hlt
      obtain ⟨x, hxx⟩ : ∃ x, l.getD k 0 = x := ⟨_, rfl⟩
      rw [hxx] at ck htk hx
      have hpl := placeAt_any _ L x wr (HL.out.1.below HBEL.out) (fun i hi => (HL.out.2.1 i hi).below HBEL.out) (hx.below HBEL.out)
      obtain ⟨z, hz⟩ : ∃ z, findI L x = z := ⟨_, rfl⟩
      rw [hz] at hpl
      have hown' : wr.ownsRow w.heap.size 3 1 u5 done.length (done.map intZ) := HOWN.out
      have HTK := Lib.hid (And.intro htk hz)
      have HPL := Lib.hid hpl
      have hkI : (k : Int) < (l.length : Int) := by omega
      clear htk hxx hpl hx hz
      go_wp2_with fail
      refine HPL.out.mono ?_
      rintro e w1 ⟨rfl, rfl⟩
      go_wp2_with (at_builtin; refine wpList_append_own _ rfl _ _ 23 rfl w.heap.size 3 i0 (.int .i64 0) 1 8 Try.underlying23 hi hz0 hz1 hz2 rfl (by decide) _ _ _ rfl (hown'.alloc _) ⟨wr.heap.size, 0, none⟩ 1 1 [.int .i64 z] rfl rfl ?c1 ?c2 ?c3 ?c4 ?c5 ?_)
      case c1 =>
        intro j u hj
        match j, hj with
        | 0, hj => simp at hj; subst hj; simp [Addr.add]
      case c2 => intro u hu; simp at hu; subst hu; rfl
      case c3 => unfold maxLen; omega
      case c4 => omega
      case c5 => have := HBEL.out.size; simp; omega
      intro v' w1 hown2 hgrow _
      have hbel2 : Below w.heap.size w w1 := (HBEL.out.alloc HBEL.out.size _).grown hgrow (by have := HBEL.out.size; simp; omega) (fun q hq => (World.ownsRow.lt hown' q hq).1)
      rw [← hdl] at hown2
      have hsn := ownZ_snoc (z := z) hown2
      have H1 := Lib.hid (And.intro hsn hbel2)
      clear hown2 hgrow hbel2 hsn hown' ck HPL
      go_wp2
      go_roundw
      case rel =>
        exact ⟨k + 1, done ++ [z], by go_num, by omega, by simp; omega, by rw [HTK.out.1, List.map_append, HDONE.out, ← HTK.out.2]; rfl, H1.out.1, H1.out.2⟩
      case measure => simp [intOf]; omega
    · obtain rfl : k = l.length := by omega
      have hdone := HDONE.out
      rw [List.take_length] at hdone
      have HO : Hid (OwnZ wr w.heap.size u5 (l.map fun p => findI L p)) := by rw [hdone]; exact HOWN
      clear hdone hlt HDONE
      go_wp2
      go_ret
      exact ⟨_, rfl, HO, HBEL⟩

/-- Where nodes of a forest are, by its order. -/
theorem find_pos {nb : Nat → Nat} {n : Nat} (hinj : ∀ i j, i < n → j < n → nb i = nb j → i = j) {L : List Nat} (hd : L.Nodup) (hlt : ∀ y ∈ L, y < n) {i : Nat} (hi : i < n) : findI (L.map nb) (nb i) = posFrom L 0 i := by
  have key : ∀ (l : List Nat) (N : Nat), i ∈ l → ∃ k, k < l.length ∧ l.getD k 0 = i ∧ posFrom l N i = ((N + k : Nat) : Int) := by
    intro l
    induction l with
    | nil => intro N h; cases h
    | cons y r ih =>
      intro N h
      by_cases e : y = i
      · exact ⟨0, by simp, by simpa using e, by simp [posFrom, e]⟩
      · obtain ⟨k, h1, h2, h3⟩ := ih (N + 1) (by
          rcases List.mem_cons.1 h with h | h
          · exact absurd h.symm e
          · exact h)
        refine ⟨k + 1, by simp; omega, by simpa using h2, ?_⟩
        simp only [posFrom, if_neg e]
        rw [h3]
        congr 1
        omega
  have hget : ∀ j, j < L.length → (L.map nb).getD j 0 = nb (L.getD j 0) := fun j hj => by simp [List.getD, hj]
  by_cases hm : i ∈ L
  · obtain ⟨k, h1, h2, h3⟩ := key L 0 hm
    rw [h3, Nat.zero_add]
    refine findI_some (by simpa using h1) (by rw [hget k h1, h2]) (fun j hj he => ?_)
    have hj' : j < L.length := by simpa using hj
    rw [hget j hj'] at he
    have e := hinj _ _ (hlt _ (getD_mem' hj')) hi he
    rw [← h2] at e
    simp only [List.getD_eq_getElem?_getD, List.getElem?_eq_getElem hj', List.getElem?_eq_getElem h1, Option.getD_some] at e
    exact (List.getElem_inj hd).1 e
  · rw [posFrom_not _ _ hm]
    refine findI_none (fun h => ?_)
    obtain ⟨y, hy, he⟩ := List.mem_map.1 h
    have := hinj _ _ (hlt y hy) hi he
    subst this
    exact hm hy

end Go.Proofs.Ytoleejaabiafcaa
