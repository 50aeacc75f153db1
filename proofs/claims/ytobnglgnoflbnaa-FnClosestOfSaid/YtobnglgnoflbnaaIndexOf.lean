/- IndexOfSelection. -/
import Derived.Test.YtobnglgnoflbnaaChosen
import Derived.StillTailTactics
namespace Go.Proofs.Ytobnglgnoflbnaa
open Go.RowKit
set_option linter.unusedVariables false
set_option linter.unusedSimpArgs false

theorem findI_map {l : List Nat} {nb : Nat → Nat} {o len : Nat} (hl : ∀ i ∈ l, i < len) (ho : o < len) (hon : Once l) (hinj : ∀ i j, i < len → j < len → nb i = nb j → i = j) : findI (l.map nb) (nb o) = findI l o := by
  by_cases h : o ∈ l
  · obtain ⟨k, hk, rfl⟩ := List.getElem_of_mem h
    have e0 : l.getD k 0 = l[k] := by simp [List.getD, hk]
    rw [findI_some (k := k) hk e0 (fun i hi he => hon i k hi hk (by rw [he, e0]))]
    refine findI_some (by simpa using hk) (by simp [List.getD, hk]) (fun i hi he => ?_)
    have hi' : i < l.length := by simpa using hi
    have e1 : (l.map nb).getD i 0 = nb (l.getD i 0) := by simp [List.getD, hi']
    rw [e1] at he
    exact hon i k hi' hk (by rw [e0]; exact hinj _ _ (hl _ (getD_mem' hi')) (hl _ h) he)
  · rw [findI_none h, findI_none]
    intro hm
    obtain ⟨i, hi, he⟩ := List.mem_map.1 hm
    exact h (hinj _ _ (hl i hi) ho he ▸ hi)

/-- The index of the first of some others. -/
def ixOf (l l2 : List Nat) : Int := if l2.length = 0 then -1 else findI l (l2.getD 0 0)

def IntPostB (i : Int) (w : World) (e : Ending) (w' : World) : Prop := e = .returned (.int .i64 i) ∧ Below w.heap.size w w'

set_option maxRecDepth 100000 in
set_option maxHeartbeats 1000000 in
theorem indexOfSel_any {B : Nat} (s1 s2 : Nat) (v1 v2 : Value) (l1 l2 : List Nat) (w : World) (h1 : SelAt w s1 v1 l1 B) (c2 : w.cell? ⟨s2, 0, none⟩ = some v2) (h2 : PtrsOf w v2 l2) (a1 : ∀ i, i < l1.length → Alive w (l1.getD i 0)) (a2 : ∀ i, i < l2.length → Alive w (l2.getD i 0)) :
    Calls Try.prog 55 #[.pointer (some ⟨s1, 0, none⟩), .pointer (some ⟨s2, 0, none⟩)] w (IntPostB (ixOf l1 l2) w) := by
  have c1 := h1.nodes
  have hidx := fun p hp => index_any v1 l1 p w.drew h1.own.ptrs (fun i hi => a1 i hi) hp
  obtain ⟨a, cap, b, off, rfl, hm, ha, hc⟩ := ptrs_open h2
  have HA := Lib.hid ha
  have HC := Lib.hid hc
  have HI := Lib.hid hidx
  have HA2 := Lib.hid a2
  clear ha hc hidx h1 h2 a1 a2
  by_cases h0 : l2.length = 0
  · have hix : ixOf l1 l2 = -1 := by simp [ixOf, h0]
    rw [hix]
    rw [h0] at c2
    clear h0 hix HC HA HI HA2
    go_enter Try.func55, Try.ntmps55
    go_wp2
    go_ret
    exact ⟨rfl, Below.refl _ _⟩
  · have g0 : decide ((0 : Int) < (l2.length : Int)) = true := decide_eq_true (by omega)
    have g0I : (0 : Int) < (l2.length : Int) := by omega
    obtain rfl := HA.out (by omega)
    have ck := HC.out 0 (by omega)
    rw [Nat.add_zero] at ck
    have hix : ixOf l1 l2 = findI l1 (l2.getD 0 0) := by simp [ixOf, h0]
    have hcall := HI.out (l2.getD 0 0) (HA2.out 0 (by omega))
    rw [hix]
    obtain ⟨p, hp⟩ : ∃ p, l2.getD 0 0 = p := ⟨_, rfl⟩
    rw [hp] at ck hcall ⊢
    have HCALL := Lib.hid hcall
    clear h0 hix hp hcall HI HC HA2 HA
    go_enter Try.func55, Try.ntmps55
    go_wp2
    go_still_tail 10, (by kernel_rfl)
    go_wp2_with fail
    refine HCALL.out.mono ?_
    rintro e w1 ⟨rfl, rfl⟩
    go_wp2
    go_ret
    exact ⟨rfl, (Below.refl _ _).drew⟩


def SetPost (v : Value) (w : World) (e : Ending) (w' : World) : Prop := e = .returned (.pointer (some ⟨w.heap.size, 0, none⟩)) ∧ w.alloc (.cells #[v, .pointer none, .pointer none] 96) = w'

set_option maxRecDepth 100000 in
theorem set_any (s : Nat) (a : Option Addr) (n c : Nat) (w : World) : Calls Try.prog 56 #[.pointer (some ⟨s, 0, none⟩), .slice a n c] w (SetPost (.slice a n c) w) := by
  go_enter Try.func56, Try.ntmps56
  go_wp2
  go_ret
  exact ⟨rfl, rfl⟩

def TwoPost (i : Int) (w : World) (e : Ending) (w' : World) : Prop := e = .returned (.tuple #[.int .i64 i, .bool true]) ∧ Below w.heap.size w w'

set_option maxRecDepth 100000 in
set_option maxHeartbeats 1000000 in
theorem indexOfIn_any (W : World) (a : Option Addr) (len cap : Nat) (ts : List NodeD) (hR : RightT ts len) (hN : Nodes W a len ts) (v1 v2 : Value) (l1 l2 : List Nat) (r1 : ReadsAs W v1 (l1.map intV)) (r2 : ReadsAs W v2 (l2.map intV))
    (i1 : ∀ i ∈ l1, i < len) (i2 : ∀ i ∈ l2, i < len) (o1 : Once l1) (n1 : l1.length ≤ 200) (n2 : l2.length ≤ 200) :
    Calls Try.prog 19 #[.slice a len cap, v1, v2] W (TwoPost (ixOf l1 l2) W) := by
  have hlen := hR.le
  have hch := chosen_any W a len cap ts hR hN v1 l1 r1 i1 o1 n1
  have HCH := Lib.hid hch
  have HV := Lib.hid r2
  have HI1 := Lib.hid i1
  have HI2 := Lib.hid i2
  have HO := Lib.hid o1
  clear hR hN hch r1 r2 i1 i2 o1
  go_enter Try.func19, Try.ntmps19
  go_wp2_with fail
  refine HCH.out.mono ?_
  rintro e w1 ⟨bl, nb, vv, s, v, rfl, hF, hs, hb⟩
  have hth := these_any bl len len nb v2 l2 w1 (fun i hi => hF.out.cell hi) hlen (HV.out.below hb.out) HI2.out n2
  have HTH := Lib.hid hth
  clear hth HCH
  go_wp2_with fail
  refine HTH.out.mono ?_
  rintro e w2 ⟨x, rfl, hx, hb2⟩
  have hF2 := hF.out.below hb2.out
  have hs2 := hs.out.below hb2.out
  have hb02 : Below W.heap.size W w2 := hb.out.trans (hb2.out.mono hb.out.size)
  have hcall : ∀ (O : Obj) (s2 : Nat), (w2.alloc O).cell? ⟨s2, 0, none⟩ = some x → Calls Try.prog 55 #[.pointer (some ⟨s, 0, none⟩), .pointer (some ⟨s2, 0, none⟩)] (w2.alloc O) (IntPostB (ixOf l1 l2) (w2.alloc O)) := fun O s2 hc => by
    have hbO : Below w2.heap.size w2 (w2.alloc O) := (Below.refl _ _).alloc (Nat.le_refl _) O
    have hF3 := hF2.below hbO
    have hcc := indexOfSel_any (B := W.heap.size) s s2 v x (l1.map nb) (l2.map nb) (w2.alloc O) (hs2.below hbO) hc (OwnPtrs.ptrs (B := w1.heap.size) (hx.out.alloc O)) (hF3.alive HI1.out) (hF3.alive HI2.out)
    have he : ixOf (l1.map nb) (l2.map nb) = ixOf l1 l2 := by
      unfold ixOf
      by_cases h0 : l2.length = 0
      · simp [h0]
      · have hg : (l2.map nb).getD 0 0 = nb (l2.getD 0 0) := by simp [List.getD, show 0 < l2.length by omega]
        simp only [List.length_map, h0, if_false]
        rw [hg]
        exact findI_map HI1.out (HI2.out _ (getD_mem' (by omega))) HO.out (fun i j hi hj h => hF3.seg.inj i j (Nat.zero_le _) hi (Nat.zero_le _) hj h)
    rw [he] at hcc
    exact hcc
  have HCALL := Lib.hid hcall
  have HB02 := Lib.hid hb02
  obtain ⟨xa, xc, hxe, _⟩ := hx.out.ptrs.nil
  rw [List.length_map, List.length_map] at hxe
  subst hxe
  clear hF2 hs2 hcall hb02 HTH hF hs hb
  go_wp2_with fail
  refine (set_any s xa l2.length xc w2).mono ?_
  rintro e w4 ⟨rfl, hw4⟩
  have hcc := HCALL.out (.cells #[.slice xa l2.length xc, .pointer none, .pointer none] 96) w2.heap.size (cell_alloc_new' _ _ _ rfl rfl)
  have hbb := HB02.out.alloc HB02.out.size (.cells #[.slice xa l2.length xc, .pointer none, .pointer none] 96)
  rw [hw4] at hcc hbb
  have HCC := Lib.hid hcc
  have HBB := Lib.hid hbb
  clear hcc hbb HCALL hw4
  go_wp2_with fail
  refine HCC.out.mono ?_
  rintro e w3 ⟨rfl, hb3⟩
  have hfin := Lib.hid (HBB.out.trans (hb3.mono HBB.out.size))
  clear hb3 HCC
  go_wp2
  go_ret2
  exact ⟨rfl, hfin.out⟩

end Go.Proofs.Ytobnglgnoflbnaa
