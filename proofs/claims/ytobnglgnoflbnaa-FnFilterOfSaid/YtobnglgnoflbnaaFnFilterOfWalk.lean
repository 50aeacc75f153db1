/- The walk of FnFilterOf. -/
import Derived.Test.YtobnglgnoflbnaaFilterOf
import Derived.Test.YtobnglgnoflbnaaSelection
namespace Go.Proofs.Ytobnglgnoflbnaa.lawFnFilterOf
open Go.RowKit
set_option linter.unusedVariables false
set_option linter.unusedSimpArgs false

def OwnPl2Post (l : List Nat) (w : World) (e : Ending) (w' : World) : Prop := ∃ v, e = .returned (.tuple #[v, .bool true]) ∧ Hid (OwnPl w' w.heap.size v l) ∧ Hid (Below w.heap.size w w')

theorem amid_map {l l2 : List Nat} {nb : Nat → Nat} {len : Nat} (h1 : ∀ i ∈ l, i < len) (h2 : ∀ i ∈ l2, i < len) (hinj : ∀ i j, i < len → j < len → nb i = nb j → i = j) : ∀ k, k < l.length → amid (l.map nb) (l2.map nb) k = amid l l2 k := fun k hk => by
  unfold amid
  have e1 : (l.map nb).getD k 0 = nb (l.getD k 0) := by simp [List.getD, hk]
  rw [e1]
  have : nb (l.getD k 0) ∈ l2.map nb ↔ l.getD k 0 ∈ l2 := ⟨fun h => by
    obtain ⟨i, hi, he⟩ := List.mem_map.1 h
    exact hinj _ _ (h2 i hi) (h1 _ (getD_mem' hk)) he ▸ hi, fun h => List.mem_map.2 ⟨_, h, rfl⟩⟩
  simp only [this]

theorem kept_congr {P Q : Nat → Bool} {l : List Nat} : ∀ n, (∀ k, k < n → P k = Q k) → kept P l n = kept Q l n := by
  intro n
  induction n with
  | zero => intro _; rfl
  | succ n ih => intro h; simp only [kept]; rw [h n (by omega), ih (fun k hk => h k (by omega))]

set_option maxRecDepth 100000 in
set_option maxHeartbeats 1000000 in
theorem filterOf_any (W : World) (a : Option Addr) (len cap : Nat) (ts : List NodeD) (hR : RightT ts len) (hN : Nodes W a len ts) (v1 v2 : Value) (l1 l2 : List Nat) (r1 : ReadsAs W v1 (l1.map intV)) (r2 : ReadsAs W v2 (l2.map intV))
    (i1 : ∀ i ∈ l1, i < len) (i2 : ∀ i ∈ l2, i < len) (o1 : Once l1) (n1 : l1.length ≤ 200) (n2 : l2.length ≤ 200) :
    Calls Try.prog 33 #[.slice a len cap, v1, v2] W (OwnPl2Post (kept (amid l1 l2) l1 l1.length) W) := by
  have hlen := hR.le
  have hch := chosen_any W a len cap ts hR hN v1 l1 r1 i1 o1 n1
  obtain ⟨K, hK⟩ : ∃ K, kept (amid l1 l2) l1 l1.length = K := ⟨_, rfl⟩
  have hKm : ∀ i ∈ K, i < len := fun i hi => i1 i (kept_mem _ l1 _ (Nat.le_refl _) i (by rw [← hK] at hi; exact hi))
  have hKn : K.length ≤ 200 := Nat.le_trans (by rw [← hK]; exact kept_length _ l1 _) n1
  rw [hK]
  have HK := Lib.hid hK
  have HKM := Lib.hid hKm
  have HCH := Lib.hid hch
  have HV := Lib.hid r2
  have HI1 := Lib.hid i1
  have HI2 := Lib.hid i2
  clear hR hN hch r1 r2 i1 i2 o1 hK hKm
  go_enter Try.func33, Try.ntmps33
  go_wp2_with fail
  refine HCH.out.mono ?_
  rintro e w1 ⟨bl, nb, vv, s, v, rfl, hF, hs, hb⟩
  have hth := these_any bl len len nb v2 l2 w1 (fun i hi => hF.out.cell hi) hlen (HV.out.below hb.out) HI2.out n2
  have HTH := Lib.hid hth
  clear hth HCH
  go_wp2_with fail
  refine HTH.out.mono ?_
  rintro e w2 ⟨x, rfl, hx, hb2⟩
  have hF2 := hF.out.below hb2.out
  have hs2 := hs.out.below hb2.out
  have hb02 : Below W.heap.size W w2 := hb.out.trans (hb2.out.mono hb.out.size)
  have hfn := filterNodes_any (B := W.heap.size) s v x (l1.map nb) (l2.map nb) w2 hs2 hx.out.ptrs (hF2.alive HI1.out) (hF2.alive HI2.out) (by simpa using n1) (by simpa using n2)
  have hke : kept (amid (l1.map nb) (l2.map nb)) (l1.map nb) (l1.map nb).length = K.map nb := by
    rw [List.length_map, kept_map _ l1 nb _ (Nat.le_refl _), ← HK.out]
    congr 1
    exact kept_congr _ (amid_map HI1.out HI2.out (fun i j hi hj h => hF2.seg.inj i j (Nat.zero_le _) hi (Nat.zero_le _) hj h))
  rw [hke] at hfn
  have HFN := Lib.hid hfn
  have HF2 := Lib.hid hF2
  have HB02 := Lib.hid hb02
  clear hfn hke hF2 hs2 hb02 hF hs hx hb hb2 HTH
  go_wp2_with fail
  refine HFN.out.mono ?_
  rintro e w3 ⟨s3, v3, rfl, hs3, hb3⟩
  have hF3 := HF2.out.below hb3.out
  have c0 := hs3.out.nodes
  have hpl := placesOf_any w3 bl len len nb vv ts hF3 hlen v3 K hs3.out.own.ptrs HKM.out hKn
  have HPL := Lib.hid hpl
  have HB03 := Lib.hid (HB02.out.trans (hb3.out.mono HB02.out.size))
  clear hpl hF3 hs3 hb3 HFN HF2 HB02
  go_wp2_with fail
  refine HPL.out.mono ?_
  rintro e w4 ⟨v4, rfl, ho4, hb4⟩
  have hfin := Lib.hid (HB03.out.trans (hb4.out.mono HB03.out.size))
  have hown : Hid (OwnPl w4 W.heap.size v4 K) := Lib.hid (ownsRow_base ho4.out HB03.out.size)
  clear HPL ho4 hb4
  go_wp2
  go_ret2
  exact ⟨v4, rfl, hown, hfin⟩

set_option maxRecDepth 100000 in
set_option maxHeartbeats 4000000 in
theorem walk {W : World} (a : Option Addr) (len cap : Nat) (ts : List NodeD) (h : Nodes W a len ts ∧ len ≤ cap ∧ cap ≤ maxLen) (a1 : Option Addr) (n1 c1 : Nat) (z1 : List Int) (h1 : Ints W a1 n1 z1 ∧ n1 ≤ c1 ∧ c1 ≤ maxLen) (a2 : Option Addr) (n2 c2 : Nat) (z2 : List Int) (h2 : Ints W a2 n2 z2 ∧ n2 ≤ c2 ∧ c2 ≤ maxLen) :
    Calls Try.prog 9 #[.slice a len cap, .slice a1 n1 c1, .slice a2 n2 c2] W (YesB W) := by
  obtain ⟨hN, hN2⟩ := h
  obtain ⟨h1, hc1⟩ := h1
  obtain ⟨h2, hc2⟩ := h2
  have hm1 := h1.open.2.1
  have hm2 := h2.open.2.1
  have HN := Lib.hid hN
  have H1 := Lib.hid (And.intro h1 hc1)
  have H2 := Lib.hid (And.intro h2 hc2)
  clear hN hN2 h1 h2 hc1 hc2
  go_enter Try.func9, Try.ntmps9
  go_wp2_with fail
  refine (fits1_any a len cap ts W HN.out).mono ?_
  rintro e w1 ⟨b1, _, rfl, hb1⟩
  have HB1 := Lib.hid hb1
  clear hb1
  cases b1
  · go_wp2
    go_ret
    exact ⟨rfl, HB1.out⟩
  by_cases q1 : (2147483647 : Int) < (n1 : Int)
  · have g1 : decide ((2147483647 : Int) < (n1 : Int)) = true := by simp [q1]
    clear q1
    go_wp2
    go_ret
    exact ⟨rfl, HB1.out⟩
  have g1 : decide ((2147483647 : Int) < (n1 : Int)) = false := by simp [q1]
  clear q1
  by_cases q2 : (2147483647 : Int) < (n2 : Int)
  · have g2 : decide ((2147483647 : Int) < (n2 : Int)) = true := by simp [q2]
    clear q2
    go_wp2
    go_ret
    exact ⟨rfl, HB1.out⟩
  have g2 : decide ((2147483647 : Int) < (n2 : Int)) = false := by simp [q2]
  clear q2
  go_wp2_with fail
  refine (some_any a len cap ts a1 n1 c1 z1 a2 n2 c2 z2 w1 (HN.out.below HB1.out) (H1.out.1.below HB1.out) (H2.out.1.below HB1.out)).mono ?_
  rintro e w2 ⟨b2, hb2, rfl, hbel2⟩
  have HB2 := Lib.hid (HB1.out.trans (hbel2.mono HB1.out.size))
  clear hbel2 HB1
  cases b2
  · go_wp2
    go_ret
    exact ⟨rfl, HB2.out⟩
  obtain ⟨hs1, hs2⟩ := hb2 rfl
  obtain ⟨hR, hO1, _⟩ := hs1 rfl
  obtain ⟨_, hO2, _⟩ := hs2 rfl
  obtain ⟨l1, hp1⟩ := hO1.places H1.out.1.open.1
  obtain ⟨l2, hp2⟩ := hO2.places H2.out.1.open.1
  have hl1 : l1.length = n1 := by rw [← hp1.len]; exact H1.out.1.open.1
  have hl2 : l2.length = n2 := by rw [← hp2.len]; exact H2.out.1.open.1
  have HR := Lib.hid hR
  have HP1 := Lib.hid hp1
  have HP2 := Lib.hid hp2
  clear hb2 hs1 hs2 hR hO1 hO2 hp1 hp2
  subst hl1 hl2
  have hle1 : l1.length ≤ 200 := Nat.le_trans HP1.out.le HR.out.le
  have hle2 : l2.length ≤ 200 := Nat.le_trans HP2.out.le HR.out.le
  have r1 := fun (w : World) (hb : Below W.heap.size W w) => HP1.out.reads (H1.out.1.below hb) H1.out.2.1 H1.out.2.2
  have r2 := fun (w : World) (hb : Below W.heap.size W w) => HP2.out.reads (H2.out.1.below hb) H2.out.2.1 H2.out.2.2
  have hcall := filterOf_any w2 a len cap ts HR.out (HN.out.below HB2.out) (.slice a1 l1.length c1) (.slice a2 l2.length c2) l1 l2 (r1 _ HB2.out) (r2 _ HB2.out) HP1.out.lt HP2.out.lt HP1.out.once hle1 hle2
  have hthose := fun (w : World) (hb : Below W.heap.size W w) => those_any (.slice a1 l1.length c1) (.slice a2 l2.length c2) l1 l2 w (r1 w hb) (r2 w hb) hle1
  have HCALL := Lib.hid hcall
  have HTHOSE := Lib.hid hthose
  clear hcall hthose r1 r2
  go_wp2_with fail
  refine HCALL.out.mono ?_
  rintro e w3 ⟨v3, rfl, ho3, hb3⟩
  have hb03 : Below W.heap.size W w3 := HB2.out.trans (hb3.out.mono HB2.out.size)
  have ht := HTHOSE.out w3 hb03
  have HT := Lib.hid ht
  have HB03 := Lib.hid hb03
  clear ht hb03 HCALL HTHOSE
  go_wp2_with fail
  refine HT.out.mono ?_
  rintro e w4 ⟨v4, rfl, ho4, hb4⟩
  have hsame := sameList_any v3 v4 _ w4 (ho3.out.reads.below hb4.out) ho4.out.reads
  have HS := Lib.hid hsame
  have HB04 := Lib.hid (HB03.out.trans (hb4.out.mono HB03.out.size))
  clear hsame HT HB03
  go_wp2_with fail
  refine HS.out.mono ?_
  rintro e w5 ⟨rfl, hb5⟩
  have HB05 := Lib.hid (HB04.out.trans (hb5.mono HB04.out.size))
  clear hb5 HS HB04
  go_wp2
  go_ret
  exact ⟨rfl, HB05.out⟩

end Go.Proofs.Ytobnglgnoflbnaa.lawFnFilterOf
