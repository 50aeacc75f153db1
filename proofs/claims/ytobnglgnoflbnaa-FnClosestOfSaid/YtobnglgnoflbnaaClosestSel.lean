/- goquery's Selection.ClosestNodes; impl.ClosestOf. -/
import Derived.Test.YtobnglgnoflbnaaMapNodes
import Derived.Test.YtobnglgnoflbnaaPlacesOf
import Derived.Test.YtobnglgnoflbnaaThese
namespace Go.Proofs.Ytobnglgnoflbnaa
open Go.RowKit
set_option linter.unusedVariables false
set_option linter.unusedSimpArgs false

/-- The nearest of some places. -/
def nearOf (ts : List NodeD) (l2 : List Nat) (x : Nat) : Option Nat := near (sz ts) (fun y => decide (y ∈ l2)) x

set_option maxRecDepth 100000 in
set_option maxHeartbeats 3000000 in
theorem closestNodes_any {B B' : Nat} (s : Nat) (v v2 : Value) (l l2 : List Nat) (w : World) (bl len : Nat) (nb : Nat → Nat) (vv : Nat → Value) (ts : List NodeD) (hs : SelAt w s v (l.map nb) B) (hF : Forest B' w bl len nb vv ts)
    (h2 : PtrsOf w v2 (l2.map nb)) (hin : ∀ i ∈ l, i < len) (hin2 : ∀ i ∈ l2, i < len) (hn : l.length ≤ 200) (hn2 : l2.length ≤ 200) :
    Calls Try.prog 74 #[.pointer (some ⟨s, 0, none⟩), v2] w (SelPost ((onceF (stepL (nearOf ts l2) l)).map nb) w) := by
  obtain ⟨jn, hj, hjz⟩ := Try.node_info
  obtain ⟨a, cap, b, off, rfl, hm, ha, hc⟩ := ptrs_open h2
  rw [List.length_map] at ha hc hm ⊢
  have hcell : ∀ k, k < l2.length → w.cell? ⟨b, off + k, none⟩ = some (.pointer (some ⟨nb (l2.getD k 0), 0, none⟩)) := fun k hk => by
    have h1 := hc k hk
    have e1 : (l2.map nb).getD k 0 = nb (l2.getD k 0) := by simp [List.getD, hk]
    rwa [e1] at h1
  have hb0 : Below w.heap.size w (w.alloc (.map #[] 0)) := (Below.refl _ _).alloc (Nat.le_refl _) _
  have hs0 := PSet.made w
  have hmk := run_makeMap_hint (P := Try.prog) Try.underlying138 (l2.length : Int) w
  obtain ⟨w0, hw0⟩ : ∃ w0, w.alloc (.map #[] 0) = w0 := ⟨_, rfl⟩
  have hsz0 : w0.heap.size = w.heap.size + 1 := by rw [← hw0]; simp
  rw [hw0] at hb0 hs0 hmk
  obtain ⟨m, hmm⟩ : ∃ m, w.heap.size = m := ⟨_, rfl⟩
  rw [hmm] at hs0 hmk hb0 hsz0
  have hb1 : Below m w (w0.alloc (.cells #[.map (some m)] 138)) := hb0.alloc (by omega) _
  have hs1 : PSet (w0.alloc (.cells #[.map (some m)] 138)) m [] := hs0.below ((Below.refl _ _).alloc (Nat.le_refl _) _)
  have hc1 : (w0.alloc (.cells #[.map (some m)] 138)).cell? ⟨m + 1, 0, none⟩ = some (.map (some m)) := cell_alloc_new' _ _ _ hsz0.symm rfl
  obtain ⟨w1, hw1⟩ : ∃ w1, w0.alloc (.cells #[.map (some m)] 138) = w1 := ⟨_, rfl⟩
  rw [hw1] at hb1 hs1 hc1
  have halw : ∀ i, i < len → Alive w (nb i) := fun i hi => (hF.node hi).alive
  have hmf : ∀ (fn : Fn) (first cap : Array Value) (w : World), (Instr.makeFunc fn first cap).run Try.prog w = .ok (.func fn first cap) w := fun _ _ _ _ => rfl
  have HA := Lib.hid ha
  have HC := Lib.hid hcell
  have HF := Lib.hid hF
  have HSEL := Lib.hid hs
  have HIN := Lib.hid (And.intro hin (And.intro hin2 halw))
  have HS1 := Lib.hid (And.intro hb1 (And.intro hs1 hc1))
  clear hs hF h2 ha hc hcell hin hin2 halw hb0 hs0 hb1 hs1 hc1
  go_enter Try.func74, Try.ntmps74
  go_wp2
  clear hmk hw0 hw1
  go_loopw [13] (fun i wr => ∃ k : Nat, i = .int .i64 k ∧ k ≤ l2.length ∧ PSet wr m ((l2.take k).map nb) ∧ wr.cell? ⟨m + 1, 0, none⟩ = some (.map (some m)) ∧ Below m w wr) (fun i _ => l2.length - (intOf i).toNat)
  case atStart => exact ⟨0, by go_num, by omega, HS1.out.2.1, HS1.out.2.2, HS1.out.1⟩
  case round =>
    obtain ⟨k, rfl, hk, hps, hcm, hbel⟩ := hrel
    by_cases hlt : k < l2.length
    · obtain rfl := HA.out (by omega)
      have ck : wr.cell? ⟨b, off + k, none⟩ = some (.pointer (some ⟨nb (l2.getD k 0), 0, none⟩)) := by
        have h1 := HC.out k hlt
        exact (hbel.cell (p := ⟨b, off + k, none⟩) (by rw [← hmm]; exact World.block_lt_of_cell? _ _ h1)).trans h1
      have hxl := HIN.out.2.1 _ (getD_mem' (d := 0) hlt)
      have htk := take_snoc hlt
      obtain ⟨x, hxx⟩ : ∃ x, l2.getD k 0 = x := ⟨_, rfl⟩
      rw [hxx] at ck hxl htk
      have hlow : ∀ i, i < len → Alive wr (nb i) := fun i hi => (HIN.out.2.2 i hi).low (by rw [← hmm]; exact (HIN.out.2.2 i hi).lt) hbel
      have hall : ∀ q ∈ (l2.take k).map nb, Alive wr q := fun q hq => by
        obtain ⟨i, hi, rfl⟩ := List.mem_map.1 hq
        exact hlow i (HIN.out.2.1 i (List.mem_of_mem_take hi))
      obtain ⟨wu, hupd, hpsu, hgu⟩ := PSet.store (P := Try.prog) (t := 138) hps Try.underlying138 Try.underlying75 hj hjz (hlow x hxl) hall
      unfold ptrB at hupd
      have hpsw : PSet wu m ((l2.take (k + 1)).map nb) := hpsu.congr (fun q => by rw [htk, List.map_append]; simp [or_comm])
      have hcu : wu.cell? ⟨m + 1, 0, none⟩ = some (.map (some m)) := hgu.cell hcm (by simp)
      have hbu : Below m w wu := hbel.grown hgu (by have := hbel.size; omega) (fun q hq => by simp at hq; omega)
      have HU := Lib.hid (And.intro hpsw (And.intro hcu hbu))
      have hkI : (k : Int) < (l2.length : Int) := by omega
      clear hps hbel htk hxx hlow hall hpsu hgu hpsw hcu hbu
      go_wp2
      go_roundw
      case rel => exact ⟨k + 1, by go_num, by omega, HU.out.1, HU.out.2.1, HU.out.2.2⟩
      case measure => simp [intOf]; omega
    · obtain rfl : k = l2.length := by omega
      rw [List.take_length] at hps
      have hbw : Below w.heap.size w wr := by rw [hmm]; exact hbel
      have hFr := HF.out.below hbw
      have hsr := HSEL.out.below hbw
      obtain ⟨d, hd⟩ := hsr.doc
      have c0 := hsr.nodes
      have hal2 : ∀ q ∈ l2.map nb, Alive wr q := fun q hq => by
        obtain ⟨i, hi, rfl⟩ := List.mem_map.1 hq
        exact (hFr.node (HIN.out.2.1 i hi)).alive
      have hmap := mapNodes_any v (.pointer (some ⟨m + 1, 0, none⟩)) l (nearOf ts l2) wr bl len nb vv ts hFr hsr.own.ptrs hn (fun x p hx hp => by
          have h1 := near_le x x p (Nat.le_refl _) hp
          have h2 := HIN.out.1 x hx
          omega)
        (fun k hk w' hb' => nearClo_any (k : Int) (l.getD k 0) (m + 1) m (l2.map nb) (fun y => decide (y ∈ l2)) w' bl len nb vv ts (hFr.below hb') (HIN.out.1 _ (getD_mem' hk)) (cell_below hb' hcm) (hps.below hb') (fun q hq => (hal2 q hq).below hb')
          (fun y hy => (mem_nb (fun i j hi hj h => hFr.seg.inj i j (Nat.zero_le _) hi (Nat.zero_le _) hj h) hy HIN.out.2.1).symm))
      obtain ⟨L, hL⟩ : ∃ L, (onceF (stepL (nearOf ts l2) l)).map nb = L := ⟨_, rfl⟩
      rw [hL] at hmap
      have HL := Lib.hid hL
      have HMAP := Lib.hid hmap
      have HD := Lib.hid (And.intro hd hbw)
      clear hps hcm hbel hbw hFr hsr hd hal2 hmap hL hlt
      go_wp2_with fail
      refine HMAP.out.mono ?_
      rintro e w3 ⟨v', rfl, ho, hb⟩
      have c1' := cell_below hb.out HD.out.1
      have c0' := cell_below hb.out c0
      obtain ⟨a', cap', hv, _⟩ := ho.out.ptrs.nil
      rw [List.length_map] at hv
      subst hv
      have hfin := HD.out.2.trans (hb.out.mono HD.out.2.size)
      have HFIN := Lib.hid (And.intro hfin (show OwnPtrs w3 w.heap.size (.slice a' L.length cap') L from ownsRow_base ho.out HD.out.2.size))
      clear HMAP HD hfin ho hb
      go_wp2
      go_ret
      refine ⟨w3.heap.size, .slice a' L.length cap', rfl, Lib.hid ⟨?_, ⟨d, ?_⟩, ?_, HFIN.out.1.size⟩, Lib.hid ?_⟩
      · exact cell_alloc_new' _ _ _ (by simp) rfl
      · exact cell_alloc_new' _ _ _ (by simp) rfl
      · rw [HL.out]; exact HFIN.out.2.alloc _
      · exact HFIN.out.1.alloc HFIN.out.1.size _

def ClosestPost (l : List Nat) (w : World) (e : Ending) (w' : World) : Prop := ∃ v, e = .returned (.tuple #[v, .bool true]) ∧ Hid (OwnPl w' w.heap.size v l) ∧ Hid (Below w.heap.size w w')

set_option maxRecDepth 100000 in
set_option maxHeartbeats 1000000 in
theorem implClosestOf_any (W : World) (a : Option Addr) (len cap : Nat) (ts : List NodeD) (hR : RightT ts len) (hN : Nodes W a len ts) (v1 v2 : Value) (l1 l2 : List Nat) (r1 : ReadsAs W v1 (l1.map intV)) (r2 : ReadsAs W v2 (l2.map intV))
    (i1 : ∀ i ∈ l1, i < len) (i2 : ∀ i ∈ l2, i < len) (o1 : Once l1) (n1 : l1.length ≤ 200) (n2 : l2.length ≤ 200) :
    Calls Try.prog 39 #[.slice a len cap, v1, v2] W (ClosestPost (onceF (stepL (nearOf ts l2) l1)) W) := by
  have hlen := hR.le
  have hch := chosen_any W a len cap ts hR hN v1 l1 r1 i1 o1 n1
  obtain ⟨K, hK⟩ : ∃ K, onceF (stepL (nearOf ts l2) l1) = K := ⟨_, rfl⟩
  have hKm : ∀ i ∈ K, i < len := fun i hi => by
    rw [← hK] at hi
    refine stepL_lt (fun x p hx hp => ?_) (onceF_mem.1 hi)
    have h1 := near_le x x p (Nat.le_refl _) hp
    have h2 := i1 x hx
    omega
  have hKn : K.length ≤ 200 := by
    rw [← hK]
    have h1 := onceF_length (l := stepL (nearOf ts l2) l1)
    have h2 := stepL_len (g := nearOf ts l2) (l := l1)
    omega
  rw [hK]
  have HK := Lib.hid hK
  have HKM := Lib.hid hKm
  have HCH := Lib.hid hch
  have HV := Lib.hid r2
  have HI1 := Lib.hid i1
  have HI2 := Lib.hid i2
  clear hR hN hch r1 r2 i1 i2 o1 hK hKm
  go_enter Try.func39, Try.ntmps39
  go_wp2_with fail
  refine HCH.out.mono ?_
  rintro e w1 ⟨bl, nb, vv, s, v, rfl, hF, hs, hb⟩
  have hth := these_any bl len len nb v2 l2 w1 (fun i hi => hF.out.cell hi) hlen (HV.out.below hb.out) HI2.out n2
  have HTH := Lib.hid hth
  clear hth HCH
  go_wp2_with fail
  refine HTH.out.mono ?_
  rintro e w2 ⟨x, rfl, hx, hb2⟩
  have hF2 := hF.out.below hb2.out
  have hs2 := hs.out.below hb2.out
  have hb02 : Below W.heap.size W w2 := hb.out.trans (hb2.out.mono hb.out.size)
  have hcn := closestNodes_any (B := W.heap.size) s v x l1 l2 w2 bl len nb vv ts hs2 hF2 hx.out.ptrs HI1.out HI2.out n1 n2
  rw [HK.out] at hcn
  have HCN := Lib.hid hcn
  have HF2 := Lib.hid hF2
  have HB02 := Lib.hid hb02
  clear hcn hF2 hs2 hb02 hF hs hx hb hb2 HTH
  go_wp2_with fail
  refine HCN.out.mono ?_
  rintro e w3 ⟨s3, v3, rfl, hs3, hb3⟩
  have hF3 := HF2.out.below hb3.out
  have c0 := hs3.out.nodes
  have hpl := placesOf_any w3 bl len len nb vv ts hF3 hlen v3 K hs3.out.own.ptrs HKM.out hKn
  have HPL := Lib.hid hpl
  have HB03 := Lib.hid (HB02.out.trans (hb3.out.mono HB02.out.size))
  clear hpl hF3 hs3 hb3 HCN HF2 HB02
  go_wp2_with fail
  refine HPL.out.mono ?_
  rintro e w4 ⟨v4, rfl, ho4, hb4⟩
  have hfin := Lib.hid (HB03.out.trans (hb4.out.mono HB03.out.size))
  have hown : Hid (OwnPl w4 W.heap.size v4 K) := Lib.hid (ownsRow_base ho4.out HB03.out.size)
  clear HPL ho4 hb4
  go_wp2
  go_ret2
  exact ⟨v4, rfl, hown, hfin⟩

end Go.Proofs.Ytobnglgnoflbnaa
