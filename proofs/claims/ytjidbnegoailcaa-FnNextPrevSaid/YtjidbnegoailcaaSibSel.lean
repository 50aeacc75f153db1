/- The methods of Selection that go to brothers and kids; impl's functions over them. (Printed by gen_selsib.py.) -/
import Derived.Test.YtjidbnegoailcaaSibGet
namespace Go.Proofs.Ytjidbnegoailcaa
open Go.RowKit
set_option linter.unusedVariables false
set_option linter.unusedSimpArgs false

def SibPost (l : List Nat) (w : World) (e : Ending) (w' : World) : Prop := ∃ v, e = .returned (.tuple #[v, .bool true]) ∧ Hid (OwnPl w' w.heap.size v l) ∧ Hid (Below w.heap.size w w')

set_option maxRecDepth 100000 in
set_option maxHeartbeats 1000000 in
theorem selNextAll {B B' : Nat} (s : Nat) (v : Value) (l : List Nat) (w : World) (bl len : Nat) (nb : Nat → Nat) (vv : Nat → Value) (ts : List NodeD) (hs : SelAt w s v (l.map nb) B) (hF : Forest B' w bl len nb vv ts) (hR : RightT ts len)
    (hin : ∀ i ∈ l, i < len) (hpos : ∀ i ∈ l, 0 < i) (hn : l.length ≤ 200) :
    Calls Try.prog 38 #[.pointer (some ⟨s, 0, none⟩)] w (SelPost ((onceF (l.flatMap (fn_2 ts len))).map nb) w) := by
  have hp := getSib_2 v l w bl len nb vv ts hF hR hs.own.ptrs hin hpos hn
  obtain ⟨L, hL⟩ : ∃ L, (onceF (l.flatMap (fn_2 ts len))).map nb = L := ⟨_, rfl⟩
  rw [hL] at hp ⊢
  obtain ⟨d, hd⟩ := hs.doc
  have c0 := hs.nodes
  have HP := Lib.hid hp
  have HD := Lib.hid hd
  clear hp hs hF hR hd hL hin hpos
  go_enter Try.func38, Try.ntmps38
  go_wp2_with fail
  refine HP.out.mono ?_
  rintro e w1 ⟨v', rfl, ho, hb⟩
  have c1' := cell_below hb.out HD.out
  have c0' := cell_below hb.out c0
  obtain ⟨a', cap', hv, _⟩ := ho.out.ptrs.nil
  rw [List.length_map] at hv
  subst hv
  clear HP HD
  go_wp2
  go_ret
  refine ⟨w1.heap.size, .slice a' L.length cap', rfl, Lib.hid ⟨?_, ⟨d, ?_⟩, ?_, hb.out.size⟩, Lib.hid ?_⟩
  · exact cell_alloc_new' _ _ _ (by simp) rfl
  · exact cell_alloc_new' _ _ _ (by simp) rfl
  · exact ho.out.alloc _
  · exact hb.out.alloc hb.out.size _

set_option maxRecDepth 100000 in
set_option maxHeartbeats 1000000 in
theorem selSiblings {B B' : Nat} (s : Nat) (v : Value) (l : List Nat) (w : World) (bl len : Nat) (nb : Nat → Nat) (vv : Nat → Value) (ts : List NodeD) (hs : SelAt w s v (l.map nb) B) (hF : Forest B' w bl len nb vv ts) (hR : RightT ts len)
    (hin : ∀ i ∈ l, i < len) (hpos : ∀ i ∈ l, 0 < i) (hn : l.length ≤ 200) :
    Calls Try.prog 60 #[.pointer (some ⟨s, 0, none⟩)] w (SelPost ((onceF (l.flatMap (fn_0 ts len))).map nb) w) := by
  have hp := getSib_0 v l w bl len nb vv ts hF hR hs.own.ptrs hin hpos hn
  obtain ⟨L, hL⟩ : ∃ L, (onceF (l.flatMap (fn_0 ts len))).map nb = L := ⟨_, rfl⟩
  rw [hL] at hp ⊢
  obtain ⟨d, hd⟩ := hs.doc
  have c0 := hs.nodes
  have HP := Lib.hid hp
  have HD := Lib.hid hd
  clear hp hs hF hR hd hL hin hpos
  go_enter Try.func60, Try.ntmps60
  go_wp2_with fail
  refine HP.out.mono ?_
  rintro e w1 ⟨v', rfl, ho, hb⟩
  have c1' := cell_below hb.out HD.out
  have c0' := cell_below hb.out c0
  obtain ⟨a', cap', hv, _⟩ := ho.out.ptrs.nil
  rw [List.length_map] at hv
  subst hv
  clear HP HD
  go_wp2
  go_ret
  refine ⟨w1.heap.size, .slice a' L.length cap', rfl, Lib.hid ⟨?_, ⟨d, ?_⟩, ?_, hb.out.size⟩, Lib.hid ?_⟩
  · exact cell_alloc_new' _ _ _ (by simp) rfl
  · exact cell_alloc_new' _ _ _ (by simp) rfl
  · exact ho.out.alloc _
  · exact hb.out.alloc hb.out.size _

set_option maxRecDepth 100000 in
set_option maxHeartbeats 1000000 in
theorem selNext {B B' : Nat} (s : Nat) (v : Value) (l : List Nat) (w : World) (bl len : Nat) (nb : Nat → Nat) (vv : Nat → Value) (ts : List NodeD) (hs : SelAt w s v (l.map nb) B) (hF : Forest B' w bl len nb vv ts) (hR : RightT ts len)
    (hin : ∀ i ∈ l, i < len) (hpos : ∀ i ∈ l, 0 < i) (hn : l.length ≤ 200) :
    Calls Try.prog 43 #[.pointer (some ⟨s, 0, none⟩)] w (SelPost ((onceF (l.flatMap (fn_1 ts len))).map nb) w) := by
  have hp := getSib_1 v l w bl len nb vv ts hF hR hs.own.ptrs hin hpos hn
  obtain ⟨L, hL⟩ : ∃ L, (onceF (l.flatMap (fn_1 ts len))).map nb = L := ⟨_, rfl⟩
  rw [hL] at hp ⊢
  obtain ⟨d, hd⟩ := hs.doc
  have c0 := hs.nodes
  have HP := Lib.hid hp
  have HD := Lib.hid hd
  clear hp hs hF hR hd hL hin hpos
  go_enter Try.func43, Try.ntmps43
  go_wp2_with fail
  refine HP.out.mono ?_
  rintro e w1 ⟨v', rfl, ho, hb⟩
  have c1' := cell_below hb.out HD.out
  have c0' := cell_below hb.out c0
  obtain ⟨a', cap', hv, _⟩ := ho.out.ptrs.nil
  rw [List.length_map] at hv
  subst hv
  clear HP HD
  go_wp2
  go_ret
  refine ⟨w1.heap.size, .slice a' L.length cap', rfl, Lib.hid ⟨?_, ⟨d, ?_⟩, ?_, hb.out.size⟩, Lib.hid ?_⟩
  · exact cell_alloc_new' _ _ _ (by simp) rfl
  · exact cell_alloc_new' _ _ _ (by simp) rfl
  · exact ho.out.alloc _
  · exact hb.out.alloc hb.out.size _

set_option maxRecDepth 100000 in
set_option maxHeartbeats 1000000 in
theorem selPrev {B B' : Nat} (s : Nat) (v : Value) (l : List Nat) (w : World) (bl len : Nat) (nb : Nat → Nat) (vv : Nat → Value) (ts : List NodeD) (hs : SelAt w s v (l.map nb) B) (hF : Forest B' w bl len nb vv ts) (hR : RightT ts len)
    (hin : ∀ i ∈ l, i < len) (hpos : ∀ i ∈ l, 0 < i) (hn : l.length ≤ 200) :
    Calls Try.prog 44 #[.pointer (some ⟨s, 0, none⟩)] w (SelPost ((onceF (l.flatMap (fn_m1 ts len))).map nb) w) := by
  have hp := getSib_m1 v l w bl len nb vv ts hF hR hs.own.ptrs hin hpos hn
  obtain ⟨L, hL⟩ : ∃ L, (onceF (l.flatMap (fn_m1 ts len))).map nb = L := ⟨_, rfl⟩
  rw [hL] at hp ⊢
  obtain ⟨d, hd⟩ := hs.doc
  have c0 := hs.nodes
  have HP := Lib.hid hp
  have HD := Lib.hid hd
  clear hp hs hF hR hd hL hin hpos
  go_enter Try.func44, Try.ntmps44
  go_wp2_with fail
  refine HP.out.mono ?_
  rintro e w1 ⟨v', rfl, ho, hb⟩
  have c1' := cell_below hb.out HD.out
  have c0' := cell_below hb.out c0
  obtain ⟨a', cap', hv, _⟩ := ho.out.ptrs.nil
  rw [List.length_map] at hv
  subst hv
  clear HP HD
  go_wp2
  go_ret
  refine ⟨w1.heap.size, .slice a' L.length cap', rfl, Lib.hid ⟨?_, ⟨d, ?_⟩, ?_, hb.out.size⟩, Lib.hid ?_⟩
  · exact cell_alloc_new' _ _ _ (by simp) rfl
  · exact cell_alloc_new' _ _ _ (by simp) rfl
  · exact ho.out.alloc _
  · exact hb.out.alloc hb.out.size _

set_option maxRecDepth 100000 in
set_option maxHeartbeats 1000000 in
theorem selNextUntilNodes {B B' : Nat} (s : Nat) (v : Value) (l : List Nat) (w : World) (bl len : Nat) (nb : Nat → Nat) (vv : Nat → Value) (ts : List NodeD) (hs : SelAt w s v (l.map nb) B) (hF : Forest B' w bl len nb vv ts) (hR : RightT ts len)
    (hin : ∀ i ∈ l, i < len) (hpos : ∀ i ∈ l, 0 < i) (hn : l.length ≤ 200) (v2 : Value) (l2 : List Nat) (h2 : PtrsOf w v2 (l2.map nb)) (hin2 : ∀ i ∈ l2, i < len) :
    Calls Try.prog 42 #[.pointer (some ⟨s, 0, none⟩), v2] w (SelPost ((onceF (l.flatMap (fn_3 ts len l2))).map nb) w) := by
  have hp := getSib_3 v l w bl len nb vv ts hF hR hs.own.ptrs hin hpos hn v2 l2 h2 hin2
  obtain ⟨L, hL⟩ : ∃ L, (onceF (l.flatMap (fn_3 ts len l2))).map nb = L := ⟨_, rfl⟩
  rw [hL] at hp ⊢
  obtain ⟨d, hd⟩ := hs.doc
  have c0 := hs.nodes
  obtain ⟨a2, c2', hv2, _⟩ := h2.nil
  simp only [List.length_map] at hv2
  subst hv2
  have HP := Lib.hid hp
  have HD := Lib.hid hd
  clear hp hs hF hR hd hL hin hpos h2 hin2
  go_enter Try.func42, Try.ntmps42
  go_wp2_with fail
  refine HP.out.mono ?_
  rintro e w1 ⟨v', rfl, ho, hb⟩
  have c1' := cell_below hb.out HD.out
  have c0' := cell_below hb.out c0
  obtain ⟨a', cap', hv, _⟩ := ho.out.ptrs.nil
  rw [List.length_map] at hv
  subst hv
  clear HP HD
  go_wp2
  go_ret
  refine ⟨w1.heap.size, .slice a' L.length cap', rfl, Lib.hid ⟨?_, ⟨d, ?_⟩, ?_, hb.out.size⟩, Lib.hid ?_⟩
  · exact cell_alloc_new' _ _ _ (by simp) rfl
  · exact cell_alloc_new' _ _ _ (by simp) rfl
  · exact ho.out.alloc _
  · exact hb.out.alloc hb.out.size _

set_option maxRecDepth 100000 in
set_option maxHeartbeats 1000000 in
theorem selPrevUntilNodes {B B' : Nat} (s : Nat) (v : Value) (l : List Nat) (w : World) (bl len : Nat) (nb : Nat → Nat) (vv : Nat → Value) (ts : List NodeD) (hs : SelAt w s v (l.map nb) B) (hF : Forest B' w bl len nb vv ts) (hR : RightT ts len)
    (hin : ∀ i ∈ l, i < len) (hpos : ∀ i ∈ l, 0 < i) (hn : l.length ≤ 200) (v2 : Value) (l2 : List Nat) (h2 : PtrsOf w v2 (l2.map nb)) (hin2 : ∀ i ∈ l2, i < len) :
    Calls Try.prog 40 #[.pointer (some ⟨s, 0, none⟩), v2] w (SelPost ((onceF (l.flatMap (fn_m3 ts len l2))).map nb) w) := by
  have hp := getSib_m3 v l w bl len nb vv ts hF hR hs.own.ptrs hin hpos hn v2 l2 h2 hin2
  obtain ⟨L, hL⟩ : ∃ L, (onceF (l.flatMap (fn_m3 ts len l2))).map nb = L := ⟨_, rfl⟩
  rw [hL] at hp ⊢
  obtain ⟨d, hd⟩ := hs.doc
  have c0 := hs.nodes
  obtain ⟨a2, c2', hv2, _⟩ := h2.nil
  simp only [List.length_map] at hv2
  subst hv2
  have HP := Lib.hid hp
  have HD := Lib.hid hd
  clear hp hs hF hR hd hL hin hpos h2 hin2
  go_enter Try.func40, Try.ntmps40
  go_wp2_with fail
  refine HP.out.mono ?_
  rintro e w1 ⟨v', rfl, ho, hb⟩
  have c1' := cell_below hb.out HD.out
  have c0' := cell_below hb.out c0
  obtain ⟨a', cap', hv, _⟩ := ho.out.ptrs.nil
  rw [List.length_map] at hv
  subst hv
  clear HP HD
  go_wp2
  go_ret
  refine ⟨w1.heap.size, .slice a' L.length cap', rfl, Lib.hid ⟨?_, ⟨d, ?_⟩, ?_, hb.out.size⟩, Lib.hid ?_⟩
  · exact cell_alloc_new' _ _ _ (by simp) rfl
  · exact cell_alloc_new' _ _ _ (by simp) rfl
  · exact ho.out.alloc _
  · exact hb.out.alloc hb.out.size _

set_option maxRecDepth 100000 in
set_option maxHeartbeats 1000000 in
theorem selChildren {B B' : Nat} (s : Nat) (v : Value) (l : List Nat) (w : World) (bl len : Nat) (nb : Nat → Nat) (vv : Nat → Value) (ts : List NodeD) (hs : SelAt w s v (l.map nb) B) (hF : Forest B' w bl len nb vv ts) (hR : RightT ts len)
    (hin : ∀ i ∈ l, i < len) (hn : l.length ≤ 200) :
    Calls Try.prog 32 #[.pointer (some ⟨s, 0, none⟩)] w (SelPost ((onceF (l.flatMap (kidL ts len))).map nb) w) := by
  have hp := getKids v l w bl len nb vv ts hF hR hs.own.ptrs hin hn
  obtain ⟨L, hL⟩ : ∃ L, (onceF (l.flatMap (kidL ts len))).map nb = L := ⟨_, rfl⟩
  rw [hL] at hp ⊢
  obtain ⟨d, hd⟩ := hs.doc
  have c0 := hs.nodes
  have HP := Lib.hid hp
  have HD := Lib.hid hd
  clear hp hs hF hR hd hL hin
  go_enter Try.func32, Try.ntmps32
  go_wp2_with fail
  refine HP.out.mono ?_
  rintro e w1 ⟨v', rfl, ho, hb⟩
  have c1' := cell_below hb.out HD.out
  have c0' := cell_below hb.out c0
  obtain ⟨a', cap', hv, _⟩ := ho.out.ptrs.nil
  rw [List.length_map] at hv
  subst hv
  clear HP HD
  go_wp2
  go_ret
  refine ⟨w1.heap.size, .slice a' L.length cap', rfl, Lib.hid ⟨?_, ⟨d, ?_⟩, ?_, hb.out.size⟩, Lib.hid ?_⟩
  · exact cell_alloc_new' _ _ _ (by simp) rfl
  · exact cell_alloc_new' _ _ _ (by simp) rfl
  · exact ho.out.alloc _
  · exact hb.out.alloc hb.out.size _

set_option maxRecDepth 100000 in
set_option maxHeartbeats 2000000 in
theorem implsiblings {B B' : Nat} (s : Nat) (v : Value) (l : List Nat) (w : World) (bl len : Nat) (nb : Nat → Nat) (vv : Nat → Value) (ts : List NodeD) (hs : SelAt w s v (l.map nb) B) (hF : Forest B' w bl len nb vv ts) (hR : RightT ts len)
    (hin : ∀ i ∈ l, i < len) (hpos : ∀ i ∈ l, 0 < i) (hn : l.length ≤ 200) :
    Calls Try.prog 41 #[.pointer (some ⟨s, 0, none⟩)] w (SelPost ((onceF (l.flatMap (fn_0 ts len))).map nb) w) := by
  have hp := selSiblings s v l w bl len nb vv ts hs hF hR hin hpos hn
  obtain ⟨L, hL⟩ : ∃ L, (onceF (l.flatMap (fn_0 ts len))).map nb = L := ⟨_, rfl⟩
  rw [hL] at hp ⊢
  have c0 := hs.nodes
  obtain ⟨a, cap, b, off, rfl, hm, ha, hc⟩ := ptrs_open hs.own.ptrs
  rw [List.length_map] at ha hc hm c0
  have HA := Lib.hid ha
  have HC := Lib.hid hc
  have HP := Lib.hid hp
  have HF := Lib.hid hF
  have HR := Lib.hid hR
  have HI := Lib.hid (And.intro hin hpos)
  clear hp hs hF hR hL hin hpos ha hc
  go_enter Try.func41, Try.ntmps41
  go_wp2
  go_loop [10] (fun i => ∃ k : Nat, k ≤ l.length ∧ i = .int .i64 (k : Int)) (fun i => l.length - (intOf i).toNat)
  case atStart => exact ⟨0, by omega, by go_num⟩
  case round =>
    obtain ⟨k, hk, rfl⟩ := hrel
    by_cases hlt : k < l.length
    · obtain rfl := HA.out (by omega)
      have ck := HC.out k hlt
      rw [show (l.map nb).getD k 0 = nb (l.getD k 0) by simp [List.getD, hlt]] at ck
      have hmem := getD_mem' (d := 0) hlt
      have hxl := HI.out.1 _ hmem
      obtain ⟨p, hp⟩ := par_is HR.out.root hxl (HI.out.2 _ hmem)
      obtain ⟨x, hx⟩ : ∃ x, l.getD k 0 = x := ⟨_, rfl⟩
      rw [hx] at ck hxl hp
      have kx := (HF.out.node hxl).par
      rw [show (nodeR (fun i => i + sz ts i) 0 nb (ts.getD x default) (vv x) x).par = (up (fun i => i + sz ts i) 0 x).map nb from rfl, up_par, hp, Option.map_some, lk_some] at kx
      have hkI : (k : Int) < (l.length : Int) := by omega
      clear hmem hxl hp hx
      go_wp2
      go_round
      case rel => exact ⟨k + 1, by omega, by go_num⟩
      case measure => simp [intOf]; omega
    · obtain rfl : k = l.length := by omega
      clear hlt
      go_wp2_with fail
      refine HP.out.mono ?_
      rintro e w1 ⟨s1, v1, rfl, hs1, hb1⟩
      go_wp2
      go_ret
      exact ⟨s1, v1, rfl, hs1, hb1⟩

set_option maxRecDepth 100000 in
set_option maxHeartbeats 2000000 in
theorem implNextAllOf (W : World) (a : Option Addr) (len cap : Nat) (ts : List NodeD) (hR : RightT ts len) (hN : Nodes W a len ts) (v1 : Value) (l1 : List Nat) (r1 : ReadsAs W v1 (l1.map intV))
    (i1 : ∀ i ∈ l1, i < len) (o1 : Once l1) (n1 : l1.length ≤ 200) (hpos : ∀ i ∈ l1, 0 < i) :
    Calls Try.prog 17 #[.slice a len cap, v1] W (SibPost (onceF (l1.flatMap (fn_2 ts len))) W) := by
  have hlen := hR.le
  have hch := chosen_any W a len cap ts hR hN v1 l1 r1 i1 o1 n1
  have hsel := fun (B B' s : Nat) (v : Value) (w : World) (bl : Nat) (nb : Nat → Nat) (vv : Nat → Value) (hs : SelAt w s v (l1.map nb) B) (hF : Forest B' w bl len nb vv ts) => selNextAll s v l1 w bl len nb vv ts hs hF hR i1 hpos n1
  have hgood : ∀ x ∈ l1, GoodL len ((fn_2 ts len) x) := fun x hx => fn_2_good ts len x (i1 x hx)
  obtain ⟨K, hK⟩ : ∃ K, onceF (l1.flatMap (fn_2 ts len)) = K := ⟨_, rfl⟩
  have hKm : ∀ i ∈ K, i < len := fun i hi => flat_lt hgood i (by rw [hK]; exact hi)
  have hKn : K.length ≤ 200 := Nat.le_trans (once_le (by rw [← hK]; exact onceF_once _) hKm) hlen
  rw [hK] at hsel ⊢
  have HKM := Lib.hid hKm
  have HCH := Lib.hid hch
  have HSEL := Lib.hid hsel
  clear hR hN hch r1 i1 o1 hK hKm hsel hgood hpos
  go_enter Try.func17, Try.ntmps17
  go_wp2_with fail
  refine HCH.out.mono ?_
  rintro e w1 ⟨bl, nb, vv, s, v, rfl, hF, hs, hb⟩
  have hsp := HSEL.out _ _ s v w1 bl nb vv hs.out hF.out
  have HSP := Lib.hid hsp
  clear hsp HCH HSEL
  go_wp2_with fail
  refine HSP.out.mono ?_
  rintro e w3 ⟨s3, v3, rfl, hs3, hb3⟩
  have hF3 := hF.out.below hb3.out
  have HB03 := Lib.hid (hb.out.trans (hb3.out.mono hb.out.size))
  have c0 := hs3.out.nodes
  have hpl := placesOf_any w3 bl len len nb vv ts hF3 hlen v3 K hs3.out.own.ptrs HKM.out hKn
  have HPL := Lib.hid hpl
  clear hpl hF3 hs3 hb3 HSP hF hs hb
  go_wp2_with fail
  refine HPL.out.mono ?_
  rintro e w4 ⟨v4, rfl, ho4, hb4⟩
  have hfin := Lib.hid (HB03.out.trans (hb4.out.mono HB03.out.size))
  have hown : Hid (OwnPl w4 W.heap.size v4 K) := Lib.hid (ownsRow_base ho4.out HB03.out.size)
  clear HPL ho4 hb4
  go_wp2
  go_ret2
  exact ⟨v4, rfl, hown, hfin⟩

set_option maxRecDepth 100000 in
set_option maxHeartbeats 2000000 in
theorem implNextOf (W : World) (a : Option Addr) (len cap : Nat) (ts : List NodeD) (hR : RightT ts len) (hN : Nodes W a len ts) (v1 : Value) (l1 : List Nat) (r1 : ReadsAs W v1 (l1.map intV))
    (i1 : ∀ i ∈ l1, i < len) (o1 : Once l1) (n1 : l1.length ≤ 200) (hpos : ∀ i ∈ l1, 0 < i) :
    Calls Try.prog 22 #[.slice a len cap, v1] W (SibPost (onceF (l1.flatMap (fn_1 ts len))) W) := by
  have hlen := hR.le
  have hch := chosen_any W a len cap ts hR hN v1 l1 r1 i1 o1 n1
  have hsel := fun (B B' s : Nat) (v : Value) (w : World) (bl : Nat) (nb : Nat → Nat) (vv : Nat → Value) (hs : SelAt w s v (l1.map nb) B) (hF : Forest B' w bl len nb vv ts) => selNext s v l1 w bl len nb vv ts hs hF hR i1 hpos n1
  have hgood : ∀ x ∈ l1, GoodL len ((fn_1 ts len) x) := fun x hx => fn_1_good ts len x (i1 x hx)
  obtain ⟨K, hK⟩ : ∃ K, onceF (l1.flatMap (fn_1 ts len)) = K := ⟨_, rfl⟩
  have hKm : ∀ i ∈ K, i < len := fun i hi => flat_lt hgood i (by rw [hK]; exact hi)
  have hKn : K.length ≤ 200 := Nat.le_trans (once_le (by rw [← hK]; exact onceF_once _) hKm) hlen
  rw [hK] at hsel ⊢
  have HKM := Lib.hid hKm
  have HCH := Lib.hid hch
  have HSEL := Lib.hid hsel
  clear hR hN hch r1 i1 o1 hK hKm hsel hgood hpos
  go_enter Try.func22, Try.ntmps22
  go_wp2_with fail
  refine HCH.out.mono ?_
  rintro e w1 ⟨bl, nb, vv, s, v, rfl, hF, hs, hb⟩
  have hsp := HSEL.out _ _ s v w1 bl nb vv hs.out hF.out
  have HSP := Lib.hid hsp
  clear hsp HCH HSEL
  go_wp2_with fail
  refine HSP.out.mono ?_
  rintro e w3 ⟨s3, v3, rfl, hs3, hb3⟩
  have hF3 := hF.out.below hb3.out
  have HB03 := Lib.hid (hb.out.trans (hb3.out.mono hb.out.size))
  have c0 := hs3.out.nodes
  have hpl := placesOf_any w3 bl len len nb vv ts hF3 hlen v3 K hs3.out.own.ptrs HKM.out hKn
  have HPL := Lib.hid hpl
  clear hpl hF3 hs3 hb3 HSP hF hs hb
  go_wp2_with fail
  refine HPL.out.mono ?_
  rintro e w4 ⟨v4, rfl, ho4, hb4⟩
  have hfin := Lib.hid (HB03.out.trans (hb4.out.mono HB03.out.size))
  have hown : Hid (OwnPl w4 W.heap.size v4 K) := Lib.hid (ownsRow_base ho4.out HB03.out.size)
  clear HPL ho4 hb4
  go_wp2
  go_ret2
  exact ⟨v4, rfl, hown, hfin⟩

set_option maxRecDepth 100000 in
set_option maxHeartbeats 2000000 in
theorem implPrevOf (W : World) (a : Option Addr) (len cap : Nat) (ts : List NodeD) (hR : RightT ts len) (hN : Nodes W a len ts) (v1 : Value) (l1 : List Nat) (r1 : ReadsAs W v1 (l1.map intV))
    (i1 : ∀ i ∈ l1, i < len) (o1 : Once l1) (n1 : l1.length ≤ 200) (hpos : ∀ i ∈ l1, 0 < i) :
    Calls Try.prog 23 #[.slice a len cap, v1] W (SibPost (onceF (l1.flatMap (fn_m1 ts len))) W) := by
  have hlen := hR.le
  have hch := chosen_any W a len cap ts hR hN v1 l1 r1 i1 o1 n1
  have hsel := fun (B B' s : Nat) (v : Value) (w : World) (bl : Nat) (nb : Nat → Nat) (vv : Nat → Value) (hs : SelAt w s v (l1.map nb) B) (hF : Forest B' w bl len nb vv ts) => selPrev s v l1 w bl len nb vv ts hs hF hR i1 hpos n1
  have hgood : ∀ x ∈ l1, GoodL len ((fn_m1 ts len) x) := fun x hx => fn_m1_good ts len x (i1 x hx)
  obtain ⟨K, hK⟩ : ∃ K, onceF (l1.flatMap (fn_m1 ts len)) = K := ⟨_, rfl⟩
  have hKm : ∀ i ∈ K, i < len := fun i hi => flat_lt hgood i (by rw [hK]; exact hi)
  have hKn : K.length ≤ 200 := Nat.le_trans (once_le (by rw [← hK]; exact onceF_once _) hKm) hlen
  rw [hK] at hsel ⊢
  have HKM := Lib.hid hKm
  have HCH := Lib.hid hch
  have HSEL := Lib.hid hsel
  clear hR hN hch r1 i1 o1 hK hKm hsel hgood hpos
  go_enter Try.func23, Try.ntmps23
  go_wp2_with fail
  refine HCH.out.mono ?_
  rintro e w1 ⟨bl, nb, vv, s, v, rfl, hF, hs, hb⟩
  have hsp := HSEL.out _ _ s v w1 bl nb vv hs.out hF.out
  have HSP := Lib.hid hsp
  clear hsp HCH HSEL
  go_wp2_with fail
  refine HSP.out.mono ?_
  rintro e w3 ⟨s3, v3, rfl, hs3, hb3⟩
  have hF3 := hF.out.below hb3.out
  have HB03 := Lib.hid (hb.out.trans (hb3.out.mono hb.out.size))
  have c0 := hs3.out.nodes
  have hpl := placesOf_any w3 bl len len nb vv ts hF3 hlen v3 K hs3.out.own.ptrs HKM.out hKn
  have HPL := Lib.hid hpl
  clear hpl hF3 hs3 hb3 HSP hF hs hb
  go_wp2_with fail
  refine HPL.out.mono ?_
  rintro e w4 ⟨v4, rfl, ho4, hb4⟩
  have hfin := Lib.hid (HB03.out.trans (hb4.out.mono HB03.out.size))
  have hown : Hid (OwnPl w4 W.heap.size v4 K) := Lib.hid (ownsRow_base ho4.out HB03.out.size)
  clear HPL ho4 hb4
  go_wp2
  go_ret2
  exact ⟨v4, rfl, hown, hfin⟩

set_option maxRecDepth 100000 in
set_option maxHeartbeats 2000000 in
theorem implSiblingsOf (W : World) (a : Option Addr) (len cap : Nat) (ts : List NodeD) (hR : RightT ts len) (hN : Nodes W a len ts) (v1 : Value) (l1 : List Nat) (r1 : ReadsAs W v1 (l1.map intV))
    (i1 : ∀ i ∈ l1, i < len) (o1 : Once l1) (n1 : l1.length ≤ 200) (hpos : ∀ i ∈ l1, 0 < i) :
    Calls Try.prog 19 #[.slice a len cap, v1] W (SibPost (onceF (l1.flatMap (fn_0 ts len))) W) := by
  have hlen := hR.le
  have hch := chosen_any W a len cap ts hR hN v1 l1 r1 i1 o1 n1
  have hsel := fun (B B' s : Nat) (v : Value) (w : World) (bl : Nat) (nb : Nat → Nat) (vv : Nat → Value) (hs : SelAt w s v (l1.map nb) B) (hF : Forest B' w bl len nb vv ts) => implsiblings s v l1 w bl len nb vv ts hs hF hR i1 hpos n1
  have hgood : ∀ x ∈ l1, GoodL len ((fn_0 ts len) x) := fun x hx => fn_0_good ts len x (i1 x hx)
  obtain ⟨K, hK⟩ : ∃ K, onceF (l1.flatMap (fn_0 ts len)) = K := ⟨_, rfl⟩
  have hKm : ∀ i ∈ K, i < len := fun i hi => flat_lt hgood i (by rw [hK]; exact hi)
  have hKn : K.length ≤ 200 := Nat.le_trans (once_le (by rw [← hK]; exact onceF_once _) hKm) hlen
  rw [hK] at hsel ⊢
  have HKM := Lib.hid hKm
  have HCH := Lib.hid hch
  have HSEL := Lib.hid hsel
  clear hR hN hch r1 i1 o1 hK hKm hsel hgood hpos
  go_enter Try.func19, Try.ntmps19
  go_wp2_with fail
  refine HCH.out.mono ?_
  rintro e w1 ⟨bl, nb, vv, s, v, rfl, hF, hs, hb⟩
  have hsp := HSEL.out _ _ s v w1 bl nb vv hs.out hF.out
  have HSP := Lib.hid hsp
  clear hsp HCH HSEL
  go_wp2_with fail
  refine HSP.out.mono ?_
  rintro e w3 ⟨s3, v3, rfl, hs3, hb3⟩
  have hF3 := hF.out.below hb3.out
  have HB03 := Lib.hid (hb.out.trans (hb3.out.mono hb.out.size))
  have c0 := hs3.out.nodes
  have hpl := placesOf_any w3 bl len len nb vv ts hF3 hlen v3 K hs3.out.own.ptrs HKM.out hKn
  have HPL := Lib.hid hpl
  clear hpl hF3 hs3 hb3 HSP hF hs hb
  go_wp2_with fail
  refine HPL.out.mono ?_
  rintro e w4 ⟨v4, rfl, ho4, hb4⟩
  have hfin := Lib.hid (HB03.out.trans (hb4.out.mono HB03.out.size))
  have hown : Hid (OwnPl w4 W.heap.size v4 K) := Lib.hid (ownsRow_base ho4.out HB03.out.size)
  clear HPL ho4 hb4
  go_wp2
  go_ret2
  exact ⟨v4, rfl, hown, hfin⟩

set_option maxRecDepth 100000 in
set_option maxHeartbeats 2000000 in
theorem implNextUntilOf (W : World) (a : Option Addr) (len cap : Nat) (ts : List NodeD) (hR : RightT ts len) (hN : Nodes W a len ts) (v1 : Value) (l1 : List Nat) (r1 : ReadsAs W v1 (l1.map intV))
    (i1 : ∀ i ∈ l1, i < len) (o1 : Once l1) (n1 : l1.length ≤ 200) (hpos : ∀ i ∈ l1, 0 < i) (v2 : Value) (l2 : List Nat) (r2 : ReadsAs W v2 (l2.map intV)) (i2 : ∀ i ∈ l2, i < len) (n2 : l2.length ≤ 200) :
    Calls Try.prog 21 #[.slice a len cap, v1, v2] W (SibPost (onceF (l1.flatMap (fn_3 ts len l2))) W) := by
  have hlen := hR.le
  have hch := chosen_any W a len cap ts hR hN v1 l1 r1 i1 o1 n1
  have hsel := fun (B B' s : Nat) (v : Value) (w : World) (bl : Nat) (nb : Nat → Nat) (vv : Nat → Value) (hs : SelAt w s v (l1.map nb) B) (hF : Forest B' w bl len nb vv ts) (x : Value) (hx : PtrsOf w x (l2.map nb)) => selNextUntilNodes s v l1 w bl len nb vv ts hs hF hR i1 hpos n1 x l2 hx i2
  have hgood : ∀ x ∈ l1, GoodL len ((fn_3 ts len l2) x) := fun x hx => fn_3_good ts len l2 x (i1 x hx)
  obtain ⟨K, hK⟩ : ∃ K, onceF (l1.flatMap (fn_3 ts len l2)) = K := ⟨_, rfl⟩
  have hKm : ∀ i ∈ K, i < len := fun i hi => flat_lt hgood i (by rw [hK]; exact hi)
  have hKn : K.length ≤ 200 := Nat.le_trans (once_le (by rw [← hK]; exact onceF_once _) hKm) hlen
  rw [hK] at hsel ⊢
  have HKM := Lib.hid hKm
  have HCH := Lib.hid hch
  have HSEL := Lib.hid hsel
  have HV := Lib.hid (And.intro r2 i2)
  obtain ⟨ra, rc, rfl, _⟩ := r2.nil
  rw [List.length_map]
  clear hR hN hch r1 i1 o1 hK hKm hsel hgood hpos r2 i2
  go_enter Try.func21, Try.ntmps21
  go_wp2_with fail
  refine HCH.out.mono ?_
  rintro e w1 ⟨bl, nb, vv, s, v, rfl, hF, hs, hb⟩
  have hth := these_any bl len len nb _ l2 w1 (fun i hi => hF.out.cell hi) hlen (HV.out.1.below hb.out) HV.out.2 n2
  rw [List.length_map] at hth
  have HTH := Lib.hid hth
  clear hth HCH
  go_wp2_with fail
  refine HTH.out.mono ?_
  rintro e w2 ⟨x, rfl, hx, hb2⟩
  have hF2 := hF.out.below hb2.out
  have hs2 := hs.out.below hb2.out
  have hb02 : Below W.heap.size W w2 := hb.out.trans (hb2.out.mono hb.out.size)
  have hsp := HSEL.out _ _ s v w2 bl nb vv hs2 hF2 x (OwnPtrs.ptrs hx.out)
  have HF2 := Lib.hid hF2
  have HB02 := Lib.hid hb02
  have HSP := Lib.hid hsp
  obtain ⟨xa, xc, hxe, _⟩ := hx.out.ptrs.nil
  rw [List.length_map, List.length_map] at hxe
  subst hxe
  clear hsp HTH HSEL hF2 hs2 hb02 hF hs hb hb2 hx
  go_wp2_with fail
  refine HSP.out.mono ?_
  rintro e w3 ⟨s3, v3, rfl, hs3, hb3⟩
  have hF3 := HF2.out.below hb3.out
  have HB03 := Lib.hid (HB02.out.trans (hb3.out.mono HB02.out.size))
  clear HF2 HB02
  have c0 := hs3.out.nodes
  have hpl := placesOf_any w3 bl len len nb vv ts hF3 hlen v3 K hs3.out.own.ptrs HKM.out hKn
  have HPL := Lib.hid hpl
  clear hpl hF3 hs3 hb3 HSP
  go_wp2_with fail
  refine HPL.out.mono ?_
  rintro e w4 ⟨v4, rfl, ho4, hb4⟩
  have hfin := Lib.hid (HB03.out.trans (hb4.out.mono HB03.out.size))
  have hown : Hid (OwnPl w4 W.heap.size v4 K) := Lib.hid (ownsRow_base ho4.out HB03.out.size)
  clear HPL ho4 hb4
  go_wp2
  go_ret2
  exact ⟨v4, rfl, hown, hfin⟩

set_option maxRecDepth 100000 in
set_option maxHeartbeats 2000000 in
theorem implPrevUntilOf (W : World) (a : Option Addr) (len cap : Nat) (ts : List NodeD) (hR : RightT ts len) (hN : Nodes W a len ts) (v1 : Value) (l1 : List Nat) (r1 : ReadsAs W v1 (l1.map intV))
    (i1 : ∀ i ∈ l1, i < len) (o1 : Once l1) (n1 : l1.length ≤ 200) (hpos : ∀ i ∈ l1, 0 < i) (v2 : Value) (l2 : List Nat) (r2 : ReadsAs W v2 (l2.map intV)) (i2 : ∀ i ∈ l2, i < len) (n2 : l2.length ≤ 200) :
    Calls Try.prog 18 #[.slice a len cap, v1, v2] W (SibPost (onceF (l1.flatMap (fn_m3 ts len l2))) W) := by
  have hlen := hR.le
  have hch := chosen_any W a len cap ts hR hN v1 l1 r1 i1 o1 n1
  have hsel := fun (B B' s : Nat) (v : Value) (w : World) (bl : Nat) (nb : Nat → Nat) (vv : Nat → Value) (hs : SelAt w s v (l1.map nb) B) (hF : Forest B' w bl len nb vv ts) (x : Value) (hx : PtrsOf w x (l2.map nb)) => selPrevUntilNodes s v l1 w bl len nb vv ts hs hF hR i1 hpos n1 x l2 hx i2
  have hgood : ∀ x ∈ l1, GoodL len ((fn_m3 ts len l2) x) := fun x hx => fn_m3_good ts len l2 x (i1 x hx)
  obtain ⟨K, hK⟩ : ∃ K, onceF (l1.flatMap (fn_m3 ts len l2)) = K := ⟨_, rfl⟩
  have hKm : ∀ i ∈ K, i < len := fun i hi => flat_lt hgood i (by rw [hK]; exact hi)
  have hKn : K.length ≤ 200 := Nat.le_trans (once_le (by rw [← hK]; exact onceF_once _) hKm) hlen
  rw [hK] at hsel ⊢
  have HKM := Lib.hid hKm
  have HCH := Lib.hid hch
  have HSEL := Lib.hid hsel
  have HV := Lib.hid (And.intro r2 i2)
  obtain ⟨ra, rc, rfl, _⟩ := r2.nil
  rw [List.length_map]
  clear hR hN hch r1 i1 o1 hK hKm hsel hgood hpos r2 i2
  go_enter Try.func18, Try.ntmps18
  go_wp2_with fail
  refine HCH.out.mono ?_
  rintro e w1 ⟨bl, nb, vv, s, v, rfl, hF, hs, hb⟩
  have hth := these_any bl len len nb _ l2 w1 (fun i hi => hF.out.cell hi) hlen (HV.out.1.below hb.out) HV.out.2 n2
  rw [List.length_map] at hth
  have HTH := Lib.hid hth
  clear hth HCH
  go_wp2_with fail
  refine HTH.out.mono ?_
  rintro e w2 ⟨x, rfl, hx, hb2⟩
  have hF2 := hF.out.below hb2.out
  have hs2 := hs.out.below hb2.out
  have hb02 : Below W.heap.size W w2 := hb.out.trans (hb2.out.mono hb.out.size)
  have hsp := HSEL.out _ _ s v w2 bl nb vv hs2 hF2 x (OwnPtrs.ptrs hx.out)
  have HF2 := Lib.hid hF2
  have HB02 := Lib.hid hb02
  have HSP := Lib.hid hsp
  obtain ⟨xa, xc, hxe, _⟩ := hx.out.ptrs.nil
  rw [List.length_map, List.length_map] at hxe
  subst hxe
  clear hsp HTH HSEL hF2 hs2 hb02 hF hs hb hb2 hx
  go_wp2_with fail
  refine HSP.out.mono ?_
  rintro e w3 ⟨s3, v3, rfl, hs3, hb3⟩
  have hF3 := HF2.out.below hb3.out
  have HB03 := Lib.hid (HB02.out.trans (hb3.out.mono HB02.out.size))
  clear HF2 HB02
  have c0 := hs3.out.nodes
  have hpl := placesOf_any w3 bl len len nb vv ts hF3 hlen v3 K hs3.out.own.ptrs HKM.out hKn
  have HPL := Lib.hid hpl
  clear hpl hF3 hs3 hb3 HSP
  go_wp2_with fail
  refine HPL.out.mono ?_
  rintro e w4 ⟨v4, rfl, ho4, hb4⟩
  have hfin := Lib.hid (HB03.out.trans (hb4.out.mono HB03.out.size))
  have hown : Hid (OwnPl w4 W.heap.size v4 K) := Lib.hid (ownsRow_base ho4.out HB03.out.size)
  clear HPL ho4 hb4
  go_wp2
  go_ret2
  exact ⟨v4, rfl, hown, hfin⟩

set_option maxRecDepth 100000 in
set_option maxHeartbeats 2000000 in
theorem implChildrenOf (W : World) (a : Option Addr) (len cap : Nat) (ts : List NodeD) (hR : RightT ts len) (hN : Nodes W a len ts) (v1 : Value) (l1 : List Nat) (r1 : ReadsAs W v1 (l1.map intV))
    (i1 : ∀ i ∈ l1, i < len) (o1 : Once l1) (n1 : l1.length ≤ 200) :
    Calls Try.prog 12 #[.slice a len cap, v1] W (SibPost (onceF (l1.flatMap (kidL ts len))) W) := by
  have hlen := hR.le
  have hch := chosen_any W a len cap ts hR hN v1 l1 r1 i1 o1 n1
  have hsel := fun (B B' s : Nat) (v : Value) (w : World) (bl : Nat) (nb : Nat → Nat) (vv : Nat → Value) (hs : SelAt w s v (l1.map nb) B) (hF : Forest B' w bl len nb vv ts) => selChildren s v l1 w bl len nb vv ts hs hF hR i1 n1
  have hgood : ∀ x ∈ l1, GoodL len ((kidL ts len) x) := fun x hx => kidL_good ts len x (i1 x hx)
  obtain ⟨K, hK⟩ : ∃ K, onceF (l1.flatMap (kidL ts len)) = K := ⟨_, rfl⟩
  have hKm : ∀ i ∈ K, i < len := fun i hi => flat_lt hgood i (by rw [hK]; exact hi)
  have hKn : K.length ≤ 200 := Nat.le_trans (once_le (by rw [← hK]; exact onceF_once _) hKm) hlen
  rw [hK] at hsel ⊢
  have HKM := Lib.hid hKm
  have HCH := Lib.hid hch
  have HSEL := Lib.hid hsel
  clear hR hN hch r1 i1 o1 hK hKm hsel hgood
  go_enter Try.func12, Try.ntmps12
  go_wp2_with fail
  refine HCH.out.mono ?_
  rintro e w1 ⟨bl, nb, vv, s, v, rfl, hF, hs, hb⟩
  have hsp := HSEL.out _ _ s v w1 bl nb vv hs.out hF.out
  have HSP := Lib.hid hsp
  clear hsp HCH HSEL
  go_wp2_with fail
  refine HSP.out.mono ?_
  rintro e w3 ⟨s3, v3, rfl, hs3, hb3⟩
  have hF3 := hF.out.below hb3.out
  have HB03 := Lib.hid (hb.out.trans (hb3.out.mono hb.out.size))
  have c0 := hs3.out.nodes
  have hpl := placesOf_any w3 bl len len nb vv ts hF3 hlen v3 K hs3.out.own.ptrs HKM.out hKn
  have HPL := Lib.hid hpl
  clear hpl hF3 hs3 hb3 HSP hF hs hb
  go_wp2_with fail
  refine HPL.out.mono ?_
  rintro e w4 ⟨v4, rfl, ho4, hb4⟩
  have hfin := Lib.hid (HB03.out.trans (hb4.out.mono HB03.out.size))
  have hown : Hid (OwnPl w4 W.heap.size v4 K) := Lib.hid (ownsRow_base ho4.out HB03.out.size)
  clear HPL ho4 hb4
  go_wp2
  go_ret2
  exact ⟨v4, rfl, hown, hfin⟩

end Go.Proofs.Ytjidbnegoailcaa
