/- cascadia's only-child selector over a tree in memory; impl.IsOnly. -/
import Derived.Test.YtobnglgnoflbnaaSameKin
import Derived.Test.YtobnglgnoflbnaaMatchAttr
namespace Go.Proofs.Ytobnglgnoflbnaa
open Go.RowKit
set_option linter.unusedVariables false
set_option linter.unusedSimpArgs false

def OnlyPost (v : Bool) (w : World) (e : Ending) (w' : World) : Prop := e = .returned (.bool v) ∧ Hid (Below w.heap.size w w')

theorem data_of_el {n : NodeD} (h : n.kind = 3) : dataOf n = n.tag := by unfold dataOf; rw [if_neg (by omega), if_pos h]

set_option maxRecDepth 100000 in
set_option maxHeartbeats 4000000 in
theorem only_false {B' : Nat} (w : World) (bl len : Nat) (nb : Nat → Nat) (vv : Nat → Value) (ts : List NodeD) (hF : Forest B' w bl len nb vv ts) (hR : RightT ts len) (x : Nat) (hx : x < len) (hkx : kd ts x = 3) (p : Nat) (hp : par (sz ts) x = some p) :
    Calls Try.prog 93 #[.agg #[.bool false], .pointer (some ⟨nb x, 0, none⟩)] w (OnlyPost (decide ((lb (sameKid ts p x false) len).length = 1)) w) := by
  have hlen := hR.le
  obtain ⟨hp1, hp2, _⟩ := par_some hp
  have hpl : p < len := by omega
  have hpe := hR.nest.fit p hpl
  have hbel : Below w.heap.size w (w.alloc (.cells #[.bool false] 129)) := (Below.refl _ _).alloc (Nat.le_refl _) _
  have hF0 := hF.below hbel
  have c0 : (w.alloc (.cells #[.bool false] 129)).cell? ⟨w.heap.size, 0, none⟩ = some (.bool false) := cell_alloc_new' _ _ _ rfl rfl
  obtain ⟨w0, hw0⟩ : ∃ w0, w.alloc (.cells #[.bool false] 129) = w0 := ⟨_, rfl⟩
  rw [hw0] at hbel hF0 c0
  have nx0 := hF0.node hx
  have np := hF0.node hpl
  have m5 := nx0.ty
  have m0 := nx0.par
  have m7 := nx0.data
  have p1 := np.fst
  rw [show (nodeR (fun i => i + sz ts i) 0 nb (ts.getD x default) (vv x) x).ty = 3 by show tyOf (kd ts x) = 3; rw [hkx]; rfl] at m5
  rw [show (nodeR (fun i => i + sz ts i) 0 nb (ts.getD x default) (vv x) x).par = (up (fun i => i + sz ts i) 0 x).map nb from rfl, up_par, hp, Option.map_some, lk_some] at m0
  rw [show (nodeR (fun i => i + sz ts i) 0 nb (ts.getD x default) (vv x) x).data = (ts.getD x default).tag from data_of_el hkx] at m7
  rw [show (nodeR (fun i => i + sz ts i) 0 nb (ts.getD p default) (vv p) p).fst = (kidAt (sz ts) p (p + 1)).map nb from rfl] at p1
  obtain ⟨o, ho⟩ : ∃ o, lk ((kidAt (sz ts) p (p + 1)).map nb) = .pointer o := ⟨_, (lk_pointer _).choose_spec.1⟩
  rw [ho] at p1
  obtain ⟨t, ht⟩ : ∃ t, (ts.getD x default).tag = t := ⟨_, rfl⟩
  rw [ht] at m7
  have HT := Lib.hid ht
  have HO := Lib.hid ho
  have HBEL := Lib.hid hbel
  have HF := Lib.hid hF0
  have HR := Lib.hid hR
  have HPE := Lib.hid hpe
  have HP2 := Lib.hid (And.intro hp1 (And.intro hp2 hp))
  have hz1 : 1 ≤ sz ts p := by omega
  have HZ := Lib.hid hz1
  clear ht ho hbel hF0 nx0 np hF hR hp hkx hpe hp2 hz1
  go_enter Try.func93, Try.ntmps93
  go_wp2
  clear hw0
  go_loopg [6, 7] (sz ts p - 1) (fun gk n c wr => ∃ j : Nat, j + gk = p + sz ts p ∧ p < j ∧ (j < p + sz ts p → par (sz ts) j = some p) ∧ c = lk ((kidAt (sz ts) p j).map nb) ∧ n = .int .i64 ((lb (sameKid ts p x false) j).length : Int) ∧ (lb (sameKid ts p x false) j).length ≤ 1 ∧ ∃ d, wr = w0.drewN d)
  case atStart => exact ⟨p + 1, by have := HZ.out; omega, by omega, fun h => par_first (n := len) hpl (by omega), HO.out.symm, by rw [same_start]; rfl, by rw [same_start]; simp, 0, rfl⟩
  case round =>
    obtain ⟨j, hj, hpj, hpar, rfl, rfl, hle, d, rfl⟩ := hrel
    by_cases hlt : j < p + sz ts p
    · have hgk : 1 ≤ gk := by omega
      have hparj := hpar hlt
      have hjl : j < len := by have := HPE.out; omega
      have hsj := HR.out.nest.pos j hjl
      have hje := HR.out.nest.lam p j hpl (by omega) hlt
      rw [kidAt_lt hlt, Option.map_some, lk_some]
      have nj := HF.out.node hjl
      have k5 := nj.ty
      have k7 := nj.data
      have k4 := nj.nxt
      rw [show (nodeR (fun i => i + sz ts i) 0 nb (ts.getD j default) (vv j) j).ty = tyOf (kd ts j) from rfl] at k5
      rw [show (nodeR (fun i => i + sz ts i) 0 nb (ts.getD j default) (vv j) j).nxt = (kidAt (sz ts) p (j + sz ts j)).map nb by show (nxtK _ _ _).map nb = _; rw [nxt_kidAt hparj]] at k4
      obtain ⟨o2, ho2⟩ : ∃ o2, lk ((kidAt (sz ts) p (j + sz ts j)).map nb) = .pointer o2 := ⟨_, (lk_pointer _).choose_spec.1⟩
      rw [ho2] at k4
      have hnp : j + sz ts j < p + sz ts p → par (sz ts) (j + sz ts j) = some p := fun h => par_next HR.out.nest hparj hjl h
      have HNP := Lib.hid (And.intro hnp (And.intro ho2 (And.intro hj hje)))
      have hkinds := HR.out.kinds hjl (by omega)
      by_cases h3 : kd ts j = 3
      · rw [show tyOf (kd ts j) = 3 by rw [h3]; rfl] at k5
        rw [show (nodeR (fun i => i + sz ts i) 0 nb (ts.getD j default) (vv j) j).data = (ts.getD j default).tag from data_of_el h3] at k7
        obtain ⟨s, hs⟩ : ∃ s, (ts.getD j default).tag = s := ⟨_, rfl⟩
        rw [hs] at k7
        have hq : sameKid ts p x false j = (!false || (s.toList == t.toList)) := by simp only [sameKid, elKid, hparj, h3, hs, HT.out]; simp
        have hyes : sameKid ts p x false j = true := by rw [hq]; simp [*]
        have hc1 := same_yes hparj hsj hyes
        by_cases hc0 : (lb (sameKid ts p x false) j).length = 1
        · have hdec := only_more' (n := len) hparj hsj (by have := HPE.out; omega) hyes hc0
          have HD := Lib.hid hdec
          have hc0' : 1 ≤ (lb (sameKid ts p x false) j).length := by omega
          clear hdec hc1 hyes hq hc0 hs nj hnp ho2 hj hje hpar hparj hkinds h3
          go_wp2
          go_quiet (fail)
          go_wp2
          go_ret
          exact ⟨by rw [HD.out]; rfl, Lib.hid (below_drewN HBEL.out _)⟩
        · have hc0' : (lb (sameKid ts p x false) j).length = 0 := by omega
          have hc2 : (lb (sameKid ts p x false) (j + sz ts j)).length ≤ 1 := by omega
          have HC := Lib.hid (And.intro hc1 (And.intro hc2 hsj))
          have hc3 : (lb (sameKid ts p x false) j).length < 1 := by omega
          clear hc1 hc2 hyes hq hc0 hs nj hnp ho2 hj hje hpar hparj hkinds h3 hc0' hle
          go_wp2
          go_quiet (fail)
          go_wp2
          go_roundg (gk - sz ts j)
          case measure => have h1 := HC.out.2.2; omega
          case rel => exact ⟨j + sz ts j, by have h1 := HNP.out.2.2.1; have h2 := HNP.out.2.2.2; omega, by omega, HNP.out.1, HNP.out.2.1.symm, by rw [HC.out.1]; go_num, HC.out.2.1, _, rfl⟩
      · have htn : tyOf (kd ts j) ≠ 3 := by
          rcases hkinds with hk | ⟨hk | hk | hk, _⟩
          · exact absurd hk h3
          · exact tyOf_ne (.inr (.inl hk))
          · exact tyOf_ne (.inr (.inr (.inl hk)))
          · exact tyOf_ne (.inr (.inr (.inr hk)))
        obtain ⟨u, hu⟩ : ∃ u, tyOf (kd ts j) = u := ⟨_, rfl⟩
        rw [hu] at k5 htn
        have gt : (u == 3) = false := by simp [htn]
        have gt2 : (u != 3) = true := by simp [htn]
        have hno : sameKid ts p x false j = false := by simp [sameKid, elKid, h3]
        have hc1 := same_no hparj hsj hno
        have hc2 : (lb (sameKid ts p x false) (j + sz ts j)).length ≤ 1 := by omega
        have HC := Lib.hid (And.intro hc1 (And.intro hc2 hsj))
        clear hc1 hc2 hno nj hnp ho2 hj hje hpar hparj hkinds h3 htn hu hle
        go_wp2
        go_quiet (fail)
        go_wp2
        go_roundg (gk - sz ts j)
        case measure => have h1 := HC.out.2.2; omega
        case rel => exact ⟨j + sz ts j, by have h1 := HNP.out.2.2.1; have h2 := HNP.out.2.2.2; omega, by omega, HNP.out.1, HNP.out.2.1.symm, by rw [HC.out.1], HC.out.2.1, _, rfl⟩
    · obtain rfl : j = p + sz ts p := by omega
      rw [kidAt_end, Option.map_none, lk_none]
      have hend := same_end (x := x) (ty := false) (show p + sz ts p ≤ len from HPE.out)
      by_cases hc0 : (lb (sameKid ts p x false) (p + sz ts p)).length = 1
      · have hd : (((lb (sameKid ts p x false) (p + sz ts p)).length : Int) == 1) = true := by simp [hc0]
        have hd2 : decide ((lb (sameKid ts p x false) len).length = 1) = true := by rw [hend]; simp [hc0]
        have HD := Lib.hid hd2
        clear hd2 hc0 hend hj hpar
        go_wp2
        go_ret
        exact ⟨by rw [HD.out]; rfl, Lib.hid (below_drewN HBEL.out _)⟩
      · have hd : (((lb (sameKid ts p x false) (p + sz ts p)).length : Int) == 1) = false := by simp; omega
        have hd2 : decide ((lb (sameKid ts p x false) len).length = 1) = false := by rw [hend]; simp [hc0]
        have HD := Lib.hid hd2
        clear hd2 hc0 hend hj hpar
        go_wp2
        go_ret
        exact ⟨by rw [HD.out]; rfl, Lib.hid (below_drewN HBEL.out _)⟩

set_option maxRecDepth 100000 in
set_option maxHeartbeats 4000000 in
theorem only_true {B' : Nat} (w : World) (bl len : Nat) (nb : Nat → Nat) (vv : Nat → Value) (ts : List NodeD) (hF : Forest B' w bl len nb vv ts) (hR : RightT ts len) (x : Nat) (hx : x < len) (hkx : kd ts x = 3) (p : Nat) (hp : par (sz ts) x = some p) :
    Calls Try.prog 93 #[.agg #[.bool true], .pointer (some ⟨nb x, 0, none⟩)] w (OnlyPost (decide ((lb (sameKid ts p x true) len).length = 1)) w) := by
  have hlen := hR.le
  obtain ⟨hp1, hp2, _⟩ := par_some hp
  have hpl : p < len := by omega
  have hpe := hR.nest.fit p hpl
  have hbel : Below w.heap.size w (w.alloc (.cells #[.bool true] 129)) := (Below.refl _ _).alloc (Nat.le_refl _) _
  have hF0 := hF.below hbel
  have c0 : (w.alloc (.cells #[.bool true] 129)).cell? ⟨w.heap.size, 0, none⟩ = some (.bool true) := cell_alloc_new' _ _ _ rfl rfl
  obtain ⟨w0, hw0⟩ : ∃ w0, w.alloc (.cells #[.bool true] 129) = w0 := ⟨_, rfl⟩
  rw [hw0] at hbel hF0 c0
  have nx0 := hF0.node hx
  have np := hF0.node hpl
  have m5 := nx0.ty
  have m0 := nx0.par
  have m7 := nx0.data
  have p1 := np.fst
  rw [show (nodeR (fun i => i + sz ts i) 0 nb (ts.getD x default) (vv x) x).ty = 3 by show tyOf (kd ts x) = 3; rw [hkx]; rfl] at m5
  rw [show (nodeR (fun i => i + sz ts i) 0 nb (ts.getD x default) (vv x) x).par = (up (fun i => i + sz ts i) 0 x).map nb from rfl, up_par, hp, Option.map_some, lk_some] at m0
  rw [show (nodeR (fun i => i + sz ts i) 0 nb (ts.getD x default) (vv x) x).data = (ts.getD x default).tag from data_of_el hkx] at m7
  rw [show (nodeR (fun i => i + sz ts i) 0 nb (ts.getD p default) (vv p) p).fst = (kidAt (sz ts) p (p + 1)).map nb from rfl] at p1
  obtain ⟨o, ho⟩ : ∃ o, lk ((kidAt (sz ts) p (p + 1)).map nb) = .pointer o := ⟨_, (lk_pointer _).choose_spec.1⟩
  rw [ho] at p1
  obtain ⟨t, ht⟩ : ∃ t, (ts.getD x default).tag = t := ⟨_, rfl⟩
  rw [ht] at m7
  have HT := Lib.hid ht
  have HO := Lib.hid ho
  have HBEL := Lib.hid hbel
  have HF := Lib.hid hF0
  have HR := Lib.hid hR
  have HPE := Lib.hid hpe
  have HP2 := Lib.hid (And.intro hp1 (And.intro hp2 hp))
  have hz1 : 1 ≤ sz ts p := by omega
  have HZ := Lib.hid hz1
  clear ht ho hbel hF0 nx0 np hF hR hp hkx hpe hp2 hz1
  go_enter Try.func93, Try.ntmps93
  go_wp2
  clear hw0
  go_loopg [6, 7] (sz ts p - 1) (fun gk n c wr => ∃ j : Nat, j + gk = p + sz ts p ∧ p < j ∧ (j < p + sz ts p → par (sz ts) j = some p) ∧ c = lk ((kidAt (sz ts) p j).map nb) ∧ n = .int .i64 ((lb (sameKid ts p x true) j).length : Int) ∧ (lb (sameKid ts p x true) j).length ≤ 1 ∧ ∃ d, wr = w0.drewN d)
  case atStart => exact ⟨p + 1, by have := HZ.out; omega, by omega, fun h => par_first (n := len) hpl (by omega), HO.out.symm, by rw [same_start]; rfl, by rw [same_start]; simp, 0, rfl⟩
  case round =>
    obtain ⟨j, hj, hpj, hpar, rfl, rfl, hle, d, rfl⟩ := hrel
    by_cases hlt : j < p + sz ts p
    · have hgk : 1 ≤ gk := by omega
      have hparj := hpar hlt
      have hjl : j < len := by have := HPE.out; omega
      have hsj := HR.out.nest.pos j hjl
      have hje := HR.out.nest.lam p j hpl (by omega) hlt
      rw [kidAt_lt hlt, Option.map_some, lk_some]
      have nj := HF.out.node hjl
      have k5 := nj.ty
      have k7 := nj.data
      have k4 := nj.nxt
      rw [show (nodeR (fun i => i + sz ts i) 0 nb (ts.getD j default) (vv j) j).ty = tyOf (kd ts j) from rfl] at k5
      rw [show (nodeR (fun i => i + sz ts i) 0 nb (ts.getD j default) (vv j) j).nxt = (kidAt (sz ts) p (j + sz ts j)).map nb by show (nxtK _ _ _).map nb = _; rw [nxt_kidAt hparj]] at k4
      obtain ⟨o2, ho2⟩ : ∃ o2, lk ((kidAt (sz ts) p (j + sz ts j)).map nb) = .pointer o2 := ⟨_, (lk_pointer _).choose_spec.1⟩
      rw [ho2] at k4
      have hnp : j + sz ts j < p + sz ts p → par (sz ts) (j + sz ts j) = some p := fun h => par_next HR.out.nest hparj hjl h
      have HNP := Lib.hid (And.intro hnp (And.intro ho2 (And.intro hj hje)))
      have hkinds := HR.out.kinds hjl (by omega)
      by_cases h3 : kd ts j = 3
      · rw [show tyOf (kd ts j) = 3 by rw [h3]; rfl] at k5
        rw [show (nodeR (fun i => i + sz ts i) 0 nb (ts.getD j default) (vv j) j).data = (ts.getD j default).tag from data_of_el h3] at k7
        obtain ⟨s, hs⟩ : ∃ s, (ts.getD j default).tag = s := ⟨_, rfl⟩
        rw [hs] at k7
        have hq : sameKid ts p x true j = (!true || (s.toList == t.toList)) := by simp only [sameKid, elKid, hparj, h3, hs, HT.out]; simp
        by_cases hst : (s.toList == t.toList) = true
        · have hyes : sameKid ts p x true j = true := by rw [hq]; simp [*]
          have hc1 := same_yes hparj hsj hyes
          by_cases hc0 : (lb (sameKid ts p x true) j).length = 1
          · have hdec := only_more' (n := len) hparj hsj (by have := HPE.out; omega) hyes hc0
            have HD := Lib.hid hdec
            have hc0' : 1 ≤ (lb (sameKid ts p x true) j).length := by omega
            clear hdec hc1 hyes hq hc0 hs nj hnp ho2 hj hje hpar hparj hkinds h3
            go_wp2
            go_quiet (fail)
            go_wp2
            go_ret
            exact ⟨by rw [HD.out]; rfl, Lib.hid (below_drewN HBEL.out _)⟩
          · have hc0' : (lb (sameKid ts p x true) j).length = 0 := by omega
            have hc2 : (lb (sameKid ts p x true) (j + sz ts j)).length ≤ 1 := by omega
            have HC := Lib.hid (And.intro hc1 (And.intro hc2 hsj))
            have hc3 : (lb (sameKid ts p x true) j).length < 1 := by omega
            clear hc1 hc2 hyes hq hc0 hs nj hnp ho2 hj hje hpar hparj hkinds h3 hc0' hle
            go_wp2
            go_quiet (fail)
            go_wp2
            go_roundg (gk - sz ts j)
            case measure => have h1 := HC.out.2.2; omega
            case rel => exact ⟨j + sz ts j, by have h1 := HNP.out.2.2.1; have h2 := HNP.out.2.2.2; omega, by omega, HNP.out.1, HNP.out.2.1.symm, by rw [HC.out.1]; go_num, HC.out.2.1, _, rfl⟩
        · have hst' : (s.toList == t.toList) = false := by simpa using hst
          have hno : sameKid ts p x true j = false := by rw [hq]; simp [*]
          have hc1 := same_no hparj hsj hno
          have hc2 : (lb (sameKid ts p x true) (j + sz ts j)).length ≤ 1 := by omega
          have HC := Lib.hid (And.intro hc1 (And.intro hc2 hsj))
          clear hc1 hc2 hno hq hs nj hnp ho2 hj hje hpar hparj hkinds h3 hst hle
          go_wp2
          go_quiet (fail)
          go_wp2
          go_roundg (gk - sz ts j)
          case measure => have h1 := HC.out.2.2; omega
          case rel => exact ⟨j + sz ts j, by have h1 := HNP.out.2.2.1; have h2 := HNP.out.2.2.2; omega, by omega, HNP.out.1, HNP.out.2.1.symm, by rw [HC.out.1], HC.out.2.1, _, rfl⟩
      · have htn : tyOf (kd ts j) ≠ 3 := by
          rcases hkinds with hk | ⟨hk | hk | hk, _⟩
          · exact absurd hk h3
          · exact tyOf_ne (.inr (.inl hk))
          · exact tyOf_ne (.inr (.inr (.inl hk)))
          · exact tyOf_ne (.inr (.inr (.inr hk)))
        obtain ⟨u, hu⟩ : ∃ u, tyOf (kd ts j) = u := ⟨_, rfl⟩
        rw [hu] at k5 htn
        have gt : (u == 3) = false := by simp [htn]
        have gt2 : (u != 3) = true := by simp [htn]
        have hno : sameKid ts p x true j = false := by simp [sameKid, elKid, h3]
        have hc1 := same_no hparj hsj hno
        have hc2 : (lb (sameKid ts p x true) (j + sz ts j)).length ≤ 1 := by omega
        have HC := Lib.hid (And.intro hc1 (And.intro hc2 hsj))
        clear hc1 hc2 hno nj hnp ho2 hj hje hpar hparj hkinds h3 htn hu hle
        go_wp2
        go_quiet (fail)
        go_wp2
        go_roundg (gk - sz ts j)
        case measure => have h1 := HC.out.2.2; omega
        case rel => exact ⟨j + sz ts j, by have h1 := HNP.out.2.2.1; have h2 := HNP.out.2.2.2; omega, by omega, HNP.out.1, HNP.out.2.1.symm, by rw [HC.out.1], HC.out.2.1, _, rfl⟩
    · obtain rfl : j = p + sz ts p := by omega
      rw [kidAt_end, Option.map_none, lk_none]
      have hend := same_end (x := x) (ty := true) (show p + sz ts p ≤ len from HPE.out)
      by_cases hc0 : (lb (sameKid ts p x true) (p + sz ts p)).length = 1
      · have hd : (((lb (sameKid ts p x true) (p + sz ts p)).length : Int) == 1) = true := by simp [hc0]
        have hd2 : decide ((lb (sameKid ts p x true) len).length = 1) = true := by rw [hend]; simp [hc0]
        have HD := Lib.hid hd2
        clear hd2 hc0 hend hj hpar
        go_wp2
        go_ret
        exact ⟨by rw [HD.out]; rfl, Lib.hid (below_drewN HBEL.out _)⟩
      · have hd : (((lb (sameKid ts p x true) (p + sz ts p)).length : Int) == 1) = false := by simp; omega
        have hd2 : decide ((lb (sameKid ts p x true) len).length = 1) = false := by rw [hend]; simp [hc0]
        have HD := Lib.hid hd2
        clear hd2 hc0 hend hj hpar
        go_wp2
        go_ret
        exact ⟨by rw [HD.out]; rfl, Lib.hid (below_drewN HBEL.out _)⟩

set_option maxRecDepth 100000 in
set_option maxHeartbeats 1000000 in
theorem cascOnly_any {B' : Nat} (ty : Bool) (w : World) (bl len : Nat) (nb : Nat → Nat) (vv : Nat → Value) (ts : List NodeD) (hF : Forest B' w bl len nb vv ts) (hR : RightT ts len) (x : Nat) (hx : x < len) (hkx : kd ts x = 3) (p : Nat) (hp : par (sz ts) x = some p) :
    Calls Try.prog 50 #[.pointer (some ⟨nb x, 0, none⟩), .bool ty] w (OnlyPost (decide ((lb (sameKid ts p x ty) len).length = 1)) w) := by
  have hm : Calls Try.prog 93 #[.agg #[.bool ty], .pointer (some ⟨nb x, 0, none⟩)] w (OnlyPost (decide ((lb (sameKid ts p x ty) len).length = 1)) w) := by
    cases ty
    · exact only_false w bl len nb vv ts hF hR x hx hkx p hp
    · exact only_true w bl len nb vv ts hF hR x hx hkx p hp
  obtain ⟨q, hq⟩ : ∃ q, decide ((lb (sameKid ts p x ty) len).length = 1) = q := ⟨_, rfl⟩
  rw [hq] at hm ⊢
  have HM := Lib.hid hm
  clear hm hF hR hq
  go_enter Try.func50, Try.ntmps50
  go_wp2_with fail
  refine HM.out.mono ?_
  rintro e w1 ⟨rfl, hb⟩
  clear HM
  go_wp2
  go_ret
  exact ⟨rfl, hb⟩

/-- The flag of an only-child selector. -/
def flagI (ty : Bool) : Int := if ty then 2 else 0

set_option maxRecDepth 100000 in
set_option maxHeartbeats 1000000 in
theorem implIsOnly_any (W : World) (a : Option Addr) (len cap : Nat) (ts : List NodeD) (hR : RightT ts len) (hN : Nodes W a len ts) (x : Nat) (hx : x < len) (hk : kd ts x = 3) (p : Nat) (hp : par (sz ts) x = some p) (ty : Bool) :
    Calls Try.prog 16 #[.slice a len cap, .int .i64 (x : Int), .int .i64 (flagI ty)] W (TwoBools (decide ((lb (sameKid ts p x ty) len).length = 1)) W) := by
  have hlen := hR.le
  have hg := grown_any W a len cap ts hR hN
  have hall := fun (w1 : World) (bl : Nat) (nb : Nat → Nat) (vv : Nat → Value) (hF : Forest W.heap.size w1 bl len nb vv ts) => cascOnly_any ty w1 bl len nb vv ts hF hR x hx hk p hp
  obtain ⟨q, hq⟩ : ∃ q, decide ((lb (sameKid ts p x ty) len).length = 1) = q := ⟨_, rfl⟩
  rw [hq] at hall ⊢
  have HA := Lib.hid hall
  have HG := Lib.hid hg
  have g1 : decide ((x : Int) < 0) = false := by simp
  have g2 : decide ((len : Int) ≤ (x : Int)) = false := by simp [hx]
  have hxI : (x : Int) < (len : Int) := by omega
  have hb2 : bits BinOp.and IntKind.i64 2 2 = 2 := by decide
  have hb0 : bits BinOp.and IntKind.i64 0 2 = 0 := by decide
  clear hR hN hg hq hk hall hp
  cases ty
  · simp only [flagI]
    go_enter Try.func16, Try.ntmps16
    go_wp2_with fail
    refine HG.out.mono ?_
    rintro e w1 ⟨bl, nb, vv, rfl, hF, hb⟩
    have HO := Lib.hid (HA.out w1 bl nb vv hF.out)
    have c0 := hF.out.cell hx
    clear HG hF HA
    go_wp2_with fail
    refine HO.out.mono ?_
    rintro e w2 ⟨rfl, hbel⟩
    have hfin := Lib.hid (hb.out.trans (hbel.out.mono hb.out.size))
    clear hbel HO
    go_wp2
    go_ret2
    exact ⟨rfl, hfin⟩
  · simp only [flagI]
    go_enter Try.func16, Try.ntmps16
    go_wp2_with fail
    refine HG.out.mono ?_
    rintro e w1 ⟨bl, nb, vv, rfl, hF, hb⟩
    have HO := Lib.hid (HA.out w1 bl nb vv hF.out)
    have c0 := hF.out.cell hx
    clear HG hF HA
    go_wp2_with fail
    refine HO.out.mono ?_
    rintro e w2 ⟨rfl, hbel⟩
    have hfin := Lib.hid (hb.out.trans (hbel.out.mono hb.out.size))
    clear hbel HO
    go_wp2
    go_ret2
    exact ⟨rfl, hfin⟩

end Go.Proofs.Ytobnglgnoflbnaa
