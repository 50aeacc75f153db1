/- The iterator of getChildrenWithSiblingType: the brothers behind. (Printed by gen_sib.py.) The iterator of getChildrenWithSiblingType: the brothers ahead. (Printed by gen_sib.py.) The iterator of getChildrenWithSiblingType: all kids, but one. (Printed by gen_sib.py.) -/
import Derived.Test.YtphppdbhofeagaaGreatBesideAll
namespace Go.Proofs.YtphppdbhofeagaaGreat
open Go.RowKit
set_option linter.unusedVariables false
set_option linter.unusedSimpArgs false

/-- A pointer, or none; the world is as it was. -/
def PtrPost (nb : Nat → Nat) (o : Option Nat) (w : World) (e : Ending) (w' : World) : Prop := e = .returned (lk (o.map nb)) ∧ w = w'

set_option maxRecDepth 100000 in
set_option maxHeartbeats 4000000 in
theorem iterNext_1 {B : Nat} (b1 b2 b3 x p : Nat) (cur : Value) (w : World) (bl len : Nat) (nb : Nat → Nat) (vv : Nat → Value) (ts : List NodeD) (hF : Forest B w bl len nb vv ts) (hR : RightT ts len) (hx : x < len) (hp : par (sz ts) x = some p)
    (c1 : w.cell? ⟨b1, 0, none⟩ = some (.int .i64 1)) (hcur : cur = .pointer (some ⟨nb x, 0, none⟩) ∨ (cur = .pointer none ∧ w.cell? ⟨b3, 0, none⟩ = some (.pointer (some ⟨nb x, 0, none⟩)))) :
    Calls Tryz.prog 110 #[cur, .pointer (some ⟨b1, 0, none⟩), .pointer (some ⟨b2, 0, none⟩), .pointer (some ⟨b3, 0, none⟩)] w (PtrPost nb (rb (elKid ts p) (x + 1) (len - (x + 1))).head? w) := by
  have hlen := hR.le
  obtain ⟨L, hL⟩ : ∃ L, rb (elKid ts p) (x + 1) (len - (x + 1)) = L := ⟨_, rfl⟩
  rw [hL]
  have HL0 := Lib.hid hL
  have HF := Lib.hid hF
  have HR := Lib.hid hR
  have HP := Lib.hid hp
  have HCUR := Lib.hid hcur
  clear hF hR hp hcur hL
  go_enter Tryz.func110, Tryz.ntmps110
  go_wp2
  go_loopg [0] (len - x) (fun gk n wr => ∃ y, gk = len - y ∧ y < len ∧ par (sz ts) y = some p ∧ rb (elKid ts p) (y + 1) (len - (y + 1)) = L ∧ (n = .pointer (some ⟨nb y, 0, none⟩) ∨ (n = .pointer none ∧ w.cell? ⟨b3, 0, none⟩ = some (.pointer (some ⟨nb y, 0, none⟩)))) ∧ wr = w)
  case atStart => exact ⟨x, rfl, hx, HP.out, HL0.out, HCUR.out, rfl⟩
  case round =>
    obtain ⟨y, rfl, hy, hpy, hLy, hn, rfl⟩ := hrel
    have HL := Lib.hid hLy
    have kx := (HF.out.node hy).nxt
    have hxp : (nodeR (fun i => i + sz ts i) 0 nb (ts.getD y default) (vv y) y).nxt = (nxtK (fun i => i + sz ts i) 0 y).map nb := rfl
    rw [hxp] at kx
    clear hLy hxp
    rcases hn with rfl | ⟨rfl, c3⟩
    all_goals
      cases hprv : nxtK (fun i => i + sz ts i) 0 y with
      | none =>
        rw [hprv, Option.map_none, lk_none] at kx
        have hz : L = [] := HL.out.symm.trans (rb_nxt_none (Q := fun k => kd ts k == 3) HR.out.nest hy hpy hprv : rb (elKid ts p) (y + 1) (len - (y + 1)) = [])
        have HZ := Lib.hid hz
        clear hprv hpy hz HL
        go_wp2
        go_ret
        exact ⟨by rw [HZ.out]; rfl, rfl⟩
      | some q =>
          rw [hprv, Option.map_some, lk_some] at kx
          obtain ⟨-, hpq, hqn, hqy⟩ := nxt_some HR.out.nest hy hpy hprv
          have hLq : (if kd ts q == 3 then q :: rb (elKid ts p) (q + 1) (len - (q + 1)) else rb (elKid ts p) (q + 1) (len - (q + 1))) = L := by rw [← HL.out]; exact (rb_nxt_some (Q := fun k => kd ts k == 3) HR.out.nest hy hpy hprv).symm
          have nq := HF.out.node hqn
          have kt := nq.ty
          have hty : (nodeR (fun i => i + sz ts i) 0 nb (ts.getD q default) (vv q) q).ty = tyOf (kd ts q) := rfl
          rw [hty] at kt
          have hkinds := HR.out.kinds hqn (by have := (par_some hpq).1; omega)
          clear hprv hpy
          by_cases h3 : kd ts q = 3
          · have ht : tyOf (kd ts q) = 3 := by rw [h3]; rfl
            rw [ht] at kt
            have hfin : L.head? = some q := by rw [← hLq, h3]; rfl
            have HFIN := Lib.hid hfin
            clear hLq hpq hkinds nq hty h3 ht hfin HL
            go_wp2
            go_ret
            exact ⟨by rw [HFIN.out]; rfl, rfl⟩
          · have ht : tyOf (kd ts q) ≠ 3 := by
              rcases hkinds with hk | ⟨hk | hk | hk, _⟩
              · exact absurd hk h3
              · exact tyOf_ne (.inr (.inl hk))
              · exact tyOf_ne (.inr (.inr (.inl hk)))
              · exact tyOf_ne (.inr (.inr (.inr hk)))
            have hc1 : rb (elKid ts p) (q + 1) (len - (q + 1)) = L := by
              have h5 : (kd ts q == 3) = false := by simp [h3]
              rw [← hLq, h5]; rfl
            obtain ⟨t, hte⟩ : ∃ t, tyOf (kd ts q) = t := ⟨_, rfl⟩
            rw [hte] at kt ht
            have gt : (t == 3) = false := by simp [ht]
            have H := Lib.hid (And.intro hpq hc1)
            clear hLq hpq hkinds nq hty h3 ht hc1 hte HL
            go_wp2
            go_roundg (len - q)
            case measure => omega
            case rel => exact ⟨q, rfl, hqn, H.out.1, H.out.2, .inl rfl, rfl⟩

set_option maxRecDepth 100000 in
set_option maxHeartbeats 4000000 in
theorem iterNext_2 {B : Nat} (b1 b2 b3 x p : Nat) (cur : Value) (w : World) (bl len : Nat) (nb : Nat → Nat) (vv : Nat → Value) (ts : List NodeD) (hF : Forest B w bl len nb vv ts) (hR : RightT ts len) (hx : x < len) (hp : par (sz ts) x = some p)
    (c1 : w.cell? ⟨b1, 0, none⟩ = some (.int .i64 2)) (hcur : cur = .pointer (some ⟨nb x, 0, none⟩) ∨ (cur = .pointer none ∧ w.cell? ⟨b3, 0, none⟩ = some (.pointer (some ⟨nb x, 0, none⟩)))) :
    Calls Tryz.prog 110 #[cur, .pointer (some ⟨b1, 0, none⟩), .pointer (some ⟨b2, 0, none⟩), .pointer (some ⟨b3, 0, none⟩)] w (PtrPost nb (rb (elKid ts p) (x + 1) (len - (x + 1))).head? w) := by
  have hlen := hR.le
  obtain ⟨L, hL⟩ : ∃ L, rb (elKid ts p) (x + 1) (len - (x + 1)) = L := ⟨_, rfl⟩
  rw [hL]
  have HL0 := Lib.hid hL
  have HF := Lib.hid hF
  have HR := Lib.hid hR
  have HP := Lib.hid hp
  have HCUR := Lib.hid hcur
  clear hF hR hp hcur hL
  go_enter Tryz.func110, Tryz.ntmps110
  go_wp2
  go_loopg [0] (len - x) (fun gk n wr => ∃ y, gk = len - y ∧ y < len ∧ par (sz ts) y = some p ∧ rb (elKid ts p) (y + 1) (len - (y + 1)) = L ∧ (n = .pointer (some ⟨nb y, 0, none⟩) ∨ (n = .pointer none ∧ w.cell? ⟨b3, 0, none⟩ = some (.pointer (some ⟨nb y, 0, none⟩)))) ∧ wr = w)
  case atStart => exact ⟨x, rfl, hx, HP.out, HL0.out, HCUR.out, rfl⟩
  case round =>
    obtain ⟨y, rfl, hy, hpy, hLy, hn, rfl⟩ := hrel
    have HL := Lib.hid hLy
    have kx := (HF.out.node hy).nxt
    have hxp : (nodeR (fun i => i + sz ts i) 0 nb (ts.getD y default) (vv y) y).nxt = (nxtK (fun i => i + sz ts i) 0 y).map nb := rfl
    rw [hxp] at kx
    clear hLy hxp
    rcases hn with rfl | ⟨rfl, c3⟩
    all_goals
      cases hprv : nxtK (fun i => i + sz ts i) 0 y with
      | none =>
        rw [hprv, Option.map_none, lk_none] at kx
        have hz : L = [] := HL.out.symm.trans (rb_nxt_none (Q := fun k => kd ts k == 3) HR.out.nest hy hpy hprv : rb (elKid ts p) (y + 1) (len - (y + 1)) = [])
        have HZ := Lib.hid hz
        clear hprv hpy hz HL
        go_wp2
        go_ret
        exact ⟨by rw [HZ.out]; rfl, rfl⟩
      | some q =>
          rw [hprv, Option.map_some, lk_some] at kx
          obtain ⟨-, hpq, hqn, hqy⟩ := nxt_some HR.out.nest hy hpy hprv
          have hLq : (if kd ts q == 3 then q :: rb (elKid ts p) (q + 1) (len - (q + 1)) else rb (elKid ts p) (q + 1) (len - (q + 1))) = L := by rw [← HL.out]; exact (rb_nxt_some (Q := fun k => kd ts k == 3) HR.out.nest hy hpy hprv).symm
          have nq := HF.out.node hqn
          have kt := nq.ty
          have hty : (nodeR (fun i => i + sz ts i) 0 nb (ts.getD q default) (vv q) q).ty = tyOf (kd ts q) := rfl
          rw [hty] at kt
          have hkinds := HR.out.kinds hqn (by have := (par_some hpq).1; omega)
          clear hprv hpy
          by_cases h3 : kd ts q = 3
          · have ht : tyOf (kd ts q) = 3 := by rw [h3]; rfl
            rw [ht] at kt
            have hfin : L.head? = some q := by rw [← hLq, h3]; rfl
            have HFIN := Lib.hid hfin
            clear hLq hpq hkinds nq hty h3 ht hfin HL
            go_wp2
            go_ret
            exact ⟨by rw [HFIN.out]; rfl, rfl⟩
          · have ht : tyOf (kd ts q) ≠ 3 := by
              rcases hkinds with hk | ⟨hk | hk | hk, _⟩
              · exact absurd hk h3
              · exact tyOf_ne (.inr (.inl hk))
              · exact tyOf_ne (.inr (.inr (.inl hk)))
              · exact tyOf_ne (.inr (.inr (.inr hk)))
            have hc1 : rb (elKid ts p) (q + 1) (len - (q + 1)) = L := by
              have h5 : (kd ts q == 3) = false := by simp [h3]
              rw [← hLq, h5]; rfl
            obtain ⟨t, hte⟩ : ∃ t, tyOf (kd ts q) = t := ⟨_, rfl⟩
            rw [hte] at kt ht
            have gt : (t == 3) = false := by simp [ht]
            have H := Lib.hid (And.intro hpq hc1)
            clear hLq hpq hkinds nq hty h3 ht hc1 hte HL
            go_wp2
            go_roundg (len - q)
            case measure => omega
            case rel => exact ⟨q, rfl, hqn, H.out.1, H.out.2, .inl rfl, rfl⟩

set_option maxRecDepth 100000 in
set_option maxHeartbeats 4000000 in
theorem iterNext_3 {B : Nat} (b1 b2 b3 x p : Nat) (cur : Value) (w : World) (bl len : Nat) (nb : Nat → Nat) (vv : Nat → Value) (ts : List NodeD) (hF : Forest B w bl len nb vv ts) (hR : RightT ts len) (hx : x < len) (hp : par (sz ts) x = some p)
    (c1 : w.cell? ⟨b1, 0, none⟩ = some (.int .i64 3)) (hcur : cur = .pointer (some ⟨nb x, 0, none⟩) ∨ (cur = .pointer none ∧ w.cell? ⟨b3, 0, none⟩ = some (.pointer (some ⟨nb x, 0, none⟩)))) :
    Calls Tryz.prog 110 #[cur, .pointer (some ⟨b1, 0, none⟩), .pointer (some ⟨b2, 0, none⟩), .pointer (some ⟨b3, 0, none⟩)] w (PtrPost nb (rb (elKid ts p) (x + 1) (len - (x + 1))).head? w) := by
  have hlen := hR.le
  obtain ⟨L, hL⟩ : ∃ L, rb (elKid ts p) (x + 1) (len - (x + 1)) = L := ⟨_, rfl⟩
  rw [hL]
  have HL0 := Lib.hid hL
  have HF := Lib.hid hF
  have HR := Lib.hid hR
  have HP := Lib.hid hp
  have HCUR := Lib.hid hcur
  clear hF hR hp hcur hL
  go_enter Tryz.func110, Tryz.ntmps110
  go_wp2
  go_loopg [0] (len - x) (fun gk n wr => ∃ y, gk = len - y ∧ y < len ∧ par (sz ts) y = some p ∧ rb (elKid ts p) (y + 1) (len - (y + 1)) = L ∧ (n = .pointer (some ⟨nb y, 0, none⟩) ∨ (n = .pointer none ∧ w.cell? ⟨b3, 0, none⟩ = some (.pointer (some ⟨nb y, 0, none⟩)))) ∧ wr = w)
  case atStart => exact ⟨x, rfl, hx, HP.out, HL0.out, HCUR.out, rfl⟩
  case round =>
    obtain ⟨y, rfl, hy, hpy, hLy, hn, rfl⟩ := hrel
    have HL := Lib.hid hLy
    have kx := (HF.out.node hy).nxt
    have hxp : (nodeR (fun i => i + sz ts i) 0 nb (ts.getD y default) (vv y) y).nxt = (nxtK (fun i => i + sz ts i) 0 y).map nb := rfl
    rw [hxp] at kx
    clear hLy hxp
    rcases hn with rfl | ⟨rfl, c3⟩
    all_goals
      cases hprv : nxtK (fun i => i + sz ts i) 0 y with
      | none =>
        rw [hprv, Option.map_none, lk_none] at kx
        have hz : L = [] := HL.out.symm.trans (rb_nxt_none (Q := fun k => kd ts k == 3) HR.out.nest hy hpy hprv : rb (elKid ts p) (y + 1) (len - (y + 1)) = [])
        have HZ := Lib.hid hz
        clear hprv hpy hz HL
        go_wp2
        go_ret
        exact ⟨by rw [HZ.out]; rfl, rfl⟩
      | some q =>
          rw [hprv, Option.map_some, lk_some] at kx
          obtain ⟨-, hpq, hqn, hqy⟩ := nxt_some HR.out.nest hy hpy hprv
          have hLq : (if kd ts q == 3 then q :: rb (elKid ts p) (q + 1) (len - (q + 1)) else rb (elKid ts p) (q + 1) (len - (q + 1))) = L := by rw [← HL.out]; exact (rb_nxt_some (Q := fun k => kd ts k == 3) HR.out.nest hy hpy hprv).symm
          have nq := HF.out.node hqn
          have kt := nq.ty
          have hty : (nodeR (fun i => i + sz ts i) 0 nb (ts.getD q default) (vv q) q).ty = tyOf (kd ts q) := rfl
          rw [hty] at kt
          have hkinds := HR.out.kinds hqn (by have := (par_some hpq).1; omega)
          clear hprv hpy
          by_cases h3 : kd ts q = 3
          · have ht : tyOf (kd ts q) = 3 := by rw [h3]; rfl
            rw [ht] at kt
            have hfin : L.head? = some q := by rw [← hLq, h3]; rfl
            have HFIN := Lib.hid hfin
            clear hLq hpq hkinds nq hty h3 ht hfin HL
            go_wp2
            go_ret
            exact ⟨by rw [HFIN.out]; rfl, rfl⟩
          · have ht : tyOf (kd ts q) ≠ 3 := by
              rcases hkinds with hk | ⟨hk | hk | hk, _⟩
              · exact absurd hk h3
              · exact tyOf_ne (.inr (.inl hk))
              · exact tyOf_ne (.inr (.inr (.inl hk)))
              · exact tyOf_ne (.inr (.inr (.inr hk)))
            have hc1 : rb (elKid ts p) (q + 1) (len - (q + 1)) = L := by
              have h5 : (kd ts q == 3) = false := by simp [h3]
              rw [← hLq, h5]; rfl
            obtain ⟨t, hte⟩ : ∃ t, tyOf (kd ts q) = t := ⟨_, rfl⟩
            rw [hte] at kt ht
            have gt : (t == 3) = false := by simp [ht]
            have H := Lib.hid (And.intro hpq hc1)
            clear hLq hpq hkinds nq hty h3 ht hc1 hte HL
            go_wp2
            go_roundg (len - q)
            case measure => omega
            case rel => exact ⟨q, rfl, hqn, H.out.1, H.out.2, .inl rfl, rfl⟩

end Go.Proofs.YtphppdbhofeagaaGreat

namespace Go.Proofs.YtphppdbhofeagaaGreat
open Go.RowKit
set_option linter.unusedVariables false
set_option linter.unusedSimpArgs false

set_option maxRecDepth 100000 in
set_option maxHeartbeats 4000000 in
theorem iterPrev_m1 {B : Nat} (b1 b2 b3 x p : Nat) (cur : Value) (w : World) (bl len : Nat) (nb : Nat → Nat) (vv : Nat → Value) (ts : List NodeD) (hF : Forest B w bl len nb vv ts) (hR : RightT ts len) (hx : x < len) (hp : par (sz ts) x = some p)
    (c1 : w.cell? ⟨b1, 0, none⟩ = some (.int .i64 (-1))) (hcur : cur = .pointer (some ⟨nb x, 0, none⟩) ∨ (cur = .pointer none ∧ w.cell? ⟨b3, 0, none⟩ = some (.pointer (some ⟨nb x, 0, none⟩)))) :
    Calls Tryz.prog 110 #[cur, .pointer (some ⟨b1, 0, none⟩), .pointer (some ⟨b2, 0, none⟩), .pointer (some ⟨b3, 0, none⟩)] w (PtrPost nb ((lb (elKid ts p) x).reverse).head? w) := by
  have hlen := hR.le
  obtain ⟨L, hL⟩ : ∃ L, (lb (elKid ts p) x).reverse = L := ⟨_, rfl⟩
  rw [hL]
  have HL0 := Lib.hid hL
  have HF := Lib.hid hF
  have HR := Lib.hid hR
  have HP := Lib.hid hp
  have HCUR := Lib.hid hcur
  clear hF hR hp hcur hL
  go_enter Tryz.func110, Tryz.ntmps110
  go_wp2
  go_loopg [0] x (fun gk n wr => ∃ y, y = gk ∧ y < len ∧ par (sz ts) y = some p ∧ (lb (elKid ts p) y).reverse = L ∧ (n = .pointer (some ⟨nb y, 0, none⟩) ∨ (n = .pointer none ∧ w.cell? ⟨b3, 0, none⟩ = some (.pointer (some ⟨nb y, 0, none⟩)))) ∧ wr = w)
  case atStart => exact ⟨x, rfl, hx, HP.out, HL0.out, HCUR.out, rfl⟩
  case round =>
    obtain ⟨y, rfl, hy, hpy, hLy, hn, rfl⟩ := hrel
    have HL := Lib.hid hLy
    have kx := (HF.out.node hy).prv
    have hxp : (nodeR (fun i => i + sz ts i) 0 nb (ts.getD y default) (vv y) y).prv = (prvK (fun i => i + sz ts i) 0 y).map nb := rfl
    rw [hxp] at kx
    clear hLy hxp
    rcases hn with rfl | ⟨rfl, c3⟩
    all_goals
      cases hprv : prvK (fun i => i + sz ts i) 0 y with
      | none =>
        rw [hprv, Option.map_none, lk_none] at kx
        have hz : L = [] := HL.out.symm.trans (show (lb (elKid ts p) y).reverse = [] by have h := prv_none_lb (Q := fun k => kd ts k == 3) HR.out.nest hy hpy hprv; rw [show lb (elKid ts p) y = [] from h]; rfl)
        have HZ := Lib.hid hz
        clear hprv hpy hz HL
        go_wp2
        go_ret
        exact ⟨by rw [HZ.out]; rfl, rfl⟩
      | some q =>
          rw [hprv, Option.map_some, lk_some] at kx
          obtain ⟨hqy, hpq, -⟩ := prv_some hpy hprv
          have hqn : q < len := by omega
          have hLq : (if kd ts q == 3 then q :: (lb (elKid ts p) q).reverse else (lb (elKid ts p) q).reverse) = L := by
            have h : lb (elKid ts p) y = if kd ts q == 3 then lb (elKid ts p) q ++ [q] else lb (elKid ts p) q := prv_lb (Q := fun k => kd ts k == 3) hpy hprv
            rw [← HL.out, h]
            cases hk3 : (kd ts q == 3)
            · rfl
            · simp
          have nq := HF.out.node hqn
          have kt := nq.ty
          have hty : (nodeR (fun i => i + sz ts i) 0 nb (ts.getD q default) (vv q) q).ty = tyOf (kd ts q) := rfl
          rw [hty] at kt
          have hkinds := HR.out.kinds hqn (by have := (par_some hpq).1; omega)
          clear hprv hpy
          by_cases h3 : kd ts q = 3
          · have ht : tyOf (kd ts q) = 3 := by rw [h3]; rfl
            rw [ht] at kt
            have hfin : L.head? = some q := by rw [← hLq, h3]; rfl
            have HFIN := Lib.hid hfin
            clear hLq hpq hkinds nq hty h3 ht hfin HL
            go_wp2
            go_ret
            exact ⟨by rw [HFIN.out]; rfl, rfl⟩
          · have ht : tyOf (kd ts q) ≠ 3 := by
              rcases hkinds with hk | ⟨hk | hk | hk, _⟩
              · exact absurd hk h3
              · exact tyOf_ne (.inr (.inl hk))
              · exact tyOf_ne (.inr (.inr (.inl hk)))
              · exact tyOf_ne (.inr (.inr (.inr hk)))
            have hc1 : (lb (elKid ts p) q).reverse = L := by
              have h5 : (kd ts q == 3) = false := by simp [h3]
              rw [← hLq, h5]; rfl
            obtain ⟨t, hte⟩ : ∃ t, tyOf (kd ts q) = t := ⟨_, rfl⟩
            rw [hte] at kt ht
            have gt : (t == 3) = false := by simp [ht]
            have H := Lib.hid (And.intro hpq hc1)
            clear hLq hpq hkinds nq hty h3 ht hc1 hte HL
            go_wp2
            go_roundg q
            case measure => omega
            case rel => exact ⟨q, rfl, hqn, H.out.1, H.out.2, .inl rfl, rfl⟩

set_option maxRecDepth 100000 in
set_option maxHeartbeats 4000000 in
theorem iterPrev_m2 {B : Nat} (b1 b2 b3 x p : Nat) (cur : Value) (w : World) (bl len : Nat) (nb : Nat → Nat) (vv : Nat → Value) (ts : List NodeD) (hF : Forest B w bl len nb vv ts) (hR : RightT ts len) (hx : x < len) (hp : par (sz ts) x = some p)
    (c1 : w.cell? ⟨b1, 0, none⟩ = some (.int .i64 (-2))) (hcur : cur = .pointer (some ⟨nb x, 0, none⟩) ∨ (cur = .pointer none ∧ w.cell? ⟨b3, 0, none⟩ = some (.pointer (some ⟨nb x, 0, none⟩)))) :
    Calls Tryz.prog 110 #[cur, .pointer (some ⟨b1, 0, none⟩), .pointer (some ⟨b2, 0, none⟩), .pointer (some ⟨b3, 0, none⟩)] w (PtrPost nb ((lb (elKid ts p) x).reverse).head? w) := by
  have hlen := hR.le
  obtain ⟨L, hL⟩ : ∃ L, (lb (elKid ts p) x).reverse = L := ⟨_, rfl⟩
  rw [hL]
  have HL0 := Lib.hid hL
  have HF := Lib.hid hF
  have HR := Lib.hid hR
  have HP := Lib.hid hp
  have HCUR := Lib.hid hcur
  clear hF hR hp hcur hL
  go_enter Tryz.func110, Tryz.ntmps110
  go_wp2
  go_loopg [0] x (fun gk n wr => ∃ y, y = gk ∧ y < len ∧ par (sz ts) y = some p ∧ (lb (elKid ts p) y).reverse = L ∧ (n = .pointer (some ⟨nb y, 0, none⟩) ∨ (n = .pointer none ∧ w.cell? ⟨b3, 0, none⟩ = some (.pointer (some ⟨nb y, 0, none⟩)))) ∧ wr = w)
  case atStart => exact ⟨x, rfl, hx, HP.out, HL0.out, HCUR.out, rfl⟩
  case round =>
    obtain ⟨y, rfl, hy, hpy, hLy, hn, rfl⟩ := hrel
    have HL := Lib.hid hLy
    have kx := (HF.out.node hy).prv
    have hxp : (nodeR (fun i => i + sz ts i) 0 nb (ts.getD y default) (vv y) y).prv = (prvK (fun i => i + sz ts i) 0 y).map nb := rfl
    rw [hxp] at kx
    clear hLy hxp
    rcases hn with rfl | ⟨rfl, c3⟩
    all_goals
      cases hprv : prvK (fun i => i + sz ts i) 0 y with
      | none =>
        rw [hprv, Option.map_none, lk_none] at kx
        have hz : L = [] := HL.out.symm.trans (show (lb (elKid ts p) y).reverse = [] by have h := prv_none_lb (Q := fun k => kd ts k == 3) HR.out.nest hy hpy hprv; rw [show lb (elKid ts p) y = [] from h]; rfl)
        have HZ := Lib.hid hz
        clear hprv hpy hz HL
        go_wp2
        go_ret
        exact ⟨by rw [HZ.out]; rfl, rfl⟩
      | some q =>
          rw [hprv, Option.map_some, lk_some] at kx
          obtain ⟨hqy, hpq, -⟩ := prv_some hpy hprv
          have hqn : q < len := by omega
          have hLq : (if kd ts q == 3 then q :: (lb (elKid ts p) q).reverse else (lb (elKid ts p) q).reverse) = L := by
            have h : lb (elKid ts p) y = if kd ts q == 3 then lb (elKid ts p) q ++ [q] else lb (elKid ts p) q := prv_lb (Q := fun k => kd ts k == 3) hpy hprv
            rw [← HL.out, h]
            cases hk3 : (kd ts q == 3)
            · rfl
            · simp
          have nq := HF.out.node hqn
          have kt := nq.ty
          have hty : (nodeR (fun i => i + sz ts i) 0 nb (ts.getD q default) (vv q) q).ty = tyOf (kd ts q) := rfl
          rw [hty] at kt
          have hkinds := HR.out.kinds hqn (by have := (par_some hpq).1; omega)
          clear hprv hpy
          by_cases h3 : kd ts q = 3
          · have ht : tyOf (kd ts q) = 3 := by rw [h3]; rfl
            rw [ht] at kt
            have hfin : L.head? = some q := by rw [← hLq, h3]; rfl
            have HFIN := Lib.hid hfin
            clear hLq hpq hkinds nq hty h3 ht hfin HL
            go_wp2
            go_ret
            exact ⟨by rw [HFIN.out]; rfl, rfl⟩
          · have ht : tyOf (kd ts q) ≠ 3 := by
              rcases hkinds with hk | ⟨hk | hk | hk, _⟩
              · exact absurd hk h3
              · exact tyOf_ne (.inr (.inl hk))
              · exact tyOf_ne (.inr (.inr (.inl hk)))
              · exact tyOf_ne (.inr (.inr (.inr hk)))
            have hc1 : (lb (elKid ts p) q).reverse = L := by
              have h5 : (kd ts q == 3) = false := by simp [h3]
              rw [← hLq, h5]; rfl
            obtain ⟨t, hte⟩ : ∃ t, tyOf (kd ts q) = t := ⟨_, rfl⟩
            rw [hte] at kt ht
            have gt : (t == 3) = false := by simp [ht]
            have H := Lib.hid (And.intro hpq hc1)
            clear hLq hpq hkinds nq hty h3 ht hc1 hte HL
            go_wp2
            go_roundg q
            case measure => omega
            case rel => exact ⟨q, rfl, hqn, H.out.1, H.out.2, .inl rfl, rfl⟩

set_option maxRecDepth 100000 in
set_option maxHeartbeats 4000000 in
theorem iterPrev_m3 {B : Nat} (b1 b2 b3 x p : Nat) (cur : Value) (w : World) (bl len : Nat) (nb : Nat → Nat) (vv : Nat → Value) (ts : List NodeD) (hF : Forest B w bl len nb vv ts) (hR : RightT ts len) (hx : x < len) (hp : par (sz ts) x = some p)
    (c1 : w.cell? ⟨b1, 0, none⟩ = some (.int .i64 (-3))) (hcur : cur = .pointer (some ⟨nb x, 0, none⟩) ∨ (cur = .pointer none ∧ w.cell? ⟨b3, 0, none⟩ = some (.pointer (some ⟨nb x, 0, none⟩)))) :
    Calls Tryz.prog 110 #[cur, .pointer (some ⟨b1, 0, none⟩), .pointer (some ⟨b2, 0, none⟩), .pointer (some ⟨b3, 0, none⟩)] w (PtrPost nb ((lb (elKid ts p) x).reverse).head? w) := by
  have hlen := hR.le
  obtain ⟨L, hL⟩ : ∃ L, (lb (elKid ts p) x).reverse = L := ⟨_, rfl⟩
  rw [hL]
  have HL0 := Lib.hid hL
  have HF := Lib.hid hF
  have HR := Lib.hid hR
  have HP := Lib.hid hp
  have HCUR := Lib.hid hcur
  clear hF hR hp hcur hL
  go_enter Tryz.func110, Tryz.ntmps110
  go_wp2
  go_loopg [0] x (fun gk n wr => ∃ y, y = gk ∧ y < len ∧ par (sz ts) y = some p ∧ (lb (elKid ts p) y).reverse = L ∧ (n = .pointer (some ⟨nb y, 0, none⟩) ∨ (n = .pointer none ∧ w.cell? ⟨b3, 0, none⟩ = some (.pointer (some ⟨nb y, 0, none⟩)))) ∧ wr = w)
  case atStart => exact ⟨x, rfl, hx, HP.out, HL0.out, HCUR.out, rfl⟩
  case round =>
    obtain ⟨y, rfl, hy, hpy, hLy, hn, rfl⟩ := hrel
    have HL := Lib.hid hLy
    have kx := (HF.out.node hy).prv
    have hxp : (nodeR (fun i => i + sz ts i) 0 nb (ts.getD y default) (vv y) y).prv = (prvK (fun i => i + sz ts i) 0 y).map nb := rfl
    rw [hxp] at kx
    clear hLy hxp
    rcases hn with rfl | ⟨rfl, c3⟩
    all_goals
      cases hprv : prvK (fun i => i + sz ts i) 0 y with
      | none =>
        rw [hprv, Option.map_none, lk_none] at kx
        have hz : L = [] := HL.out.symm.trans (show (lb (elKid ts p) y).reverse = [] by have h := prv_none_lb (Q := fun k => kd ts k == 3) HR.out.nest hy hpy hprv; rw [show lb (elKid ts p) y = [] from h]; rfl)
        have HZ := Lib.hid hz
        clear hprv hpy hz HL
        go_wp2
        go_ret
        exact ⟨by rw [HZ.out]; rfl, rfl⟩
      | some q =>
          rw [hprv, Option.map_some, lk_some] at kx
          obtain ⟨hqy, hpq, -⟩ := prv_some hpy hprv
          have hqn : q < len := by omega
          have hLq : (if kd ts q == 3 then q :: (lb (elKid ts p) q).reverse else (lb (elKid ts p) q).reverse) = L := by
            have h : lb (elKid ts p) y = if kd ts q == 3 then lb (elKid ts p) q ++ [q] else lb (elKid ts p) q := prv_lb (Q := fun k => kd ts k == 3) hpy hprv
            rw [← HL.out, h]
            cases hk3 : (kd ts q == 3)
            · rfl
            · simp
          have nq := HF.out.node hqn
          have kt := nq.ty
          have hty : (nodeR (fun i => i + sz ts i) 0 nb (ts.getD q default) (vv q) q).ty = tyOf (kd ts q) := rfl
          rw [hty] at kt
          have hkinds := HR.out.kinds hqn (by have := (par_some hpq).1; omega)
          clear hprv hpy
          by_cases h3 : kd ts q = 3
          · have ht : tyOf (kd ts q) = 3 := by rw [h3]; rfl
            rw [ht] at kt
            have hfin : L.head? = some q := by rw [← hLq, h3]; rfl
            have HFIN := Lib.hid hfin
            clear hLq hpq hkinds nq hty h3 ht hfin HL
            go_wp2
            go_ret
            exact ⟨by rw [HFIN.out]; rfl, rfl⟩
          · have ht : tyOf (kd ts q) ≠ 3 := by
              rcases hkinds with hk | ⟨hk | hk | hk, _⟩
              · exact absurd hk h3
              · exact tyOf_ne (.inr (.inl hk))
              · exact tyOf_ne (.inr (.inr (.inl hk)))
              · exact tyOf_ne (.inr (.inr (.inr hk)))
            have hc1 : (lb (elKid ts p) q).reverse = L := by
              have h5 : (kd ts q == 3) = false := by simp [h3]
              rw [← hLq, h5]; rfl
            obtain ⟨t, hte⟩ : ∃ t, tyOf (kd ts q) = t := ⟨_, rfl⟩
            rw [hte] at kt ht
            have gt : (t == 3) = false := by simp [ht]
            have H := Lib.hid (And.intro hpq hc1)
            clear hLq hpq hkinds nq hty h3 ht hc1 hte HL
            go_wp2
            go_roundg q
            case measure => omega
            case rel => exact ⟨q, rfl, hqn, H.out.1, H.out.2, .inl rfl, rfl⟩

end Go.Proofs.YtphppdbhofeagaaGreat

namespace Go.Proofs.YtphppdbhofeagaaGreat
open Go.RowKit
set_option linter.unusedVariables false
set_option linter.unusedSimpArgs false

theorem eqlNilSome (w : World) (b : Nat) : (binOp .eql 75 (.pointer none) (.pointer (some ⟨b, 0, none⟩))).run Tryz.prog w = .ok (.bool false) w := by kernel_rfl
theorem eqlSomeNil (w : World) (b : Nat) : (binOp .eql 75 (.pointer (some ⟨b, 0, none⟩)) (.pointer none)).run Tryz.prog w = .ok (.bool false) w := by kernel_rfl
theorem eqlNilNil (w : World) : (binOp .eql 75 (.pointer none) (.pointer none)).run Tryz.prog w = .ok (.bool true) w := by kernel_rfl

/-- The elements among the kids of p, but x. -/
def elSkip (ts : List NodeD) (p x k : Nat) : Bool := (par (sz ts) k == some p) && ((kd ts k == 3) && (k != x))

set_option maxRecDepth 100000 in
set_option maxHeartbeats 8000000 in
theorem iterAll_skip {B : Nat} (b1 b2 b3 x p y0 : Nat) (cur : Value) (w : World) (bl len : Nat) (nb : Nat → Nat) (vv : Nat → Value) (ts : List NodeD) (hF : Forest B w bl len nb vv ts) (hR : RightT ts len) (hpn : p < len) (hx : x < len) (hxp : par (sz ts) x = some p) (hy0 : y0 < len)
    (c1 : w.cell? ⟨b1, 0, none⟩ = some (.int .i64 0)) (c2 : w.cell? ⟨b2, 0, none⟩ = some (.pointer (some ⟨nb p, 0, none⟩))) (c3 : w.cell? ⟨b3, 0, none⟩ = some (.pointer (some ⟨nb x, 0, none⟩)))
    (hcur : (cur = .pointer none ∧ y0 = p) ∨ (cur = .pointer (some ⟨nb y0, 0, none⟩) ∧ par (sz ts) y0 = some p)) :
    Calls Tryz.prog 110 #[cur, .pointer (some ⟨b1, 0, none⟩), .pointer (some ⟨b2, 0, none⟩), .pointer (some ⟨b3, 0, none⟩)] w (PtrPost nb (rb (elSkip ts p x) (y0 + 1) (len - (y0 + 1))).head? w) := by
  have hlen := hR.le
  obtain ⟨L, hL⟩ : ∃ L, rb (elSkip ts p x) (y0 + 1) (len - (y0 + 1)) = L := ⟨_, rfl⟩
  rw [hL]
  have HL0 := Lib.hid hL
  have HF := Lib.hid hF
  have HR := Lib.hid hR
  have HCUR := Lib.hid hcur
  have HXP := Lib.hid hxp
  clear hxp
  clear hF hR hcur hL
  go_enter Tryz.func110, Tryz.ntmps110
  go_wp2
  go_loopg [0] (len - y0) (fun gk n wr => ∃ y, gk = len - y ∧ y < len ∧ rb (elSkip ts p x) (y + 1) (len - (y + 1)) = L ∧ ((n = .pointer none ∧ y = p) ∨ (n = .pointer (some ⟨nb y, 0, none⟩) ∧ par (sz ts) y = some p)) ∧ wr = w)
  case atStart => exact ⟨y0, rfl, hy0, HL0.out, HCUR.out, rfl⟩
  case round =>
    obtain ⟨y, rfl, hy, hLy, hn, rfl⟩ := hrel
    have HL := Lib.hid hLy
    clear hLy
    rcases hn with ⟨rfl, rfl⟩ | ⟨rfl, hpy⟩
    · have kx := (HF.out.node hy).fst
      have hxq : (nodeR (fun i => i + sz ts i) 0 nb (ts.getD y default) (vv y) y).fst = (fstK (fun i => i + sz ts i) y).map nb := rfl
      rw [hxq] at kx
      clear hxq
      cases hprv : fstK (fun i => i + sz ts i) y with
      | none =>
        rw [hprv, Option.map_none, lk_none] at kx
        have hz : L = [] := HL.out.symm.trans (rb_fst_none (Q := (fun k => (kd ts k == 3) && (k != x))) HR.out.nest hy hprv : rb (elSkip ts y x) (y + 1) (len - (y + 1)) = [])
        have HZ := Lib.hid hz
        have heq := eqlNilSome wr (nb x)
        clear hprv hz HL
        go_wp2
        go_ret
        exact ⟨by rw [HZ.out]; rfl, rfl⟩
      | some q =>
        rw [hprv, Option.map_some, lk_some] at kx
        obtain ⟨hLq0, hqn, hpq, hqy⟩ := rb_fst_some (Q := (fun k => (kd ts k == 3) && (k != x))) HR.out.nest hy hprv
        by_cases hqx : q = x
        · subst hqx
          have heq := eql_same wr (nb q)
          have hLx : rb (elSkip ts y q) (q + 1) (len - (q + 1)) = L := by
            rw [← HL.out]
            refine Eq.trans ?_ hLq0.symm
            have hno : (kd ts q == 3 && q != q) = false := by simp
            rw [hno]
            rfl
          have ky := (HF.out.node hqn).nxt
          have hxq : (nodeR (fun i => i + sz ts i) 0 nb (ts.getD q default) (vv q) q).nxt = (nxtK (fun i => i + sz ts i) 0 q).map nb := rfl
          rw [hxq] at ky
          clear hxq hLq0 hprv
          cases hprv : nxtK (fun i => i + sz ts i) 0 q with
          | none =>
            rw [hprv, Option.map_none, lk_none] at ky
            have hz : L = [] := hLx.symm.trans (rb_nxt_none (Q := (fun k => (kd ts k == 3) && (k != q))) HR.out.nest hqn hpq hprv : rb (elSkip ts y q) (q + 1) (len - (q + 1)) = [])
            have HZ := Lib.hid hz
            clear hprv hz HL hLx hpq
            go_wp2
            go_ret
            exact ⟨by rw [HZ.out]; rfl, rfl⟩
          | some r =>
            rw [hprv, Option.map_some, lk_some] at ky
            obtain ⟨-, hpr, hrn, hqr⟩ := nxt_some HR.out.nest hqn hpq hprv
            have hLr0 := rb_nxt_some (Q := (fun k => (kd ts k == 3) && (k != q))) HR.out.nest hqn hpq hprv
            have hLr : (if kd ts r == 3 then r :: rb (elSkip ts y q) (r + 1) (len - (r + 1)) else rb (elSkip ts y q) (r + 1) (len - (r + 1))) = L := by
              rw [← hLx]
              refine Eq.trans ?_ hLr0.symm
              have hne : (r != q) = true := by simp; omega
              simp only [hne, Bool.and_true]
              rfl
            clear hprv hLx hLr0 hpq
            have nq := HF.out.node hrn
            have kt := nq.ty
            have hty : (nodeR (fun i => i + sz ts i) 0 nb (ts.getD r default) (vv r) r).ty = tyOf (kd ts r) := rfl
            rw [hty] at kt
            have hkinds := HR.out.kinds hrn (by have := (par_some hpr).1; omega)
            by_cases h3 : kd ts r = 3
            · have ht : tyOf (kd ts r) = 3 := by rw [h3]; rfl
              rw [ht] at kt
              have hfin : L.head? = some r := by rw [← hLr, h3]; rfl
              have HFIN := Lib.hid hfin
              clear hLr hpr hkinds nq hty h3 ht hfin HL
              go_wp2
              go_ret
              exact ⟨by rw [HFIN.out]; rfl, rfl⟩
            · have ht : tyOf (kd ts r) ≠ 3 := by
                rcases hkinds with hk | ⟨hk | hk | hk, _⟩
                · exact absurd hk h3
                · exact tyOf_ne (.inr (.inl hk))
                · exact tyOf_ne (.inr (.inr (.inl hk)))
                · exact tyOf_ne (.inr (.inr (.inr hk)))
              have hc1 : rb (elSkip ts y q) (r + 1) (len - (r + 1)) = L := by
                have h5 : (kd ts r == 3) = false := by simp [h3]
                rw [← hLr, h5]; rfl
              obtain ⟨t, hte⟩ : ∃ t, tyOf (kd ts r) = t := ⟨_, rfl⟩
              rw [hte] at kt ht
              have gt : (t == 3) = false := by simp [ht]
              have H := Lib.hid (And.intro hpr hc1)
              clear hLr hpr hkinds nq hty h3 ht hc1 hte HL
              go_wp2
              go_roundg (len - r)
              case measure => omega
              case rel => exact ⟨r, rfl, hrn, H.out.2, .inr ⟨rfl, H.out.1⟩, rfl⟩
        · have hne : nb q ≠ nb x := fun h => hqx (HF.out.seg.inj q x (Nat.zero_le _) hqn (Nat.zero_le _) hx h)
          have heq := eql_other (HF.out.node hqn).alive (HF.out.node hx).alive hne
          have hLq : (if kd ts q == 3 then q :: rb (elSkip ts y x) (q + 1) (len - (q + 1)) else rb (elSkip ts y x) (q + 1) (len - (q + 1))) = L := by
            rw [← HL.out]
            refine Eq.trans ?_ hLq0.symm
            have hnq : (q != x) = true := by simp [hqx]
            simp only [hnq, Bool.and_true]
            rfl
          clear hprv hLq0 hqx hne
          have nq := HF.out.node hqn
          have kt := nq.ty
          have hty : (nodeR (fun i => i + sz ts i) 0 nb (ts.getD q default) (vv q) q).ty = tyOf (kd ts q) := rfl
          rw [hty] at kt
          have hkinds := HR.out.kinds hqn (by have := (par_some hpq).1; omega)
          by_cases h3 : kd ts q = 3
          · have ht : tyOf (kd ts q) = 3 := by rw [h3]; rfl
            rw [ht] at kt
            have hfin : L.head? = some q := by rw [← hLq, h3]; rfl
            have HFIN := Lib.hid hfin
            clear hLq hpq hkinds nq hty h3 ht hfin HL
            go_wp2
            go_ret
            exact ⟨by rw [HFIN.out]; rfl, rfl⟩
          · have ht : tyOf (kd ts q) ≠ 3 := by
              rcases hkinds with hk | ⟨hk | hk | hk, _⟩
              · exact absurd hk h3
              · exact tyOf_ne (.inr (.inl hk))
              · exact tyOf_ne (.inr (.inr (.inl hk)))
              · exact tyOf_ne (.inr (.inr (.inr hk)))
            have hc1 : rb (elSkip ts y x) (q + 1) (len - (q + 1)) = L := by
              have h5 : (kd ts q == 3) = false := by simp [h3]
              rw [← hLq, h5]; rfl
            obtain ⟨t, hte⟩ : ∃ t, tyOf (kd ts q) = t := ⟨_, rfl⟩
            rw [hte] at kt ht
            have gt : (t == 3) = false := by simp [ht]
            have H := Lib.hid (And.intro hpq hc1)
            clear hLq hpq hkinds nq hty h3 ht hc1 hte HL
            go_wp2
            go_roundg (len - q)
            case measure => omega
            case rel => exact ⟨q, rfl, hqn, H.out.2, .inr ⟨rfl, H.out.1⟩, rfl⟩
    · have kx := (HF.out.node hy).nxt
      have hxq : (nodeR (fun i => i + sz ts i) 0 nb (ts.getD y default) (vv y) y).nxt = (nxtK (fun i => i + sz ts i) 0 y).map nb := rfl
      rw [hxq] at kx
      clear hxq
      cases hprv : nxtK (fun i => i + sz ts i) 0 y with
      | none =>
        rw [hprv, Option.map_none, lk_none] at kx
        have hz : L = [] := HL.out.symm.trans (rb_nxt_none (Q := (fun k => (kd ts k == 3) && (k != x))) HR.out.nest hy hpy hprv : rb (elSkip ts p x) (y + 1) (len - (y + 1)) = [])
        have HZ := Lib.hid hz
        have heq := eqlNilSome wr (nb x)
        clear hprv hpy hz HL
        go_wp2
        go_ret
        exact ⟨by rw [HZ.out]; rfl, rfl⟩
      | some q =>
        rw [hprv, Option.map_some, lk_some] at kx
        obtain ⟨-, hpq, hqn, hqy⟩ := nxt_some HR.out.nest hy hpy hprv
        have hLq0 := rb_nxt_some (Q := (fun k => (kd ts k == 3) && (k != x))) HR.out.nest hy hpy hprv
        by_cases hqx : q = x
        · subst hqx
          have heq := eql_same wr (nb q)
          have hLx : rb (elSkip ts p q) (q + 1) (len - (q + 1)) = L := by
            rw [← HL.out]
            refine Eq.trans ?_ hLq0.symm
            have hno : (kd ts q == 3 && q != q) = false := by simp
            rw [hno]
            rfl
          have ky := (HF.out.node hqn).nxt
          have hxq : (nodeR (fun i => i + sz ts i) 0 nb (ts.getD q default) (vv q) q).nxt = (nxtK (fun i => i + sz ts i) 0 q).map nb := rfl
          rw [hxq] at ky
          clear hxq hLq0 hpy hprv
          cases hprv : nxtK (fun i => i + sz ts i) 0 q with
          | none =>
            rw [hprv, Option.map_none, lk_none] at ky
            have hz : L = [] := hLx.symm.trans (rb_nxt_none (Q := (fun k => (kd ts k == 3) && (k != q))) HR.out.nest hqn hpq hprv : rb (elSkip ts p q) (q + 1) (len - (q + 1)) = [])
            have HZ := Lib.hid hz
            clear hprv hz HL hLx hpq
            go_wp2
            go_ret
            exact ⟨by rw [HZ.out]; rfl, rfl⟩
          | some r =>
            rw [hprv, Option.map_some, lk_some] at ky
            obtain ⟨-, hpr, hrn, hqr⟩ := nxt_some HR.out.nest hqn hpq hprv
            have hLr0 := rb_nxt_some (Q := (fun k => (kd ts k == 3) && (k != q))) HR.out.nest hqn hpq hprv
            have hLr : (if kd ts r == 3 then r :: rb (elSkip ts p q) (r + 1) (len - (r + 1)) else rb (elSkip ts p q) (r + 1) (len - (r + 1))) = L := by
              rw [← hLx]
              refine Eq.trans ?_ hLr0.symm
              have hne : (r != q) = true := by simp; omega
              simp only [hne, Bool.and_true]
              rfl
            clear hprv hLx hLr0 hpq
            have nq := HF.out.node hrn
            have kt := nq.ty
            have hty : (nodeR (fun i => i + sz ts i) 0 nb (ts.getD r default) (vv r) r).ty = tyOf (kd ts r) := rfl
            rw [hty] at kt
            have hkinds := HR.out.kinds hrn (by have := (par_some hpr).1; omega)
            by_cases h3 : kd ts r = 3
            · have ht : tyOf (kd ts r) = 3 := by rw [h3]; rfl
              rw [ht] at kt
              have hfin : L.head? = some r := by rw [← hLr, h3]; rfl
              have HFIN := Lib.hid hfin
              clear hLr hpr hkinds nq hty h3 ht hfin HL
              go_wp2
              go_ret
              exact ⟨by rw [HFIN.out]; rfl, rfl⟩
            · have ht : tyOf (kd ts r) ≠ 3 := by
                rcases hkinds with hk | ⟨hk | hk | hk, _⟩
                · exact absurd hk h3
                · exact tyOf_ne (.inr (.inl hk))
                · exact tyOf_ne (.inr (.inr (.inl hk)))
                · exact tyOf_ne (.inr (.inr (.inr hk)))
              have hc1 : rb (elSkip ts p q) (r + 1) (len - (r + 1)) = L := by
                have h5 : (kd ts r == 3) = false := by simp [h3]
                rw [← hLr, h5]; rfl
              obtain ⟨t, hte⟩ : ∃ t, tyOf (kd ts r) = t := ⟨_, rfl⟩
              rw [hte] at kt ht
              have gt : (t == 3) = false := by simp [ht]
              have H := Lib.hid (And.intro hpr hc1)
              clear hLr hpr hkinds nq hty h3 ht hc1 hte HL
              go_wp2
              go_roundg (len - r)
              case measure => omega
              case rel => exact ⟨r, rfl, hrn, H.out.2, .inr ⟨rfl, H.out.1⟩, rfl⟩
        · have hne : nb q ≠ nb x := fun h => hqx (HF.out.seg.inj q x (Nat.zero_le _) hqn (Nat.zero_le _) hx h)
          have heq := eql_other (HF.out.node hqn).alive (HF.out.node hx).alive hne
          have hLq : (if kd ts q == 3 then q :: rb (elSkip ts p x) (q + 1) (len - (q + 1)) else rb (elSkip ts p x) (q + 1) (len - (q + 1))) = L := by
            rw [← HL.out]
            refine Eq.trans ?_ hLq0.symm
            have hnq : (q != x) = true := by simp [hqx]
            simp only [hnq, Bool.and_true]
            rfl
          clear hprv hLq0 hpy hqx hne
          have nq := HF.out.node hqn
          have kt := nq.ty
          have hty : (nodeR (fun i => i + sz ts i) 0 nb (ts.getD q default) (vv q) q).ty = tyOf (kd ts q) := rfl
          rw [hty] at kt
          have hkinds := HR.out.kinds hqn (by have := (par_some hpq).1; omega)
          by_cases h3 : kd ts q = 3
          · have ht : tyOf (kd ts q) = 3 := by rw [h3]; rfl
            rw [ht] at kt
            have hfin : L.head? = some q := by rw [← hLq, h3]; rfl
            have HFIN := Lib.hid hfin
            clear hLq hpq hkinds nq hty h3 ht hfin HL
            go_wp2
            go_ret
            exact ⟨by rw [HFIN.out]; rfl, rfl⟩
          · have ht : tyOf (kd ts q) ≠ 3 := by
              rcases hkinds with hk | ⟨hk | hk | hk, _⟩
              · exact absurd hk h3
              · exact tyOf_ne (.inr (.inl hk))
              · exact tyOf_ne (.inr (.inr (.inl hk)))
              · exact tyOf_ne (.inr (.inr (.inr hk)))
            have hc1 : rb (elSkip ts p x) (q + 1) (len - (q + 1)) = L := by
              have h5 : (kd ts q == 3) = false := by simp [h3]
              rw [← hLq, h5]; rfl
            obtain ⟨t, hte⟩ : ∃ t, tyOf (kd ts q) = t := ⟨_, rfl⟩
            rw [hte] at kt ht
            have gt : (t == 3) = false := by simp [ht]
            have H := Lib.hid (And.intro hpq hc1)
            clear hLq hpq hkinds nq hty h3 ht hc1 hte HL
            go_wp2
            go_roundg (len - q)
            case measure => omega
            case rel => exact ⟨q, rfl, hqn, H.out.2, .inr ⟨rfl, H.out.1⟩, rfl⟩

set_option maxRecDepth 100000 in
set_option maxHeartbeats 8000000 in
theorem iterAll_none {B : Nat} (b1 b2 b3 p y0 : Nat) (cur : Value) (w : World) (bl len : Nat) (nb : Nat → Nat) (vv : Nat → Value) (ts : List NodeD) (hF : Forest B w bl len nb vv ts) (hR : RightT ts len) (hpn : p < len) (hy0 : y0 < len)
    (c1 : w.cell? ⟨b1, 0, none⟩ = some (.int .i64 0)) (c2 : w.cell? ⟨b2, 0, none⟩ = some (.pointer (some ⟨nb p, 0, none⟩))) (c3 : w.cell? ⟨b3, 0, none⟩ = some (.pointer none))
    (hcur : (cur = .pointer none ∧ y0 = p) ∨ (cur = .pointer (some ⟨nb y0, 0, none⟩) ∧ par (sz ts) y0 = some p)) :
    Calls Tryz.prog 110 #[cur, .pointer (some ⟨b1, 0, none⟩), .pointer (some ⟨b2, 0, none⟩), .pointer (some ⟨b3, 0, none⟩)] w (PtrPost nb (rb (elKid ts p) (y0 + 1) (len - (y0 + 1))).head? w) := by
  have hlen := hR.le
  obtain ⟨L, hL⟩ : ∃ L, rb (elKid ts p) (y0 + 1) (len - (y0 + 1)) = L := ⟨_, rfl⟩
  rw [hL]
  have HL0 := Lib.hid hL
  have HF := Lib.hid hF
  have HR := Lib.hid hR
  have HCUR := Lib.hid hcur
  clear hF hR hcur hL
  go_enter Tryz.func110, Tryz.ntmps110
  go_wp2
  go_loopg [0] (len - y0) (fun gk n wr => ∃ y, gk = len - y ∧ y < len ∧ rb (elKid ts p) (y + 1) (len - (y + 1)) = L ∧ ((n = .pointer none ∧ y = p) ∨ (n = .pointer (some ⟨nb y, 0, none⟩) ∧ par (sz ts) y = some p)) ∧ wr = w)
  case atStart => exact ⟨y0, rfl, hy0, HL0.out, HCUR.out, rfl⟩
  case round =>
    obtain ⟨y, rfl, hy, hLy, hn, rfl⟩ := hrel
    have HL := Lib.hid hLy
    clear hLy
    rcases hn with ⟨rfl, rfl⟩ | ⟨rfl, hpy⟩
    · have kx := (HF.out.node hy).fst
      have hxq : (nodeR (fun i => i + sz ts i) 0 nb (ts.getD y default) (vv y) y).fst = (fstK (fun i => i + sz ts i) y).map nb := rfl
      rw [hxq] at kx
      clear hxq
      cases hprv : fstK (fun i => i + sz ts i) y with
      | none =>
        rw [hprv, Option.map_none, lk_none] at kx
        have hz : L = [] := HL.out.symm.trans (rb_fst_none (Q := (fun k => kd ts k == 3)) HR.out.nest hy hprv : rb (elKid ts y) (y + 1) (len - (y + 1)) = [])
        have HZ := Lib.hid hz
        have heq := eqlNilNil wr
        clear hprv hz HL
        go_wp2
        go_ret
        exact ⟨by rw [HZ.out]; rfl, rfl⟩
      | some q =>
        rw [hprv, Option.map_some, lk_some] at kx
        obtain ⟨hLq0, hqn, hpq, hqy⟩ := rb_fst_some (Q := (fun k => kd ts k == 3)) HR.out.nest hy hprv
        have hLq : (if kd ts q == 3 then q :: rb (elKid ts y) (q + 1) (len - (q + 1)) else rb (elKid ts y) (q + 1) (len - (q + 1))) = L := by
          rw [← HL.out]
          exact hLq0.symm
        have heq := eqlSomeNil wr (nb q)
        clear hprv hLq0
        have nq := HF.out.node hqn
        have kt := nq.ty
        have hty : (nodeR (fun i => i + sz ts i) 0 nb (ts.getD q default) (vv q) q).ty = tyOf (kd ts q) := rfl
        rw [hty] at kt
        have hkinds := HR.out.kinds hqn (by have := (par_some hpq).1; omega)
        by_cases h3 : kd ts q = 3
        · have ht : tyOf (kd ts q) = 3 := by rw [h3]; rfl
          rw [ht] at kt
          have hfin : L.head? = some q := by rw [← hLq, h3]; rfl
          have HFIN := Lib.hid hfin
          clear hLq hpq hkinds nq hty h3 ht hfin HL
          go_wp2
          go_ret
          exact ⟨by rw [HFIN.out]; rfl, rfl⟩
        · have ht : tyOf (kd ts q) ≠ 3 := by
            rcases hkinds with hk | ⟨hk | hk | hk, _⟩
            · exact absurd hk h3
            · exact tyOf_ne (.inr (.inl hk))
            · exact tyOf_ne (.inr (.inr (.inl hk)))
            · exact tyOf_ne (.inr (.inr (.inr hk)))
          have hc1 : rb (elKid ts y) (q + 1) (len - (q + 1)) = L := by
            have h5 : (kd ts q == 3) = false := by simp [h3]
            rw [← hLq, h5]; rfl
          obtain ⟨t, hte⟩ : ∃ t, tyOf (kd ts q) = t := ⟨_, rfl⟩
          rw [hte] at kt ht
          have gt : (t == 3) = false := by simp [ht]
          have H := Lib.hid (And.intro hpq hc1)
          clear hLq hpq hkinds nq hty h3 ht hc1 hte HL
          go_wp2
          go_roundg (len - q)
          case measure => omega
          case rel => exact ⟨q, rfl, hqn, H.out.2, .inr ⟨rfl, H.out.1⟩, rfl⟩
    · have kx := (HF.out.node hy).nxt
      have hxq : (nodeR (fun i => i + sz ts i) 0 nb (ts.getD y default) (vv y) y).nxt = (nxtK (fun i => i + sz ts i) 0 y).map nb := rfl
      rw [hxq] at kx
      clear hxq
      cases hprv : nxtK (fun i => i + sz ts i) 0 y with
      | none =>
        rw [hprv, Option.map_none, lk_none] at kx
        have hz : L = [] := HL.out.symm.trans (rb_nxt_none (Q := (fun k => kd ts k == 3)) HR.out.nest hy hpy hprv : rb (elKid ts p) (y + 1) (len - (y + 1)) = [])
        have HZ := Lib.hid hz
        have heq := eqlNilNil wr
        clear hprv hpy hz HL
        go_wp2
        go_ret
        exact ⟨by rw [HZ.out]; rfl, rfl⟩
      | some q =>
        rw [hprv, Option.map_some, lk_some] at kx
        obtain ⟨-, hpq, hqn, hqy⟩ := nxt_some HR.out.nest hy hpy hprv
        have hLq0 := rb_nxt_some (Q := (fun k => kd ts k == 3)) HR.out.nest hy hpy hprv
        have hLq : (if kd ts q == 3 then q :: rb (elKid ts p) (q + 1) (len - (q + 1)) else rb (elKid ts p) (q + 1) (len - (q + 1))) = L := by
          rw [← HL.out]
          exact hLq0.symm
        have heq := eqlSomeNil wr (nb q)
        clear hprv hLq0 hpy
        have nq := HF.out.node hqn
        have kt := nq.ty
        have hty : (nodeR (fun i => i + sz ts i) 0 nb (ts.getD q default) (vv q) q).ty = tyOf (kd ts q) := rfl
        rw [hty] at kt
        have hkinds := HR.out.kinds hqn (by have := (par_some hpq).1; omega)
        by_cases h3 : kd ts q = 3
        · have ht : tyOf (kd ts q) = 3 := by rw [h3]; rfl
          rw [ht] at kt
          have hfin : L.head? = some q := by rw [← hLq, h3]; rfl
          have HFIN := Lib.hid hfin
          clear hLq hpq hkinds nq hty h3 ht hfin HL
          go_wp2
          go_ret
          exact ⟨by rw [HFIN.out]; rfl, rfl⟩
        · have ht : tyOf (kd ts q) ≠ 3 := by
            rcases hkinds with hk | ⟨hk | hk | hk, _⟩
            · exact absurd hk h3
            · exact tyOf_ne (.inr (.inl hk))
            · exact tyOf_ne (.inr (.inr (.inl hk)))
            · exact tyOf_ne (.inr (.inr (.inr hk)))
          have hc1 : rb (elKid ts p) (q + 1) (len - (q + 1)) = L := by
            have h5 : (kd ts q == 3) = false := by simp [h3]
            rw [← hLq, h5]; rfl
          obtain ⟨t, hte⟩ : ∃ t, tyOf (kd ts q) = t := ⟨_, rfl⟩
          rw [hte] at kt ht
          have gt : (t == 3) = false := by simp [ht]
          have H := Lib.hid (And.intro hpq hc1)
          clear hLq hpq hkinds nq hty h3 ht hc1 hte HL
          go_wp2
          go_roundg (len - q)
          case measure => omega
          case rel => exact ⟨q, rfl, hqn, H.out.2, .inr ⟨rfl, H.out.1⟩, rfl⟩

end Go.Proofs.YtphppdbhofeagaaGreat

