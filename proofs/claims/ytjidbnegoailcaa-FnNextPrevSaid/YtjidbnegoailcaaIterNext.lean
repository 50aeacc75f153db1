/- The iterator of getChildrenWithSiblingType: the brothers behind. (Printed by gen_sib.py.) -/
import Derived.Test.YtjidbnegoailcaaBeside
namespace Go.Proofs.Ytjidbnegoailcaa
open Go.RowKit
set_option linter.unusedVariables false
set_option linter.unusedSimpArgs false

/-- A pointer, or none; the world is as it was. -/
def PtrPost (nb : Nat → Nat) (o : Option Nat) (w : World) (e : Ending) (w' : World) : Prop := e = .returned (lk (o.map nb)) ∧ w = w'

set_option maxRecDepth 100000 in
set_option maxHeartbeats 4000000 in
theorem iterNext_1 {B : Nat} (b1 b2 b3 x p : Nat) (cur : Value) (w : World) (bl len : Nat) (nb : Nat → Nat) (vv : Nat → Value) (ts : List NodeD) (hF : Forest B w bl len nb vv ts) (hR : RightT ts len) (hx : x < len) (hp : par (sz ts) x = some p)
    (c1 : w.cell? ⟨b1, 0, none⟩ = some (.int .i64 1)) (hcur : cur = .pointer (some ⟨nb x, 0, none⟩) ∨ (cur = .pointer none ∧ w.cell? ⟨b3, 0, none⟩ = some (.pointer (some ⟨nb x, 0, none⟩)))) :
    Calls Try.prog 85 #[cur, .pointer (some ⟨b1, 0, none⟩), .pointer (some ⟨b2, 0, none⟩), .pointer (some ⟨b3, 0, none⟩)] w (PtrPost nb (rb (elKid ts p) (x + 1) (len - (x + 1))).head? w) := by
  have hlen := hR.le
  obtain ⟨L, hL⟩ : ∃ L, rb (elKid ts p) (x + 1) (len - (x + 1)) = L := ⟨_, rfl⟩
  rw [hL]
  have HL0 := Lib.hid hL
  have HF := Lib.hid hF
  have HR := Lib.hid hR
  have HP := Lib.hid hp
  have HCUR := Lib.hid hcur
  clear hF hR hp hcur hL
  go_enter Try.func85, Try.ntmps85
  go_wp2
  go_loopg [0] (len - x) (fun gk n wr => ∃ y, gk = len - y ∧ y < len ∧ par (sz ts) y = some p ∧ rb (elKid ts p) (y + 1) (len - (y + 1)) = L ∧ (n = .pointer (some ⟨nb y, 0, none⟩) ∨ (n = .pointer none ∧ w.cell? ⟨b3, 0, none⟩ = some (.pointer (some ⟨nb y, 0, none⟩)))) ∧ wr = w)
  case atStart => exact ⟨x, rfl, hx, HP.out, HL0.out, HCUR.out, rfl⟩
  case round =>
    obtain ⟨y, rfl, hy, hpy, hLy, hn, rfl⟩ := hrel
    have HL := Lib.hid hLy
    have kx := (HF.out.node hy).nxt
    have hxp : (nodeR (fun i => i + sz ts i) 0 nb (ts.getD y default) (vv y) y).nxt = (nxtK (fun i => i + sz ts i) 0 y).map nb := rfl
    rw [hxp] at kx
    clear hLy hxp
    rcases hn with rfl | ⟨rfl, c3⟩
    all_goals
      cases hprv : nxtK (fun i => i + sz ts i) 0 y with
      | none =>
        rw [hprv, Option.map_none, lk_none] at kx
        have hz : L = [] := HL.out.symm.trans (rb_nxt_none (Q := fun k => kd ts k == 3) HR.out.nest hy hpy hprv : rb (elKid ts p) (y + 1) (len - (y + 1)) = [])
        have HZ := Lib.hid hz
        clear hprv hpy hz HL
        go_wp2
        go_ret
        exact ⟨by rw [HZ.out]; rfl, rfl⟩
      | some q =>
          rw [hprv, Option.map_some, lk_some] at kx
          obtain ⟨-, hpq, hqn, hqy⟩ := nxt_some HR.out.nest hy hpy hprv
          have hLq : (if kd ts q == 3 then q :: rb (elKid ts p) (q + 1) (len - (q + 1)) else rb (elKid ts p) (q + 1) (len - (q + 1))) = L := by rw [← HL.out]; exact (rb_nxt_some (Q := fun k => kd ts k == 3) HR.out.nest hy hpy hprv).symm
          have nq := HF.out.node hqn
          have kt := nq.ty
          have hty : (nodeR (fun i => i + sz ts i) 0 nb (ts.getD q default) (vv q) q).ty = tyOf (kd ts q) := rfl
          rw [hty] at kt
          have hkinds := HR.out.kinds hqn (by have := (par_some hpq).1; omega)
          clear hprv hpy
          by_cases h3 : kd ts q = 3
          · have ht : tyOf (kd ts q) = 3 := by rw [h3]; rfl
            rw [ht] at kt
            have hfin : L.head? = some q := by rw [← hLq, h3]; rfl
            have HFIN := Lib.hid hfin
            clear hLq hpq hkinds nq hty h3 ht hfin HL
            go_wp2
            go_ret
            exact ⟨by rw [HFIN.out]; rfl, rfl⟩
          · have ht : tyOf (kd ts q) ≠ 3 := by
              rcases hkinds with hk | ⟨hk | hk | hk, _⟩
              · exact absurd hk h3
              · exact tyOf_ne (.inr (.inl hk))
              · exact tyOf_ne (.inr (.inr (.inl hk)))
              · exact tyOf_ne (.inr (.inr (.inr hk)))
            have hc1 : rb (elKid ts p) (q + 1) (len - (q + 1)) = L := by
              have h5 : (kd ts q == 3) = false := by simp [h3]
              rw [← hLq, h5]; rfl
            obtain ⟨t, hte⟩ : ∃ t, tyOf (kd ts q) = t := ⟨_, rfl⟩
            rw [hte] at kt ht
            have gt : (t == 3) = false := by simp [ht]
            have H := Lib.hid (And.intro hpq hc1)
            clear hLq hpq hkinds nq hty h3 ht hc1 hte HL
            go_wp2
            go_roundg (len - q)
            case measure => omega
            case rel => exact ⟨q, rfl, hqn, H.out.1, H.out.2, .inl rfl, rfl⟩

set_option maxRecDepth 100000 in
set_option maxHeartbeats 4000000 in
theorem iterNext_2 {B : Nat} (b1 b2 b3 x p : Nat) (cur : Value) (w : World) (bl len : Nat) (nb : Nat → Nat) (vv : Nat → Value) (ts : List NodeD) (hF : Forest B w bl len nb vv ts) (hR : RightT ts len) (hx : x < len) (hp : par (sz ts) x = some p)
    (c1 : w.cell? ⟨b1, 0, none⟩ = some (.int .i64 2)) (hcur : cur = .pointer (some ⟨nb x, 0, none⟩) ∨ (cur = .pointer none ∧ w.cell? ⟨b3, 0, none⟩ = some (.pointer (some ⟨nb x, 0, none⟩)))) :
    Calls Try.prog 85 #[cur, .pointer (some ⟨b1, 0, none⟩), .pointer (some ⟨b2, 0, none⟩), .pointer (some ⟨b3, 0, none⟩)] w (PtrPost nb (rb (elKid ts p) (x + 1) (len - (x + 1))).head? w) := by
  have hlen := hR.le
  obtain ⟨L, hL⟩ : ∃ L, rb (elKid ts p) (x + 1) (len - (x + 1)) = L := ⟨_, rfl⟩
  rw [hL]
  have HL0 := Lib.hid hL
  have HF := Lib.hid hF
  have HR := Lib.hid hR
  have HP := Lib.hid hp
  have HCUR := Lib.hid hcur
  clear hF hR hp hcur hL
  go_enter Try.func85, Try.ntmps85
  go_wp2
  go_loopg [0] (len - x) (fun gk n wr => ∃ y, gk = len - y ∧ y < len ∧ par (sz ts) y = some p ∧ rb (elKid ts p) (y + 1) (len - (y + 1)) = L ∧ (n = .pointer (some ⟨nb y, 0, none⟩) ∨ (n = .pointer none ∧ w.cell? ⟨b3, 0, none⟩ = some (.pointer (some ⟨nb y, 0, none⟩)))) ∧ wr = w)
  case atStart => exact ⟨x, rfl, hx, HP.out, HL0.out, HCUR.out, rfl⟩
  case round =>
    obtain ⟨y, rfl, hy, hpy, hLy, hn, rfl⟩ := hrel
    have HL := Lib.hid hLy
    have kx := (HF.out.node hy).nxt
    have hxp : (nodeR (fun i => i + sz ts i) 0 nb (ts.getD y default) (vv y) y).nxt = (nxtK (fun i => i + sz ts i) 0 y).map nb := rfl
    rw [hxp] at kx
    clear hLy hxp
    rcases hn with rfl | ⟨rfl, c3⟩
    all_goals
      cases hprv : nxtK (fun i => i + sz ts i) 0 y with
      | none =>
        rw [hprv, Option.map_none, lk_none] at kx
        have hz : L = [] := HL.out.symm.trans (rb_nxt_none (Q := fun k => kd ts k == 3) HR.out.nest hy hpy hprv : rb (elKid ts p) (y + 1) (len - (y + 1)) = [])
        have HZ := Lib.hid hz
        clear hprv hpy hz HL
        go_wp2
        go_ret
        exact ⟨by rw [HZ.out]; rfl, rfl⟩
      | some q =>
          rw [hprv, Option.map_some, lk_some] at kx
          obtain ⟨-, hpq, hqn, hqy⟩ := nxt_some HR.out.nest hy hpy hprv
          have hLq : (if kd ts q == 3 then q :: rb (elKid ts p) (q + 1) (len - (q + 1)) else rb (elKid ts p) (q + 1) (len - (q + 1))) = L := by rw [← HL.out]; exact (rb_nxt_some (Q := fun k => kd ts k == 3) HR.out.nest hy hpy hprv).symm
          have nq := HF.out.node hqn
          have kt := nq.ty
          have hty : (nodeR (fun i => i + sz ts i) 0 nb (ts.getD q default) (vv q) q).ty = tyOf (kd ts q) := rfl
          rw [hty] at kt
          have hkinds := HR.out.kinds hqn (by have := (par_some hpq).1; omega)
          clear hprv hpy
          by_cases h3 : kd ts q = 3
          · have ht : tyOf (kd ts q) = 3 := by rw [h3]; rfl
            rw [ht] at kt
            have hfin : L.head? = some q := by rw [← hLq, h3]; rfl
            have HFIN := Lib.hid hfin
            clear hLq hpq hkinds nq hty h3 ht hfin HL
            go_wp2
            go_ret
            exact ⟨by rw [HFIN.out]; rfl, rfl⟩
          · have ht : tyOf (kd ts q) ≠ 3 := by
              rcases hkinds with hk | ⟨hk | hk | hk, _⟩
              · exact absurd hk h3
              · exact tyOf_ne (.inr (.inl hk))
              · exact tyOf_ne (.inr (.inr (.inl hk)))
              · exact tyOf_ne (.inr (.inr (.inr hk)))
            have hc1 : rb (elKid ts p) (q + 1) (len - (q + 1)) = L := by
              have h5 : (kd ts q == 3) = false := by simp [h3]
              rw [← hLq, h5]; rfl
            obtain ⟨t, hte⟩ : ∃ t, tyOf (kd ts q) = t := ⟨_, rfl⟩
            rw [hte] at kt ht
            have gt : (t == 3) = false := by simp [ht]
            have H := Lib.hid (And.intro hpq hc1)
            clear hLq hpq hkinds nq hty h3 ht hc1 hte HL
            go_wp2
            go_roundg (len - q)
            case measure => omega
            case rel => exact ⟨q, rfl, hqn, H.out.1, H.out.2, .inl rfl, rfl⟩

set_option maxRecDepth 100000 in
set_option maxHeartbeats 4000000 in
theorem iterNext_3 {B : Nat} (b1 b2 b3 x p : Nat) (cur : Value) (w : World) (bl len : Nat) (nb : Nat → Nat) (vv : Nat → Value) (ts : List NodeD) (hF : Forest B w bl len nb vv ts) (hR : RightT ts len) (hx : x < len) (hp : par (sz ts) x = some p)
    (c1 : w.cell? ⟨b1, 0, none⟩ = some (.int .i64 3)) (hcur : cur = .pointer (some ⟨nb x, 0, none⟩) ∨ (cur = .pointer none ∧ w.cell? ⟨b3, 0, none⟩ = some (.pointer (some ⟨nb x, 0, none⟩)))) :
    Calls Try.prog 85 #[cur, .pointer (some ⟨b1, 0, none⟩), .pointer (some ⟨b2, 0, none⟩), .pointer (some ⟨b3, 0, none⟩)] w (PtrPost nb (rb (elKid ts p) (x + 1) (len - (x + 1))).head? w) := by
  have hlen := hR.le
  obtain ⟨L, hL⟩ : ∃ L, rb (elKid ts p) (x + 1) (len - (x + 1)) = L := ⟨_, rfl⟩
  rw [hL]
  have HL0 := Lib.hid hL
  have HF := Lib.hid hF
  have HR := Lib.hid hR
  have HP := Lib.hid hp
  have HCUR := Lib.hid hcur
  clear hF hR hp hcur hL
  go_enter Try.func85, Try.ntmps85
  go_wp2
  go_loopg [0] (len - x) (fun gk n wr => ∃ y, gk = len - y ∧ y < len ∧ par (sz ts) y = some p ∧ rb (elKid ts p) (y + 1) (len - (y + 1)) = L ∧ (n = .pointer (some ⟨nb y, 0, none⟩) ∨ (n = .pointer none ∧ w.cell? ⟨b3, 0, none⟩ = some (.pointer (some ⟨nb y, 0, none⟩)))) ∧ wr = w)
  case atStart => exact ⟨x, rfl, hx, HP.out, HL0.out, HCUR.out, rfl⟩
  case round =>
    obtain ⟨y, rfl, hy, hpy, hLy, hn, rfl⟩ := hrel
    have HL := Lib.hid hLy
    have kx := (HF.out.node hy).nxt
    have hxp : (nodeR (fun i => i + sz ts i) 0 nb (ts.getD y default) (vv y) y).nxt = (nxtK (fun i => i + sz ts i) 0 y).map nb := rfl
    rw [hxp] at kx
    clear hLy hxp
    rcases hn with rfl | ⟨rfl, c3⟩
    all_goals
      cases hprv : nxtK (fun i => i + sz ts i) 0 y with
      | none =>
        rw [hprv, Option.map_none, lk_none] at kx
        have hz : L = [] := HL.out.symm.trans (rb_nxt_none (Q := fun k => kd ts k == 3) HR.out.nest hy hpy hprv : rb (elKid ts p) (y + 1) (len - (y + 1)) = [])
        have HZ := Lib.hid hz
        clear hprv hpy hz HL
        go_wp2
        go_ret
        exact ⟨by rw [HZ.out]; rfl, rfl⟩
      | some q =>
          rw [hprv, Option.map_some, lk_some] at kx
          obtain ⟨-, hpq, hqn, hqy⟩ := nxt_some HR.out.nest hy hpy hprv
          have hLq : (if kd ts q == 3 then q :: rb (elKid ts p) (q + 1) (len - (q + 1)) else rb (elKid ts p) (q + 1) (len - (q + 1))) = L := by rw [← HL.out]; exact (rb_nxt_some (Q := fun k => kd ts k == 3) HR.out.nest hy hpy hprv).symm
          have nq := HF.out.node hqn
          have kt := nq.ty
          have hty : (nodeR (fun i => i + sz ts i) 0 nb (ts.getD q default) (vv q) q).ty = tyOf (kd ts q) := rfl
          rw [hty] at kt
          have hkinds := HR.out.kinds hqn (by have := (par_some hpq).1; omega)
          clear hprv hpy
          by_cases h3 : kd ts q = 3
          · have ht : tyOf (kd ts q) = 3 := by rw [h3]; rfl
            rw [ht] at kt
            have hfin : L.head? = some q := by rw [← hLq, h3]; rfl
            have HFIN := Lib.hid hfin
            clear hLq hpq hkinds nq hty h3 ht hfin HL
            go_wp2
            go_ret
            exact ⟨by rw [HFIN.out]; rfl, rfl⟩
          · have ht : tyOf (kd ts q) ≠ 3 := by
              rcases hkinds with hk | ⟨hk | hk | hk, _⟩
              · exact absurd hk h3
              · exact tyOf_ne (.inr (.inl hk))
              · exact tyOf_ne (.inr (.inr (.inl hk)))
              · exact tyOf_ne (.inr (.inr (.inr hk)))
            have hc1 : rb (elKid ts p) (q + 1) (len - (q + 1)) = L := by
              have h5 : (kd ts q == 3) = false := by simp [h3]
              rw [← hLq, h5]; rfl
            obtain ⟨t, hte⟩ : ∃ t, tyOf (kd ts q) = t := ⟨_, rfl⟩
            rw [hte] at kt ht
            have gt : (t == 3) = false := by simp [ht]
            have H := Lib.hid (And.intro hpq hc1)
            clear hLq hpq hkinds nq hty h3 ht hc1 hte HL
            go_wp2
            go_roundg (len - q)
            case measure => omega
            case rel => exact ⟨q, rfl, hqn, H.out.1, H.out.2, .inl rfl, rfl⟩

end Go.Proofs.Ytjidbnegoailcaa
