/- The iterator of getChildrenWithSiblingType: the brothers ahead. (Printed by gen_sib.py.) -/
import Derived.Test.YtjidbnegoailcaaIterNext
namespace Go.Proofs.Ytjidbnegoailcaa
open Go.RowKit
set_option linter.unusedVariables false
set_option linter.unusedSimpArgs false

set_option maxRecDepth 100000 in
set_option maxHeartbeats 4000000 in
theorem iterPrev_m1 {B : Nat} (b1 b2 b3 x p : Nat) (cur : Value) (w : World) (bl len : Nat) (nb : Nat → Nat) (vv : Nat → Value) (ts : List NodeD) (hF : Forest B w bl len nb vv ts) (hR : RightT ts len) (hx : x < len) (hp : par (sz ts) x = some p)
    (c1 : w.cell? ⟨b1, 0, none⟩ = some (.int .i64 (-1))) (hcur : cur = .pointer (some ⟨nb x, 0, none⟩) ∨ (cur = .pointer none ∧ w.cell? ⟨b3, 0, none⟩ = some (.pointer (some ⟨nb x, 0, none⟩)))) :
    Calls Try.prog 85 #[cur, .pointer (some ⟨b1, 0, none⟩), .pointer (some ⟨b2, 0, none⟩), .pointer (some ⟨b3, 0, none⟩)] w (PtrPost nb ((lb (elKid ts p) x).reverse).head? w) := by
  have hlen := hR.le
  obtain ⟨L, hL⟩ : ∃ L, (lb (elKid ts p) x).reverse = L := ⟨_, rfl⟩
  rw [hL]
  have HL0 := Lib.hid hL
  have HF := Lib.hid hF
  have HR := Lib.hid hR
  have HP := Lib.hid hp
  have HCUR := Lib.hid hcur
  clear hF hR hp hcur hL
  go_enter Try.func85, Try.ntmps85
  go_wp2
  go_loopg [0] x (fun gk n wr => ∃ y, y = gk ∧ y < len ∧ par (sz ts) y = some p ∧ (lb (elKid ts p) y).reverse = L ∧ (n = .pointer (some ⟨nb y, 0, none⟩) ∨ (n = .pointer none ∧ w.cell? ⟨b3, 0, none⟩ = some (.pointer (some ⟨nb y, 0, none⟩)))) ∧ wr = w)
  case atStart => exact ⟨x, rfl, hx, HP.out, HL0.out, HCUR.out, rfl⟩
  case round =>
    obtain ⟨y, rfl, hy, hpy, hLy, hn, rfl⟩ := hrel
    have HL := Lib.hid hLy
    have kx := (HF.out.node hy).prv
    have hxp : (nodeR (fun i => i + sz ts i) 0 nb (ts.getD y default) (vv y) y).prv = (prvK (fun i => i + sz ts i) 0 y).map nb := rfl
    rw [hxp] at kx
    clear hLy hxp
    rcases hn with rfl | ⟨rfl, c3⟩
    all_goals
      cases hprv : prvK (fun i => i + sz ts i) 0 y with
      | none =>
        rw [hprv, Option.map_none, lk_none] at kx
        have hz : L = [] := HL.out.symm.trans (show (lb (elKid ts p) y).reverse = [] by have h := prv_none_lb (Q := fun k => kd ts k == 3) HR.out.nest hy hpy hprv; rw [show lb (elKid ts p) y = [] from h]; rfl)
        have HZ := Lib.hid hz
        clear hprv hpy hz HL
        go_wp2
        go_ret
        exact ⟨by rw [HZ.out]; rfl, rfl⟩
      | some q =>
          rw [hprv, Option.map_some, lk_some] at kx
          obtain ⟨hqy, hpq, -⟩ := prv_some hpy hprv
          have hqn : q < len := by omega
          have hLq : (if kd ts q == 3 then q :: (lb (elKid ts p) q).reverse else (lb (elKid ts p) q).reverse) = L := by
            have h : lb (elKid ts p) y = if kd ts q == 3 then lb (elKid ts p) q ++ [q] else lb (elKid ts p) q := prv_lb (Q := fun k => kd ts k == 3) hpy hprv
            rw [← HL.out, h]
            cases hk3 : (kd ts q == 3)
            · rfl
            · simp
          have nq := HF.out.node hqn
          have kt := nq.ty
          have hty : (nodeR (fun i => i + sz ts i) 0 nb (ts.getD q default) (vv q) q).ty = tyOf (kd ts q) := rfl
          rw [hty] at kt
          have hkinds := HR.out.kinds hqn (by have := (par_some hpq).1; omega)
          clear hprv hpy
          by_cases h3 : kd ts q = 3
          · have ht : tyOf (kd ts q) = 3 := by rw [h3]; rfl
            rw [ht] at kt
            have hfin : L.head? = some q := by rw [← hLq, h3]; rfl
            have HFIN := Lib.hid hfin
            clear hLq hpq hkinds nq hty h3 ht hfin HL
            go_wp2
            go_ret
            exact ⟨by rw [HFIN.out]; rfl, rfl⟩
          · have ht : tyOf (kd ts q) ≠ 3 := by
              rcases hkinds with hk | ⟨hk | hk | hk, _⟩
              · exact absurd hk h3
              · exact tyOf_ne (.inr (.inl hk))
              · exact tyOf_ne (.inr (.inr (.inl hk)))
              · exact tyOf_ne (.inr (.inr (.inr hk)))
            have hc1 : (lb (elKid ts p) q).reverse = L := by
              have h5 : (kd ts q == 3) = false := by simp [h3]
              rw [← hLq, h5]; rfl
            obtain ⟨t, hte⟩ : ∃ t, tyOf (kd ts q) = t := ⟨_, rfl⟩
            rw [hte] at kt ht
            have gt : (t == 3) = false := by simp [ht]
            have H := Lib.hid (And.intro hpq hc1)
            clear hLq hpq hkinds nq hty h3 ht hc1 hte HL
            go_wp2
            go_roundg q
            case measure => omega
            case rel => exact ⟨q, rfl, hqn, H.out.1, H.out.2, .inl rfl, rfl⟩

set_option maxRecDepth 100000 in
set_option maxHeartbeats 4000000 in
theorem iterPrev_m3 {B : Nat} (b1 b2 b3 x p : Nat) (cur : Value) (w : World) (bl len : Nat) (nb : Nat → Nat) (vv : Nat → Value) (ts : List NodeD) (hF : Forest B w bl len nb vv ts) (hR : RightT ts len) (hx : x < len) (hp : par (sz ts) x = some p)
    (c1 : w.cell? ⟨b1, 0, none⟩ = some (.int .i64 (-3))) (hcur : cur = .pointer (some ⟨nb x, 0, none⟩) ∨ (cur = .pointer none ∧ w.cell? ⟨b3, 0, none⟩ = some (.pointer (some ⟨nb x, 0, none⟩)))) :
    Calls Try.prog 85 #[cur, .pointer (some ⟨b1, 0, none⟩), .pointer (some ⟨b2, 0, none⟩), .pointer (some ⟨b3, 0, none⟩)] w (PtrPost nb ((lb (elKid ts p) x).reverse).head? w) := by
  have hlen := hR.le
  obtain ⟨L, hL⟩ : ∃ L, (lb (elKid ts p) x).reverse = L := ⟨_, rfl⟩
  rw [hL]
  have HL0 := Lib.hid hL
  have HF := Lib.hid hF
  have HR := Lib.hid hR
  have HP := Lib.hid hp
  have HCUR := Lib.hid hcur
  clear hF hR hp hcur hL
  go_enter Try.func85, Try.ntmps85
  go_wp2
  go_loopg [0] x (fun gk n wr => ∃ y, y = gk ∧ y < len ∧ par (sz ts) y = some p ∧ (lb (elKid ts p) y).reverse = L ∧ (n = .pointer (some ⟨nb y, 0, none⟩) ∨ (n = .pointer none ∧ w.cell? ⟨b3, 0, none⟩ = some (.pointer (some ⟨nb y, 0, none⟩)))) ∧ wr = w)
  case atStart => exact ⟨x, rfl, hx, HP.out, HL0.out, HCUR.out, rfl⟩
  case round =>
    obtain ⟨y, rfl, hy, hpy, hLy, hn, rfl⟩ := hrel
    have HL := Lib.hid hLy
    have kx := (HF.out.node hy).prv
    have hxp : (nodeR (fun i => i + sz ts i) 0 nb (ts.getD y default) (vv y) y).prv = (prvK (fun i => i + sz ts i) 0 y).map nb := rfl
    rw [hxp] at kx
    clear hLy hxp
    rcases hn with rfl | ⟨rfl, c3⟩
    all_goals
      cases hprv : prvK (fun i => i + sz ts i) 0 y with
      | none =>
        rw [hprv, Option.map_none, lk_none] at kx
        have hz : L = [] := HL.out.symm.trans (show (lb (elKid ts p) y).reverse = [] by have h := prv_none_lb (Q := fun k => kd ts k == 3) HR.out.nest hy hpy hprv; rw [show lb (elKid ts p) y = [] from h]; rfl)
        have HZ := Lib.hid hz
        clear hprv hpy hz HL
        go_wp2
        go_ret
        exact ⟨by rw [HZ.out]; rfl, rfl⟩
      | some q =>
          rw [hprv, Option.map_some, lk_some] at kx
          obtain ⟨hqy, hpq, -⟩ := prv_some hpy hprv
          have hqn : q < len := by omega
          have hLq : (if kd ts q == 3 then q :: (lb (elKid ts p) q).reverse else (lb (elKid ts p) q).reverse) = L := by
            have h : lb (elKid ts p) y = if kd ts q == 3 then lb (elKid ts p) q ++ [q] else lb (elKid ts p) q := prv_lb (Q := fun k => kd ts k == 3) hpy hprv
            rw [← HL.out, h]
            cases hk3 : (kd ts q == 3)
            · rfl
            · simp
          have nq := HF.out.node hqn
          have kt := nq.ty
          have hty : (nodeR (fun i => i + sz ts i) 0 nb (ts.getD q default) (vv q) q).ty = tyOf (kd ts q) := rfl
          rw [hty] at kt
          have hkinds := HR.out.kinds hqn (by have := (par_some hpq).1; omega)
          clear hprv hpy
          by_cases h3 : kd ts q = 3
          · have ht : tyOf (kd ts q) = 3 := by rw [h3]; rfl
            rw [ht] at kt
            have hfin : L.head? = some q := by rw [← hLq, h3]; rfl
            have HFIN := Lib.hid hfin
            clear hLq hpq hkinds nq hty h3 ht hfin HL
            go_wp2
            go_ret
            exact ⟨by rw [HFIN.out]; rfl, rfl⟩
          · have ht : tyOf (kd ts q) ≠ 3 := by
              rcases hkinds with hk | ⟨hk | hk | hk, _⟩
              · exact absurd hk h3
              · exact tyOf_ne (.inr (.inl hk))
              · exact tyOf_ne (.inr (.inr (.inl hk)))
              · exact tyOf_ne (.inr (.inr (.inr hk)))
            have hc1 : (lb (elKid ts p) q).reverse = L := by
              have h5 : (kd ts q == 3) = false := by simp [h3]
              rw [← hLq, h5]; rfl
            obtain ⟨t, hte⟩ : ∃ t, tyOf (kd ts q) = t := ⟨_, rfl⟩
            rw [hte] at kt ht
            have gt : (t == 3) = false := by simp [ht]
            have H := Lib.hid (And.intro hpq hc1)
            clear hLq hpq hkinds nq hty h3 ht hc1 hte HL
            go_wp2
            go_roundg q
            case measure => omega
            case rel => exact ⟨q, rfl, hqn, H.out.1, H.out.2, .inl rfl, rfl⟩

end Go.Proofs.Ytjidbnegoailcaa
