/- All kids of nodes of a forest, as goquery lists them. (Printed by gen_wkcon.py.) goquery.getParentsNodes up to other nodes. (Printed by gen_wkup.py.) -/
import Derived.Test.YtphppdbhofeagaaGreatWkPure
import Derived.Test.YtphppdbhofeagaaGreatSibEnd
import Derived.Laws.MakeOwn
import Derived.Deep.LoopGhost
import Derived.Test.YtphppdbhofeagaaGreatUpAll
import Derived.Test.YtphppdbhofeagaaGreatMember
import Derived.Test.YtphppdbhofeagaaGreatSelBase
namespace Go.Proofs.YtphppdbhofeagaaGreat
open Go.RowKit
set_option linter.unusedVariables false
set_option linter.unusedSimpArgs false

def LkPost4 (o : Option Nat) (w : World) (e : Ending) (w' : World) : Prop := e = .returned (lk o) ∧ w = w'

theorem eqlNilNil4 (w : World) : (binOp .eql 75 (.pointer none) (.pointer none)).run Tryz.prog w = .ok (.bool true) w := by kernel_rfl
theorem eqlSomeNil4 (w : World) (b : Nat) : (binOp .eql 75 (.pointer (some ⟨b, 0, none⟩)) (.pointer none)).run Tryz.prog w = .ok (.bool false) w := by kernel_rfl

/-- The kids from a node on. -/
def conS (ts : List NodeD) (len p y : Nat) : List Nat := rb (fun k => (par (sz ts) k == some p) && (fun _ => true) k) (y + 1) (len - (y + 1))

set_option maxRecDepth 100000 in
set_option maxHeartbeats 4000000 in
theorem iter4F_none {B : Nat} (b1 b2 b3 p : Nat) (w : World) (bl len : Nat) (nb : Nat → Nat) (vv : Nat → Value) (ts : List NodeD) (hF : Forest B w bl len nb vv ts) (hR : RightT ts len) (hp : p < len)
    (c1 : w.cell? ⟨b1, 0, none⟩ = some (.int .i64 4)) (c2 : w.cell? ⟨b2, 0, none⟩ = some (.pointer (some ⟨nb p, 0, none⟩))) (c3 : w.cell? ⟨b3, 0, none⟩ = some (.pointer none)) :
    Calls Tryz.prog 110 #[.pointer none, .pointer (some ⟨b1, 0, none⟩), .pointer (some ⟨b2, 0, none⟩), .pointer (some ⟨b3, 0, none⟩)] w (LkPost4 ((conS ts len p p).head?.map nb) w) := by
  have kx := (hF.node hp).fst
  have e1 : (nodeR (fun i => i + sz ts i) 0 nb (ts.getD p default) (vv p) p).fst = (fstK (fun i => i + sz ts i) p).map nb := rfl
  rw [e1] at kx
  obtain ⟨o, ho⟩ : ∃ o, fstK (fun i => i + sz ts i) p = o := ⟨_, rfl⟩
  rw [ho] at kx
  have hhead : (conS ts len p p).head? = o ∧ ∀ q, o = some q → q < len := by
    unfold conS
    cases o with
    | none => rw [rb_fst_none (Q := fun _ => true) hR.nest hp ho]; exact ⟨rfl, fun q h => by cases h⟩
    | some q =>
      obtain ⟨h1, h2, _⟩ := rb_fst_some (Q := fun _ => true) hR.nest hp ho
      rw [h1]
      exact ⟨rfl, fun q' h => by cases h; exact h2⟩
  rw [hhead.1]
  have HQ := Lib.hid hhead.2
  have H := Lib.hid hF
  clear hF hR hp e1 ho hhead
  go_enter Tryz.func110, Tryz.ntmps110
  go_wp2
  go_loopg [0] 1 (fun gk c wr => gk = 1 ∧ c = .pointer none ∧ w = wr)
  case atStart => exact ⟨rfl, rfl, rfl⟩
  case round =>
    obtain ⟨rfl, rfl, rfl⟩ := hrel
    cases o with
    | none =>
      rw [Option.map_none, lk_none] at kx
      have heq := eqlNilNil4 w
      go_wp2
      go_ret
      exact ⟨rfl, rfl⟩
    | some q =>
      rw [Option.map_some, lk_some] at kx
      have kt := (H.out.node (HQ.out q rfl)).ty
      obtain ⟨ty, hty⟩ : ∃ ty, (nodeR (fun i => i + sz ts i) 0 nb (ts.getD q default) (vv q) q).ty = ty := ⟨_, rfl⟩
      rw [hty] at kt
      have heq := eqlSomeNil4 w (nb q)
      clear hty
      by_cases h3 : ty = 3
      · subst h3
        go_wp2
        go_ret
        exact ⟨rfl, rfl⟩
      · have g3 : (ty == 3) = false := by simp [h3]
        clear h3
        go_wp2
        go_ret
        exact ⟨rfl, rfl⟩

set_option maxRecDepth 100000 in
set_option maxHeartbeats 4000000 in
theorem iter4F_some {B : Nat} (b1 b2 b3 p y : Nat) (w : World) (bl len : Nat) (nb : Nat → Nat) (vv : Nat → Value) (ts : List NodeD) (hF : Forest B w bl len nb vv ts) (hR : RightT ts len) (hy : y < len) (hyp : par (sz ts) y = some p)
    (c1 : w.cell? ⟨b1, 0, none⟩ = some (.int .i64 4)) (c3 : w.cell? ⟨b3, 0, none⟩ = some (.pointer none)) :
    Calls Tryz.prog 110 #[.pointer (some ⟨nb y, 0, none⟩), .pointer (some ⟨b1, 0, none⟩), .pointer (some ⟨b2, 0, none⟩), .pointer (some ⟨b3, 0, none⟩)] w (LkPost4 ((conS ts len p y).head?.map nb) w) := by
  have kx := (hF.node hy).nxt
  have e1 : (nodeR (fun i => i + sz ts i) 0 nb (ts.getD y default) (vv y) y).nxt = (nxtK (fun i => i + sz ts i) 0 y).map nb := rfl
  rw [e1] at kx
  obtain ⟨o, ho⟩ : ∃ o, nxtK (fun i => i + sz ts i) 0 y = o := ⟨_, rfl⟩
  rw [ho] at kx
  have hhead : (conS ts len p y).head? = o ∧ ∀ q, o = some q → q < len := by
    unfold conS
    cases o with
    | none => rw [rb_nxt_none (Q := fun _ => true) hR.nest hy hyp ho]; exact ⟨rfl, fun q h => by cases h⟩
    | some q =>
      have h1 := rb_nxt_some (Q := fun _ => true) hR.nest hy hyp ho
      rw [h1]
      refine ⟨rfl, fun q' h => ?_⟩
      cases h
      have h2 : q ∈ rb (fun k => (par (sz ts) k == some p) && (fun _ => true) k) (y + 1) (len - (y + 1)) := by rw [h1]; simp
      have := (rb_mem.1 h2).2.1
      omega
  rw [hhead.1]
  have HQ := Lib.hid hhead.2
  have H := Lib.hid hF
  clear hF hR hy hyp e1 ho hhead
  go_enter Tryz.func110, Tryz.ntmps110
  go_wp2
  go_loopg [0] 1 (fun gk c wr => gk = 1 ∧ c = .pointer (some ⟨nb y, 0, none⟩) ∧ w = wr)
  case atStart => exact ⟨rfl, rfl, rfl⟩
  case round =>
    obtain ⟨rfl, rfl, rfl⟩ := hrel
    cases o with
    | none =>
      rw [Option.map_none, lk_none] at kx
      have heq := eqlNilNil4 w
      go_wp2
      go_ret
      exact ⟨rfl, rfl⟩
    | some q =>
      rw [Option.map_some, lk_some] at kx
      have kt := (H.out.node (HQ.out q rfl)).ty
      obtain ⟨ty, hty⟩ : ∃ ty, (nodeR (fun i => i + sz ts i) 0 nb (ts.getD q default) (vv q) q).ty = ty := ⟨_, rfl⟩
      rw [hty] at kt
      have heq := eqlSomeNil4 w (nb q)
      clear hty
      by_cases h3 : ty = 3
      · subst h3
        go_wp2
        go_ret
        exact ⟨rfl, rfl⟩
      · have g3 : (ty == 3) = false := by simp [h3]
        clear h3
        go_wp2
        go_ret
        exact ⟨rfl, rfl⟩

set_option maxRecDepth 100000 in
set_option maxHeartbeats 8000000 in
theorem kids_4 (o2 o3 : Option Addr) (f : Value) (L : List Nat) (w w3 : World) (hL : L.length ≤ 200) (hw3 : w3 = ((w.alloc (.cells #[.pointer o2] 75)).alloc (.cells #[.int .i64 4] 103)).alloc (.cells #[.pointer o3] 75))
    (hit : ∀ w', Below w3.heap.size w3 w' → Calls Tryz.prog 110 #[.pointer none, .pointer (some ⟨w.heap.size + 1, 0, none⟩), .pointer (some ⟨w.heap.size, 0, none⟩), .pointer (some ⟨w.heap.size + 1 + 1, 0, none⟩)] w' (LkPost4 L[0]? w') ∧
      ∀ k, k < L.length → Calls Tryz.prog 110 #[.pointer (some ⟨L.getD k 0, 0, none⟩), .pointer (some ⟨w.heap.size + 1, 0, none⟩), .pointer (some ⟨w.heap.size, 0, none⟩), .pointer (some ⟨w.heap.size + 1 + 1, 0, none⟩)] w' (LkPost4 L[k + 1]? w')) :
    Calls Tryz.prog 105 #[.pointer o2, .int .i64 4, .pointer o3, f] w (OwnPtrsPost L w) := by
  obtain ⟨i0, hi, hz0, hz1, hz2⟩ := info_parts Tryz.infoPtr
  have hb3 : Below w.heap.size w w3 := by rw [hw3]; exact (((Below.refl _ _).alloc (Nat.le_refl _) _).alloc (by simp) _).alloc (by simp; omega) _
  have cst : w3.cell? ⟨w.heap.size + 1, 0, none⟩ = some (.int .i64 4) := by rw [hw3]; exact cell_alloc_old (cell_alloc_new' _ _ _ (by simp) rfl) _
  have hmf : ∀ (fn : Fn) (first cap : Array Value) (w : World), (Instr.makeFunc fn first cap).run Tryz.prog w = .ok (.func fn first cap) w := fun _ _ _ _ => rfl
  have hsz : w.heap.size + 1 < w3.heap.size := by rw [hw3]; simp
  have HIT := Lib.hid hit
  have HB3 := Lib.hid hb3
  clear hit hb3
  have hmk := fun (w' : World) => run_make (P := Tryz.prog) w' 53 75 i0 (.pointer none) Tryz.underlying53 hi hz0 .i64 .i64 0 (L.length : Int) (by omega) (by omega) (by rw [hz2]; omega) (by omega)
  simp only [hz1, Int.toNat_zero, Int.toNat_natCast, Nat.mul_one] at hmk
  go_enter Tryz.func105, Tryz.ntmps105
  go_wp2_with fail
  rw [← hw3]
  clear hw3
  refine (HIT.out w3 (Below.refl _ _)).1.mono ?_
  rintro e w4 ⟨rfl, rfl⟩
  go_wp2
  go_loopw [10, 11] (fun n c wr => ∃ k, k ≤ L.length ∧ n = .int .i64 (k : Int) ∧ c = lk L[k]? ∧ w3 = wr) (fun n _ _ => L.length - (intOf n).toNat)
  case atStart => exact ⟨0, by omega, by go_num, rfl, rfl⟩
  case round =>
    obtain ⟨k, hk, rfl, rfl, rfl⟩ := hrel
    by_cases hlt : k < L.length
    · have he : L[k]? = some (L.getD k 0) := by simp [List.getD, hlt]
      rw [he, lk_some]
      have hcl := (HIT.out w3 (Below.refl _ _)).2 k hlt
      obtain ⟨y, hy⟩ : ∃ y, L.getD k 0 = y := ⟨_, rfl⟩
      rw [hy] at hcl ⊢
      have HCL := Lib.hid hcl
      clear hy hcl he
      go_wp2_with fail
      refine HCL.out.mono ?_
      rintro e w5 ⟨rfl, rfl⟩
      go_wp2
      go_roundw
      case rel => exact ⟨k + 1, by omega, by go_num, rfl, by first | rfl | trivial⟩
      case measure => simp [intOf]; omega
    · obtain rfl : k = L.length := by omega
      rw [show L[L.length]? = none by simp, lk_none]
      have hown0 : (w3.alloc (.cells (madeCells (Value.pointer none).cells L.length) 75)).ownsRow w3.heap.size 75 1 (.slice (some ⟨w3.heap.size, 0, none⟩) 0 L.length) 0 [] := World.ownsRow_made w3 _ L.length (Nat.le_refl _) (by unfold maxLen; omega) (by simp [size_madeCells])
      have hb4 : Below w3.heap.size w3 (w3.alloc (.cells (madeCells (Value.pointer none).cells L.length) 75)) := (Below.refl _ _).alloc (Nat.le_refl _) _
      have hmk3 := hmk w3
      obtain ⟨w4, hw4⟩ : ∃ w4, w3.alloc (.cells (madeCells (Value.pointer none).cells L.length) 75) = w4 := ⟨_, rfl⟩
      rw [hw4] at hown0 hb4 hmk3
      have cst4 := cell_below hb4 cst
      have HO4 := Lib.hid (And.intro hown0 hb4)
      clear hmk hown0 hb4 hlt hw4
      go_wp2_with fail
      refine (HIT.out w4 HO4.out.2).1.mono ?_
      rintro e w5 ⟨rfl, rfl⟩
      clear hmk3
      go_wp2
      go_loopg [8, 12] L.length (fun gk r c wy => ∃ k, gk = L.length - k ∧ k ≤ L.length ∧ c = lk L[k]? ∧ OwnPtrs wy w3.heap.size r (L.take k) ∧ Below w3.heap.size w3 wy)
      case atStart => exact ⟨0, by omega, by omega, rfl, HO4.out.1, HO4.out.2⟩
      case round =>
        obtain ⟨k, rfl, hk, rfl, hown, hbel⟩ := hrel
        have cstx := cell_below hbel cst
        by_cases hlt : k < L.length
        · have he : L[k]? = some (L.getD k 0) := by simp [List.getD, hlt]
          rw [he, lk_some]
          have hcl : ∀ w', Below w3.heap.size w3 w' → Calls Tryz.prog 110 #[.pointer (some ⟨L.getD k 0, 0, none⟩), .pointer (some ⟨w.heap.size + 1, 0, none⟩), .pointer (some ⟨w.heap.size, 0, none⟩), .pointer (some ⟨w.heap.size + 1 + 1, 0, none⟩)] w' (LkPost4 L[k + 1]? w') := fun w' hb => (HIT.out w' hb).2 k hlt
          have htk := take_snoc hlt
          obtain ⟨y, hy⟩ : ∃ y, L.getD k 0 = y := ⟨_, rfl⟩
          obtain ⟨D, hD⟩ : ∃ D, L.take k = D := ⟨_, rfl⟩
          have hDl : D.length = k := by rw [← hD]; simp; omega
          rw [hy] at hcl htk ⊢
          rw [hD] at hown htk
          have hown' : wr.ownsRow w3.heap.size 75 1 u8 D.length (D.map ptrV) := hown
          have HCL := Lib.hid hcl
          have HTK := Lib.hid htk
          have HBEL := Lib.hid hbel
          clear hy hcl he hD htk hown hbel
          go_wp2_with (at_builtin; refine wpList_append_own _ rfl _ _ 53 rfl w3.heap.size 75 i0 (.pointer none) 1 8 Tryz.underlying53 hi hz0 hz1 hz2 rfl (by decide) _ _ _ rfl (hown'.alloc _) ⟨wr.heap.size, 0, none⟩ 1 1 [.pointer (some ⟨y, 0, none⟩)] rfl rfl ?c1 ?c2 ?c3 ?c4 ?c5 ?_)
          case c1 =>
            intro j u hj
            match j, hj with
            | 0, hj => simp at hj; subst hj; simp [Addr.add]
          case c2 => intro u hu; simp at hu; subst hu; rfl
          case c3 => unfold maxLen; omega
          case c4 => omega
          case c5 => have := HBEL.out.size; first | (simp; done) | (simp; omega)
          intro v' w1 hown2 hgrow _
          have hbel2 : Below w3.heap.size w3 w1 := (HBEL.out.alloc HBEL.out.size _).grown hgrow (by have := HBEL.out.size; first | (simp; done) | (simp; omega)) (fun q hq => (World.ownsRow.lt hown' q hq).1)
          rw [← hDl] at hown2
          have hsn := ownPtrs_snoc (k := y) hown2
          have H1 := Lib.hid (And.intro hsn hbel2)
          have cst1 := cell_below hbel2 cst
          clear hown2 hgrow hbel2 hsn hown' cstx
          go_wp2_with fail
          refine (HCL.out w1 H1.out.2).mono ?_
          rintro e w6 ⟨rfl, rfl⟩
          go_wp2
          go_roundg (L.length - (k + 1))
          case measure => omega
          case rel => exact ⟨k + 1, rfl, by omega, rfl, by rw [HTK.out]; exact H1.out.1, H1.out.2⟩
        · obtain rfl : k = L.length := by omega
          rw [show L[L.length]? = none by simp, lk_none]
          rw [List.take_length] at hown
          have HOWN : Hid (OwnPtrs wr w.heap.size u8 L) := Lib.hid (ownsRow_base hown (by omega))
          have HBEL := Lib.hid (HB3.out.trans (hbel.mono HB3.out.size))
          clear hown hbel hlt
          go_wp2
          go_ret
          exact ⟨_, rfl, HOWN, HBEL⟩

/-- The kids of a node, in order. -/
theorem children4F {B : Nat} (p : Nat) (f : Value) (w : World) (bl len : Nat) (nb : Nat → Nat) (vv : Nat → Value) (ts : List NodeD) (hF : Forest B w bl len nb vv ts) (hR : RightT ts len) (hp : p < len) :
    Calls Tryz.prog 105 #[.pointer (some ⟨nb p, 0, none⟩), .int .i64 4, .pointer none, f] w (OwnPtrsPost ((conL ts len p).map nb) w) := by
  obtain ⟨w3, hw3⟩ : ∃ w3, w3 = ((w.alloc (.cells #[.pointer (some ⟨nb p, 0, none⟩)] 75)).alloc (.cells #[.int .i64 4] 103)).alloc (.cells #[.pointer none] 75) := ⟨_, rfl⟩
  have hb3 : Below w.heap.size w w3 := by rw [hw3]; exact (((Below.refl _ _).alloc (Nat.le_refl _) _).alloc (by simp) _).alloc (by simp; omega) _
  have c1 : w3.cell? ⟨w.heap.size + 1, 0, none⟩ = some (.int .i64 4) := by rw [hw3]; exact cell_alloc_old (cell_alloc_new' _ _ _ (by simp) rfl) _
  have c2 : w3.cell? ⟨w.heap.size, 0, none⟩ = some (.pointer (some ⟨nb p, 0, none⟩)) := by rw [hw3]; exact cell_alloc_old (cell_alloc_old (cell_alloc_new' _ _ _ rfl rfl) _) _
  have c3 : w3.cell? ⟨w.heap.size + 1 + 1, 0, none⟩ = some (.pointer none) := by rw [hw3]; exact cell_alloc_new' _ _ _ (by simp) rfl
  have hgood := conL_good ts len p hp
  have hlen := hR.le
  have hchain := fun (k : Nat) (hk : k < (conL ts len p).length) => chain_drop (S := fun y => rb (fun k => (par (sz ts) k == some p) && (fun _ => true) k) (y + 1) (len - (y + 1))) (rb_chain (P := fun k => (par (sz ts) k == some p) && (fun _ => true) k) (n := len)) k p (conL ts len p) rfl hk
  refine kids_4 _ _ f ((conL ts len p).map nb) w w3 (by rw [List.length_map]; exact Nat.le_trans hgood.le hlen) hw3 (fun w' hb => ⟨?_, fun k hk => ?_⟩)
  · have h1 := iter4F_none (w.heap.size + 1) w.heap.size (w.heap.size + 1 + 1) p w' bl len nb vv ts ((hF.below hb3).below hb) hR hp (cell_below hb c1) (cell_below hb c2) (cell_below hb c3)
    have e : ((conL ts len p).map nb)[0]? = (conS ts len p p).head?.map nb := by
      show ((conL ts len p).map nb)[0]? = (conL ts len p).head?.map nb
      cases conL ts len p <;> rfl
    rw [e]
    exact h1
  · rw [List.length_map] at hk
    have hmem := getD_mem' (d := 0) hk
    have hpar : par (sz ts) ((conL ts len p).getD k 0) = some p := by
      have h2 := (rb_mem.1 hmem).2.2
      simpa using h2
    have h1 := iter4F_some (w.heap.size + 1) w.heap.size (w.heap.size + 1 + 1) p _ w' bl len nb vv ts ((hF.below hb3).below hb) hR (hgood.lt _ hmem) hpar (cell_below hb c1) (cell_below hb c3)
    have e : ((conL ts len p).map nb)[k + 1]? = (conS ts len p ((conL ts len p).getD k 0)).head?.map nb := by
      have h3 : conS ts len p ((conL ts len p).getD k 0) = (conL ts len p).drop (k + 1) := hchain k hk
      rw [h3]
      simp
    have e2 : ((conL ts len p).map nb).getD k 0 = nb ((conL ts len p).getD k 0) := by simp [List.getD, hk]
    rw [e, e2]
    exact h1

set_option maxRecDepth 100000 in
set_option maxHeartbeats 1000000 in
theorem clo_con {B : Nat} (i : Int) (x bst : Nat) (w : World) (bl len : Nat) (nb : Nat → Nat) (vv : Nat → Value) (ts : List NodeD) (hF : Forest B w bl len nb vv ts) (hR : RightT ts len) (hx : x < len) (cst : w.cell? ⟨bst, 0, none⟩ = some (.int .i64 4)) :
    Calls Tryz.prog 106 #[.int .i64 i, .pointer (some ⟨nb x, 0, none⟩), .pointer (some ⟨bst, 0, none⟩)] w (OwnPtrsPost ((conL ts len x).map nb) w) := by
  have hk := children4F x .nilFunc w bl len nb vv ts hF hR hx
  obtain ⟨R, hR2⟩ : ∃ R, (conL ts len x).map nb = R := ⟨_, rfl⟩
  rw [hR2] at hk ⊢
  have HK := Lib.hid hk
  clear hk hF hR hR2
  go_enter Tryz.func106, Tryz.ntmps106
  go_wp2_with fail
  refine HK.out.mono ?_
  rintro e w1 ⟨v, rfl, ho, hb⟩
  go_wp2
  go_ret
  exact ⟨v, rfl, ho, hb⟩

set_option maxRecDepth 100000 in
set_option maxHeartbeats 2000000 in
theorem getCon {B : Nat} (v : Value) (l : List Nat) (w : World) (bl len : Nat) (nb : Nat → Nat) (vv : Nat → Value) (ts : List NodeD) (hF : Forest B w bl len nb vv ts) (hR : RightT ts len) (hv : PtrsOf w v (l.map nb)) (hin : ∀ i ∈ l, i < len) (hn : l.length ≤ 200) :
    Calls Tryz.prog 89 #[v, .int .i64 4] w (OwnPtrsPost ((onceF (l.flatMap (conL ts len))).map nb) w) := by
  have hlen := hR.le
  have hmap : ∀ w0, Below w.heap.size w w0 → w0.cell? ⟨w.heap.size, 0, none⟩ = some (.int .i64 4) →
      Calls Tryz.prog 77 #[v, .func (.func 106) #[] #[.pointer (some ⟨w.heap.size, 0, none⟩)]] w0 (OwnPtrsPost ((onceF (l.flatMap (conL ts len))).map nb) w0) := fun w0 hb c0 =>
    mapManyKid v _ l (conL ts len) w0 bl len nb vv ts (hF.below hb) (hv.below hb) hn (fun x hx => (conL_good ts len x (hin x hx)).lt) (fun x hx => Nat.le_trans (conL_good ts len x (hin x hx)).le hlen) (fun x hx => (conL_good ts len x (hin x hx)).once) (fun k hk w' hb' => by
      have hmem := getD_mem' (d := 0) hk
      have hbw : Below w.heap.size w w' := hb.trans (hb'.mono hb.size)
      exact clo_con (k : Int) (l.getD k 0) w.heap.size w' bl len nb vv ts (hF.below hbw) hR (hin _ hmem) (cell_below hb' c0))
  obtain ⟨R, hR2⟩ : ∃ R, (onceF (l.flatMap (conL ts len))).map nb = R := ⟨_, rfl⟩
  rw [hR2] at hmap ⊢
  have HM := Lib.hid hmap
  clear hmap hR2 hF hR hv hin
  have hmf : ∀ (fn : Fn) (first cap : Array Value) (w : World), (Instr.makeFunc fn first cap).run Tryz.prog w = .ok (.func fn first cap) w := fun _ _ _ _ => rfl
  go_enter Tryz.func89, Tryz.ntmps89
  go_wp2_with fail
  refine (HM.out _ ((Below.refl _ _).alloc (Nat.le_refl _) _) (cell_alloc_new' _ _ _ rfl rfl)).mono ?_
  rintro e w1 ⟨v', rfl, ho, hb⟩
  have HB : Hid (Below w.heap.size w w1) := Lib.hid (((Below.refl _ _).alloc (Nat.le_refl _) _).trans (hb.out.mono (by simp)))
  have hown : Hid (OwnPtrs w1 w.heap.size v' R) := Lib.hid (ownsRow_base ho.out (by simp))
  clear ho hb HM
  go_wp2
  go_ret
  exact ⟨v', rfl, hown, HB⟩

end Go.Proofs.YtphppdbhofeagaaGreat

namespace Go.Proofs.YtphppdbhofeagaaGreat
open Go.RowKit
set_option linter.unusedVariables false
set_option linter.unusedSimpArgs false

set_option maxRecDepth 100000 in
set_option maxHeartbeats 4000000 in
theorem upClo0 {B : Nat} (i : Int) (x bm bs : Nat) (w : World) (bl len : Nat) (nb : Nat → Nat) (vv : Nat → Value) (ts : List NodeD) (hF : Forest B w bl len nb vv ts) (hR : RightT ts len) (hx : x < len) (wa : Option Addr) (wc : Nat)
    (cm : w.cell? ⟨bm, 0, none⟩ = some .nilIface) (cs : w.cell? ⟨bs, 0, none⟩ = some (.slice wa 0 wc)) :
    Calls Tryz.prog 102 #[.int .i64 i, .pointer (some ⟨nb x, 0, none⟩), .pointer (some ⟨bm, 0, none⟩), .pointer (some ⟨bs, 0, none⟩)] w (OwnPtrsPost ((ancL ts x).map nb) w) := by
  obtain ⟨i0, hi, hz0, hz1, hz2⟩ := info_parts Tryz.infoPtr
  have hlen := hR.le
  obtain ⟨L, hL⟩ : ∃ L, ancL ts x = L := ⟨_, rfl⟩
  have hLl : L.length ≤ 200 := by rw [← hL]; exact Nat.le_trans (ancL_good ts len x hx).le hlen
  rw [hL]
  have HL := Lib.hid hL
  have HF := Lib.hid hF
  have HR := Lib.hid hR
  obtain ⟨g0, hg0, hst⟩ := upAt_start (ts := ts) hx
  rw [hL] at hst
  have kx := (hF.node hx).par
  rw [show (nodeR (fun i => i + sz ts i) 0 nb (ts.getD x default) (vv x) x).par = (up (fun i => i + sz ts i) 0 x).map nb from rfl, up_par] at kx
  obtain ⟨q0, hq0⟩ : ∃ q0, par (sz ts) x = q0 := ⟨_, rfl⟩
  rw [hq0] at kx hst
  obtain ⟨p0, hp0⟩ : ∃ p0, lk (q0.map nb) = p0 := ⟨_, rfl⟩
  rw [hp0] at kx
  have HST := Lib.hid hst
  have HP0 := Lib.hid hp0.symm
  clear hL hF hR hst hq0 hp0
  go_enter Tryz.func102, Tryz.ntmps102
  go_wp2
  go_loopg [7, 6] g0 (fun gk n o wr => ∃ (q : Option Nat) (D : List Nat), Hid (n = lk (q.map nb)) ∧ Hid (UpAt ts len L D gk q) ∧ Hid (OwnPtrs wr w.heap.size o (D.map nb)) ∧ Hid (Below w.heap.size w wr))
  case atStart => exact ⟨q0, [], HP0, HST, Lib.hid (World.ownsRow_nil _ _ _ _), Lib.hid (Below.refl _ _)⟩
  case round =>
    obtain ⟨q, D, hn, hu, hown, hbel⟩ := hrel
    have cm1 := cell_below hbel.out cm
    have cs1 := cell_below hbel.out cs
    cases q with
    | none =>
      obtain rfl := hn.out.trans (show lk (Option.map nb none) = .pointer none from rfl)
      have hd : D = L := hu.out
      have HO : Hid (OwnPtrs wr w.heap.size u6 (L.map nb)) := Lib.hid (by rw [← hd]; exact hown.out)
      clear hd hu hown hn
      go_wp2
      go_ret
      exact ⟨_, rfl, HO, hbel⟩
    | some y =>
      obtain rfl := hn.out.trans (show lk (Option.map nb (some y)) = .pointer (some ⟨nb y, 0, none⟩) from rfl)
      have hy := hu.out.2.1
      have hDl : D.length ≤ 200 := by
        have := congrArg List.length hu.out.2.2
        rw [List.length_append] at this
        omega
      have ny := HF.out.node hy
      have kt := cell_below hbel.out ny.ty
      rw [show (nodeR (fun i => i + sz ts i) 0 nb (ts.getD y default) (vv y) y).ty = tyOf (kd ts y) from rfl] at kt
      have kp := ny.par
      rw [show (nodeR (fun i => i + sz ts i) 0 nb (ts.getD y default) (vv y) y).par = (up (fun i => i + sz ts i) 0 y).map nb from rfl, up_par] at kp
      obtain ⟨g2, hg2, hu2⟩ := upAt_next hu.out
      obtain ⟨pq, hpq⟩ : ∃ pq, par (sz ts) y = pq := ⟨_, rfl⟩
      rw [hpq] at kp hu2
      obtain ⟨pv, hpv⟩ : ∃ pv, lk (pq.map nb) = pv := ⟨_, rfl⟩
      rw [hpv] at kp
      have HPV := Lib.hid hpv.symm
      have HKP := Lib.hid kp
      by_cases h3 : kd ts y = 3
      · rw [if_pos h3] at hu2
        have HU2 := Lib.hid hu2
        rw [show tyOf (kd ts y) = 3 by rw [h3]; rfl] at kt
        have hown2 : wr.ownsRow w.heap.size 75 1 u6 (D.map nb).length ((D.map nb).map ptrV) := hown.out
        have hDm : (D.map nb).length ≤ 200 := by rw [List.length_map]; exact hDl
        clear h3 hu2 hpq hpv hu hn ny kp
        go_wp2_with (at_builtin; refine wpList_append_own _ rfl _ _ 53 rfl w.heap.size 75 i0 (.pointer none) 1 8 Tryz.underlying53 hi hz0 hz1 hz2 rfl (by decide) _ _ _ rfl (hown2.alloc _) ⟨wr.heap.size, 0, none⟩ 1 1 [.pointer (some ⟨nb y, 0, none⟩)] rfl rfl ?c1 ?c2 ?c3 ?c4 ?c5 ?_)
        case c1 =>
          intro j u hj
          match j, hj with
          | 0, hj => simp at hj; subst hj; simp [Addr.add]
        case c2 => intro u hu; simp at hu; subst hu; rfl
        case c3 => unfold maxLen; omega
        case c4 => omega
        case c5 => have := hbel.out.size; simp; omega
        intro v' w3 hown3 hgrow _
        have hbel3 : Below w.heap.size w w3 := (hbel.out.alloc hbel.out.size _).grown hgrow (by have := hbel.out.size; simp; omega) (fun q hq => (World.ownsRow.lt hown2 q hq).1)
        have hsn : OwnPtrs w3 w.heap.size v' ((D ++ [y]).map nb) := by unfold OwnPtrs; simpa [ptrV] using hown3
        have H3 := Lib.hid hsn
        have HB3 := Lib.hid hbel3
        have kp3 := cell_below hbel3 HKP.out
        clear hown3 hgrow hbel3 hsn hown2 kt hown hbel
        go_wp2
        go_roundg g2
        case measure => omega
        case rel => exact ⟨pq, D ++ [y], HPV, HU2, H3, HB3⟩
      · have ht : tyOf (kd ts y) ≠ 3 := by
          rcases Nat.eq_zero_or_pos y with h0 | h0
          · rw [h0, HR.out.kind]; exact tyOf_root
          · rcases HR.out.kinds hy h0 with hk | ⟨hk | hk | hk, _⟩
            · exact absurd hk h3
            · exact tyOf_ne (.inr (.inl hk))
            · exact tyOf_ne (.inr (.inr (.inl hk)))
            · exact tyOf_ne (.inr (.inr (.inr hk)))
        rw [if_neg h3, List.append_nil] at hu2
        have HU2 := Lib.hid hu2
        obtain ⟨t, hte⟩ : ∃ t, tyOf (kd ts y) = t := ⟨_, rfl⟩
        rw [hte] at kt ht
        have gt : (t == 3) = false := by simp [ht]
        have kp3 := cell_below hbel.out HKP.out
        clear h3 hu2 hpq hpv hu hn ny kp hte ht
        go_wp2
        go_roundg g2
        case measure => omega
        case rel => exact ⟨pq, D, HPV, HU2, hown, hbel⟩

set_option maxRecDepth 100000 in
set_option maxHeartbeats 4000000 in
theorem upCloW {B : Nat} (i : Int) (x bm bs : Nat) (w : World) (bl len : Nat) (nb : Nat → Nat) (vv : Nat → Value) (ts : List NodeD) (hF : Forest B w bl len nb vv ts) (hR : RightT ts len) (hx : x < len) (wa : Option Addr) (wc : Nat) (wl : List Nat) (hwl : ∀ y ∈ wl, y < len ∧ kd ts y = 3) (hws : wl.length ≤ 200) (hz : 0 < wl.length) (hwp : PtrsOf w (.slice wa wl.length wc) (wl.map nb))
    (cm : w.cell? ⟨bm, 0, none⟩ = some .nilIface) (cs : w.cell? ⟨bs, 0, none⟩ = some (.slice wa wl.length wc)) :
    Calls Tryz.prog 102 #[.int .i64 i, .pointer (some ⟨nb x, 0, none⟩), .pointer (some ⟨bm, 0, none⟩), .pointer (some ⟨bs, 0, none⟩)] w (OwnPtrsPost ((upToL (fun y => decide (y ∈ wl)) (ancL ts x)).map nb) w) := by
  obtain ⟨i0, hi, hz0, hz1, hz2⟩ := info_parts Tryz.infoPtr
  have hlen := hR.le
  obtain ⟨L, hL⟩ : ∃ L, ancL ts x = L := ⟨_, rfl⟩
  have hLl : L.length ≤ 200 := by rw [← hL]; exact Nat.le_trans (ancL_good ts len x hx).le hlen
  rw [hL]
  have HL := Lib.hid hL
  have HF := Lib.hid hF
  have HR := Lib.hid hR
  obtain ⟨g0, hg0, hst⟩ := upAt_start (ts := ts) hx
  rw [hL] at hst
  have kx := (hF.node hx).par
  rw [show (nodeR (fun i => i + sz ts i) 0 nb (ts.getD x default) (vv x) x).par = (up (fun i => i + sz ts i) 0 x).map nb from rfl, up_par] at kx
  obtain ⟨q0, hq0⟩ : ∃ q0, par (sz ts) x = q0 := ⟨_, rfl⟩
  rw [hq0] at kx hst
  obtain ⟨p0, hp0⟩ : ∃ p0, lk (q0.map nb) = p0 := ⟨_, rfl⟩
  rw [hp0] at kx
  have HST := Lib.hid hst
  have HP0 := Lib.hid hp0.symm
  have hinj : ∀ i j, i < len → j < len → nb i = nb j → i = j := fun i j hi hj he => hF.seg.inj i j (Nat.zero_le _) hi (Nat.zero_le _) hj he
  have hin := fun (y : Nat) (hy : y < len) (w' : World) (hb : Below w.heap.size w w') => (show Calls Tryz.prog 101 #[.slice wa wl.length wc, .pointer (some ⟨nb y, 0, none⟩)] w' (BoolPost (decide (y ∈ wl)) w') from by
    have h1 := isIn_any (.slice wa wl.length wc) (wl.map nb) (nb y) w' (hwp.below hb) (hF.below hb |>.alive (fun i hi => (hwl i hi).1)) ((hF.below hb).node hy).alive
    have h2 : decide (nb y ∈ wl.map nb) = decide (y ∈ wl) := by
      by_cases hm : y ∈ wl
      · simp [hm, List.mem_map_of_mem hm]
      · have : nb y ∉ wl.map nb := fun h => by
          obtain ⟨z, hz, he⟩ := List.mem_map.1 h
          exact hm (hinj z y (hwl z hz).1 hy he ▸ hz)
        simp [hm, this]
    rw [h2] at h1
    exact h1)
  have HIN := Lib.hid hin
  have HWL := Lib.hid hwl
  have hstop : ∀ (D A : List Nat) (y : Nat), L = D ++ y :: A → (∀ d ∈ D, d ∉ wl) → y ∈ wl → upToL (fun y => decide (y ∈ wl)) L = D := fun D A y he hd hy => by
    have h1 : D.length < L.length := by rw [he]; simp
    have h2 := upTo_at (U := (fun y => decide (y ∈ wl))) h1 (fun j hj => by
      have h3 : L.getD j 0 = D.getD j 0 := by rw [he]; simp [List.getD, List.getElem?_append_left hj]
      rw [h3]
      simpa using hd _ (getD_mem' (d := 0) hj)) (by
      have h3 : L.getD D.length 0 = y := by rw [he]; simp [List.getD]
      rw [h3]
      simpa using hy)
    rw [h2, he]
    simp
  have hall : (∀ d ∈ L, d ∉ wl) → upToL (fun y => decide (y ∈ wl)) L = L := fun hd => upTo_all (fun j hj => by simpa using hd _ (getD_mem' (d := 0) hj))
  have HST2 := Lib.hid (And.intro hstop hall)
  obtain ⟨R, hR9⟩ : ∃ R, upToL (fun y => decide (y ∈ wl)) L = R := ⟨_, rfl⟩
  rw [hR9]
  have HR9 := Lib.hid hR9
  clear hL hF hR hst hq0 hp0 hinj hin hwl hstop hall hwp hR9
  go_enter Tryz.func102, Tryz.ntmps102
  go_wp2
  go_loopg [7, 6] g0 (fun gk n o wr => ∃ (q : Option Nat) (D : List Nat), Hid (n = lk (q.map nb)) ∧ Hid (UpAt ts len L D gk q) ∧ Hid (OwnPtrs wr w.heap.size o (D.map nb)) ∧ Hid (Below w.heap.size w wr) ∧ Hid (∀ d ∈ D, d ∉ wl))
  case atStart => exact ⟨q0, [], HP0, HST, Lib.hid (World.ownsRow_nil _ _ _ _), Lib.hid (Below.refl _ _), Lib.hid (fun d h => by simp at h)⟩
  case round =>
    obtain ⟨q, D, hn, hu, hown, hbel, hno⟩ := hrel
    have cm1 := cell_below hbel.out cm
    have cs1 := cell_below hbel.out cs
    cases q with
    | none =>
      obtain rfl := hn.out.trans (show lk (Option.map nb none) = .pointer none from rfl)
      have hd : D = L := hu.out
      have HO : Hid (OwnPtrs wr w.heap.size u6 (R.map nb)) := Lib.hid (by rw [← HR9.out, HST2.out.2 (by rw [← hd]; exact hno.out), ← hd]; exact hown.out)
      clear hd hu hown hn
      go_wp2
      go_ret
      exact ⟨_, rfl, HO, hbel⟩
    | some y =>
      obtain rfl := hn.out.trans (show lk (Option.map nb (some y)) = .pointer (some ⟨nb y, 0, none⟩) from rfl)
      have hy := hu.out.2.1
      have hDl : D.length ≤ 200 := by
        have := congrArg List.length hu.out.2.2
        rw [List.length_append] at this
        omega
      have ny := HF.out.node hy
      have kt := cell_below hbel.out ny.ty
      rw [show (nodeR (fun i => i + sz ts i) 0 nb (ts.getD y default) (vv y) y).ty = tyOf (kd ts y) from rfl] at kt
      have kp := ny.par
      rw [show (nodeR (fun i => i + sz ts i) 0 nb (ts.getD y default) (vv y) y).par = (up (fun i => i + sz ts i) 0 y).map nb from rfl, up_par] at kp
      obtain ⟨g2, hg2, hu2⟩ := upAt_next hu.out
      obtain ⟨pq, hpq⟩ : ∃ pq, par (sz ts) y = pq := ⟨_, rfl⟩
      rw [hpq] at kp hu2
      obtain ⟨pv, hpv⟩ : ∃ pv, lk (pq.map nb) = pv := ⟨_, rfl⟩
      rw [hpv] at kp
      have HPV := Lib.hid hpv.symm
      have HKP := Lib.hid kp
      have hiny := HIN.out y hy wr hbel.out
      by_cases hyw : y ∈ wl
      · rw [decide_eq_true hyw] at hiny
        have HINY := Lib.hid hiny
        have h3 := (HWL.out y hyw).2
        have he := hu.out.2.2
        rw [if_pos h3] at he
        have hd := HST2.out.1 D (ancL ts y) y he.symm hno.out hyw
        have HO : Hid (OwnPtrs wr w.heap.size u6 (R.map nb)) := Lib.hid (by rw [← HR9.out, hd]; exact hown.out)
        clear hiny hyw h3 he hd hown hu2 hpq hpv hu hn ny kp
        go_wp2_with fail
        refine HINY.out.mono ?_
        rintro e w9 ⟨rfl, rfl⟩
        go_wp2
        go_ret
        exact ⟨_, rfl, HO, hbel⟩
      · rw [decide_eq_false hyw] at hiny
        have HINY := Lib.hid hiny
        have HNY : Hid (∀ d ∈ D ++ [y], d ∉ wl) := Lib.hid (fun d hd => by
          rcases List.mem_append.1 hd with h | h
          · exact hno.out d h
          · simp at h; rw [h]; exact hyw)
        clear hiny hyw
        by_cases h3 : kd ts y = 3
        · rw [if_pos h3] at hu2
          have HU2 := Lib.hid hu2
          rw [show tyOf (kd ts y) = 3 by rw [h3]; rfl] at kt
          have hown2 : wr.ownsRow w.heap.size 75 1 u6 (D.map nb).length ((D.map nb).map ptrV) := hown.out
          have hDm : (D.map nb).length ≤ 200 := by rw [List.length_map]; exact hDl
          clear h3 hu2 hpq hpv hu hn ny kp
          go_wp2_with fail
          refine HINY.out.mono ?_
          rintro e w9 ⟨rfl, rfl⟩
          go_wp2_with (at_builtin; refine wpList_append_own _ rfl _ _ 53 rfl w.heap.size 75 i0 (.pointer none) 1 8 Tryz.underlying53 hi hz0 hz1 hz2 rfl (by decide) _ _ _ rfl (hown2.alloc _) ⟨wr.heap.size, 0, none⟩ 1 1 [.pointer (some ⟨nb y, 0, none⟩)] rfl rfl ?c1 ?c2 ?c3 ?c4 ?c5 ?_)
          case c1 =>
            intro j u hj
            match j, hj with
            | 0, hj => simp at hj; subst hj; simp [Addr.add]
          case c2 => intro u hu; simp at hu; subst hu; rfl
          case c3 => unfold maxLen; omega
          case c4 => omega
          case c5 => have := hbel.out.size; simp; omega
          intro v' w3 hown3 hgrow _
          have hbel3 : Below w.heap.size w w3 := (hbel.out.alloc hbel.out.size _).grown hgrow (by have := hbel.out.size; simp; omega) (fun q hq => (World.ownsRow.lt hown2 q hq).1)
          have hsn : OwnPtrs w3 w.heap.size v' ((D ++ [y]).map nb) := by unfold OwnPtrs; simpa [ptrV] using hown3
          have H3 := Lib.hid hsn
          have HB3 := Lib.hid hbel3
          have kp3 := cell_below hbel3 HKP.out
          clear hown3 hgrow hbel3 hsn hown2 kt hown hbel
          go_wp2
          go_roundg g2
          case measure => omega
          case rel => exact ⟨pq, D ++ [y], HPV, HU2, H3, HB3, HNY⟩
        · have ht : tyOf (kd ts y) ≠ 3 := by
            rcases Nat.eq_zero_or_pos y with h0 | h0
            · rw [h0, HR.out.kind]; exact tyOf_root
            · rcases HR.out.kinds hy h0 with hk | ⟨hk | hk | hk, _⟩
              · exact absurd hk h3
              · exact tyOf_ne (.inr (.inl hk))
              · exact tyOf_ne (.inr (.inr (.inl hk)))
              · exact tyOf_ne (.inr (.inr (.inr hk)))
          rw [if_neg h3, List.append_nil] at hu2
          have HU2 := Lib.hid hu2
          obtain ⟨t, hte⟩ : ∃ t, tyOf (kd ts y) = t := ⟨_, rfl⟩
          rw [hte] at kt ht
          have gt : (t == 3) = false := by simp [ht]
          have kp3 := cell_below hbel.out HKP.out
          clear h3 hu2 hpq hpv hu hn ny kp hte ht
          go_wp2_with fail
          refine HINY.out.mono ?_
          rintro e w9 ⟨rfl, rfl⟩
          go_wp2
          go_roundg g2
          case measure => omega
          case rel => exact ⟨pq, D, HPV, HU2, hown, hbel, hno⟩

theorem upCloW' {B : Nat} (i : Int) (x bm bs : Nat) (w : World) (bl len : Nat) (nb : Nat → Nat) (vv : Nat → Value) (ts : List NodeD) (hF : Forest B w bl len nb vv ts) (hR : RightT ts len) (hx : x < len) (wa : Option Addr) (wc : Nat) (wl : List Nat) (hwl : ∀ y ∈ wl, y < len ∧ kd ts y = 3) (hws : wl.length ≤ 200) (hwp : PtrsOf w (.slice wa wl.length wc) (wl.map nb))
    (cm : w.cell? ⟨bm, 0, none⟩ = some .nilIface) (cs : w.cell? ⟨bs, 0, none⟩ = some (.slice wa wl.length wc)) :
    Calls Tryz.prog 102 #[.int .i64 i, .pointer (some ⟨nb x, 0, none⟩), .pointer (some ⟨bm, 0, none⟩), .pointer (some ⟨bs, 0, none⟩)] w (OwnPtrsPost ((upToL (fun y => decide (y ∈ wl)) (ancL ts x)).map nb) w) := by
  rcases Nat.eq_zero_or_pos wl.length with hz | hz
  · have hnil : wl = [] := List.eq_nil_of_length_eq_zero hz
    subst hnil
    have h1 := upClo0 i x bm bs w bl len nb vv ts hF hR hx wa wc cm cs
    have h2 : upToL (fun y => decide (y ∈ ([] : List Nat))) (ancL ts x) = ancL ts x := upTo_all (fun j hj => by simp)
    rw [h2]
    exact h1
  · exact upCloW i x bm bs w bl len nb vv ts hF hR hx wa wc wl hwl hws hz hwp cm cs

set_option maxRecDepth 100000 in
set_option maxHeartbeats 2000000 in
theorem getParentsW {B : Nat} (v : Value) (l : List Nat) (w : World) (bl len : Nat) (nb : Nat → Nat) (vv : Nat → Value) (ts : List NodeD) (hF : Forest B w bl len nb vv ts) (hR : RightT ts len) (hv : PtrsOf w v (l.map nb)) (hin : ∀ i ∈ l, i < len) (hn : l.length ≤ 200) (wa : Option Addr) (wc : Nat) (wl : List Nat) (hwl : ∀ y ∈ wl, y < len ∧ kd ts y = 3) (hws : wl.length ≤ 200) (hwp : PtrsOf w (.slice wa wl.length wc) (wl.map nb)) :
    Calls Tryz.prog 84 #[v, .nilIface, .slice wa wl.length wc] w (OwnPtrsPost ((onceF (l.flatMap (fun x => upToL (fun y => decide (y ∈ wl)) (ancL ts x)))).map nb) w) := by
  have hlen := hR.le
  have hmap : ∀ w0, Below w.heap.size w w0 → w0.cell? ⟨w.heap.size, 0, none⟩ = some .nilIface → w0.cell? ⟨w.heap.size + 1, 0, none⟩ = some (.slice wa wl.length wc) →
      Calls Tryz.prog 77 #[v, .func (.func 102) #[] #[.pointer (some ⟨w.heap.size, 0, none⟩), .pointer (some ⟨w.heap.size + 1, 0, none⟩)]] w0 (OwnPtrsPost ((onceF (l.flatMap (fun x => upToL (fun y => decide (y ∈ wl)) (ancL ts x)))).map nb) w0) := fun w0 hb c0 c1 =>
    mapManyUp v _ _ l (fun x => upToL (fun y => decide (y ∈ wl)) (ancL ts x)) w0 bl len nb vv ts (hF.below hb) (hv.below hb) hn (fun x hx => ((ancL_good ts len x (hin x hx)).upTo _).lt) (fun x hx => Nat.le_trans ((ancL_good ts len x (hin x hx)).upTo _).le hlen) (fun x hx => ((ancL_good ts len x (hin x hx)).upTo _).once) (fun k hk w' hb' => by
      have hmem := getD_mem' (d := 0) hk
      have hbw : Below w.heap.size w w' := hb.trans (hb'.mono hb.size)
      exact upCloW' (k : Int) (l.getD k 0) w.heap.size (w.heap.size + 1) w' bl len nb vv ts (hF.below hbw) hR (hin _ hmem) wa wc wl hwl hws (hwp.below hbw) (cell_below hb' c0) (cell_below hb' c1))
  obtain ⟨R, hR2⟩ : ∃ R, (onceF (l.flatMap (fun x => upToL (fun y => decide (y ∈ wl)) (ancL ts x)))).map nb = R := ⟨_, rfl⟩
  rw [hR2] at hmap ⊢
  have HM := Lib.hid hmap
  clear hmap hR2 hF hR hv hin hwl hwp
  have hmf : ∀ (fn : Fn) (first cap : Array Value) (w : World), (Instr.makeFunc fn first cap).run Tryz.prog w = .ok (.func fn first cap) w := fun _ _ _ _ => rfl
  go_enter Tryz.func84, Tryz.ntmps84
  go_wp2_with fail
  refine (HM.out _ (((Below.refl _ _).alloc (Nat.le_refl _) _).alloc (by simp) _) (cell_alloc_old (cell_alloc_new' _ _ _ rfl rfl) _) (cell_alloc_new' _ _ _ (by simp) rfl)).mono ?_
  rintro e w1 ⟨v', rfl, ho, hb⟩
  have HB : Hid (Below w.heap.size w w1) := Lib.hid ((((Below.refl _ _).alloc (Nat.le_refl _) _).alloc (by simp) _).trans (hb.out.mono (by simp; omega)))
  have hown : Hid (OwnPtrs w1 w.heap.size v' R) := Lib.hid (ownsRow_base ho.out (by simp; omega))
  clear ho hb HM
  go_wp2
  go_ret
  exact ⟨v', rfl, hown, HB⟩

end Go.Proofs.YtphppdbhofeagaaGreat

