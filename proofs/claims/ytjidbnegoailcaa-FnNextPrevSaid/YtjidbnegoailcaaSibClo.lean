/- Brothers as lists; the closures of getSiblingNodes and getChildrenNodes. (Printed by gen_selsib.py.) -/
import Derived.Test.YtjidbnegoailcaaSibKids
import Derived.Test.YtjidbnegoailcaaIterPrev
import Derived.Test.YtjidbnegoailcaaIterAll
import Derived.StillTailTactics
namespace Go.Proofs.Ytjidbnegoailcaa
open Go.RowKit
set_option linter.unusedVariables false
set_option linter.unusedSimpArgs false

theorem upTo_map {nb : Nat → Nat} {len : Nat} {U Ub : Nat → Bool} : ∀ {l : List Nat}, (∀ q ∈ l, q < len) → (∀ y, y < len → U y = Ub (nb y)) → upToL Ub (l.map nb) = (upToL U l).map nb := by
  intro l
  induction l with
  | nil => intro _ _; rfl
  | cons x r ih =>
    intro h hU
    simp only [List.map_cons, upToL]
    rw [← hU x (h x (by simp)), ih (fun q hq => h q (by simp [hq])) hU]
    split <;> simp

theorem hit_2 {B : Nat} (x p : Nat) (w w3 : World) (bl len : Nat) (nb : Nat → Nat) (vv : Nat → Value) (ts : List NodeD) (hF : Forest B w bl len nb vv ts) (hR : RightT ts len) (hx : x < len) (hp : par (sz ts) x = some p)
    (hw3 : w3 = ((w.alloc (.cells #[.pointer (some ⟨nb p, 0, none⟩)] 66)).alloc (.cells #[.int .i64 2] 70)).alloc (.cells #[.pointer (some ⟨nb x, 0, none⟩)] 66)) :
    ∀ w', Below w3.heap.size w3 w' → Calls Try.prog 85 #[.pointer none, .pointer (some ⟨w.heap.size + 1, 0, none⟩), .pointer (some ⟨w.heap.size, 0, none⟩), .pointer (some ⟨w.heap.size + 1 + 1, 0, none⟩)] w' (LkPost ((rb (elKid ts p) (x + 1) (len - (x + 1))).map nb)[0]? w') ∧
      ∀ k, k < ((rb (elKid ts p) (x + 1) (len - (x + 1))).map nb).length → Calls Try.prog 85 #[.pointer (some ⟨((rb (elKid ts p) (x + 1) (len - (x + 1))).map nb).getD k 0, 0, none⟩), .pointer (some ⟨w.heap.size + 1, 0, none⟩), .pointer (some ⟨w.heap.size, 0, none⟩), .pointer (some ⟨w.heap.size + 1 + 1, 0, none⟩)] w' (LkPost ((rb (elKid ts p) (x + 1) (len - (x + 1))).map nb)[k + 1]? w') := by
  intro w' hb
  have hpn : p < len := by have := (par_some hp).1; omega
  have hb3 : Below w.heap.size w w3 := by rw [hw3]; exact (((Below.refl _ _).alloc (Nat.le_refl _) _).alloc (by simp) _).alloc (by simp; omega) _
  have hF' : Forest B w' bl len nb vv ts := hF.below (hb3.trans (hb.mono hb3.size))
  have c2 : w'.cell? ⟨w.heap.size, 0, none⟩ = some (.pointer (some ⟨nb p, 0, none⟩)) := cell_below hb (by rw [hw3]; exact cell_alloc_old (cell_alloc_old (cell_alloc_new' _ _ _ rfl rfl) _) _)
  have c1 : w'.cell? ⟨w.heap.size + 1, 0, none⟩ = some (.int .i64 2) := cell_below hb (by rw [hw3]; exact cell_alloc_old (cell_alloc_new' _ _ _ (by simp) rfl) _)
  have c3 : w'.cell? ⟨w.heap.size + 1 + 1, 0, none⟩ = some (.pointer (some ⟨nb x, 0, none⟩)) := cell_below hb (by rw [hw3]; exact cell_alloc_new' _ _ _ (by simp) rfl)
  constructor
  · rw [List.getElem?_map, ← List.head?_eq_getElem?]
    have h := iterNext_2 (w.heap.size + 1) w.heap.size (w.heap.size + 1 + 1) x p (.pointer none) w' bl len nb vv ts hF' hR hx hp c1 (.inr ⟨rfl, c3⟩)
    exact h
  · intro k hk
    have hk' : k < (rb (elKid ts p) (x + 1) (len - (x + 1))).length := by simpa using hk
    have hd := chain_drop (S := fun y => rb (elKid ts p) (y + 1) (len - (y + 1))) rb_chain k x _ rfl hk' 
    have hm := rb_mem.1 (getD_mem' (d := 0) hk')
    have hyp : par (sz ts) ((rb (elKid ts p) (x + 1) (len - (x + 1))).getD k 0) = some p := by have h := hm.2.2; simp [elKid] at h; exact h.1
    have hyl : (rb (elKid ts p) (x + 1) (len - (x + 1))).getD k 0 < len := by have := hm.2.1; omega
    rw [map_getD hk', List.getElem?_map, ← head_drop, ← hd]
    obtain ⟨y, hy⟩ : ∃ y, (rb (elKid ts p) (x + 1) (len - (x + 1))).getD k 0 = y := ⟨_, rfl⟩
    rw [hy] at hyp hyl ⊢
    have h := iterNext_2 (w.heap.size + 1) w.heap.size (w.heap.size + 1 + 1) y p (.pointer (some ⟨nb y, 0, none⟩)) w' bl len nb vv ts hF' hR hyl hyp c1 (.inl rfl)
    exact h

set_option maxRecDepth 100000 in
set_option maxHeartbeats 2000000 in
theorem clo_2 {B : Nat} (i : Int) (x p bst bf : Nat) (f : Value) (w : World) (bl len : Nat) (nb : Nat → Nat) (vv : Nat → Value) (ts : List NodeD) (hF : Forest B w bl len nb vv ts) (hR : RightT ts len) (hx : x < len) (hp : par (sz ts) x = some p) (cst : w.cell? ⟨bst, 0, none⟩ = some (.int .i64 2)) (cf : w.cell? ⟨bf, 0, none⟩ = some f) :
    Calls Try.prog 76 #[.int .i64 i, .pointer (some ⟨nb x, 0, none⟩), .pointer (some ⟨bst, 0, none⟩), .pointer (some ⟨bf, 0, none⟩)] w (OwnPtrsPost ((rb (elKid ts p) (x + 1) (len - (x + 1))).map nb) w) := by
  have hLn : (rb (elKid ts p) (x + 1) (len - (x + 1))).length ≤ 200 := by have := hR.le; have h := rb_len (P := elKid ts p) (len - (x + 1)) (x + 1); omega
  have hFd : Forest B w.drew bl len nb vv ts := hF.below (Below.refl _ _).drew
  have hh := hit_2 x p w.drew _ bl len nb vv ts hFd hR hx hp rfl
  have hk := kids_2 (some ⟨nb p, 0, none⟩) (some ⟨nb x, 0, none⟩) f ((rb (elKid ts p) (x + 1) (len - (x + 1))).map nb) w.drew _ (by rw [List.length_map]; exact hLn) rfl hh
  have kx := (hF.node hx).par
  rw [show (nodeR (fun i => i + sz ts i) 0 nb (ts.getD x default) (vv x) x).par = (up (fun i => i + sz ts i) 0 x).map nb from rfl, up_par, hp, Option.map_some, lk_some] at kx
  obtain ⟨R, hR2⟩ : ∃ R, (rb (elKid ts p) (x + 1) (len - (x + 1))).map nb = R := ⟨_, rfl⟩
  rw [hR2] at hk ⊢
  have HK := Lib.hid hk
  clear hk hh hF hFd hR hp hR2 hLn
  go_enter Try.func76, Try.ntmps76
  go_wp2
  go_still_tail 7, (by kernel_rfl)
  go_wp2_with fail
  refine HK.out.mono ?_
  rintro e w1 ⟨v, rfl, ho, hb⟩
  have hb1 : Hid (Below w.heap.size w w1) := Lib.hid ((Below.refl _ _).drew.trans hb.out)
  go_wp2
  go_ret
  exact ⟨v, rfl, ho, hb1⟩

theorem hit_0 {B : Nat} (x p : Nat) (w w3 : World) (bl len : Nat) (nb : Nat → Nat) (vv : Nat → Value) (ts : List NodeD) (hF : Forest B w bl len nb vv ts) (hR : RightT ts len) (hx : x < len) (hp : par (sz ts) x = some p)
    (hw3 : w3 = ((w.alloc (.cells #[.pointer (some ⟨nb p, 0, none⟩)] 66)).alloc (.cells #[.int .i64 0] 70)).alloc (.cells #[.pointer (some ⟨nb x, 0, none⟩)] 66)) :
    ∀ w', Below w3.heap.size w3 w' → Calls Try.prog 85 #[.pointer none, .pointer (some ⟨w.heap.size + 1, 0, none⟩), .pointer (some ⟨w.heap.size, 0, none⟩), .pointer (some ⟨w.heap.size + 1 + 1, 0, none⟩)] w' (LkPost ((rb (elSkip ts p x) (p + 1) (len - (p + 1))).map nb)[0]? w') ∧
      ∀ k, k < ((rb (elSkip ts p x) (p + 1) (len - (p + 1))).map nb).length → Calls Try.prog 85 #[.pointer (some ⟨((rb (elSkip ts p x) (p + 1) (len - (p + 1))).map nb).getD k 0, 0, none⟩), .pointer (some ⟨w.heap.size + 1, 0, none⟩), .pointer (some ⟨w.heap.size, 0, none⟩), .pointer (some ⟨w.heap.size + 1 + 1, 0, none⟩)] w' (LkPost ((rb (elSkip ts p x) (p + 1) (len - (p + 1))).map nb)[k + 1]? w') := by
  intro w' hb
  have hpn : p < len := by have := (par_some hp).1; omega
  have hb3 : Below w.heap.size w w3 := by rw [hw3]; exact (((Below.refl _ _).alloc (Nat.le_refl _) _).alloc (by simp) _).alloc (by simp; omega) _
  have hF' : Forest B w' bl len nb vv ts := hF.below (hb3.trans (hb.mono hb3.size))
  have c2 : w'.cell? ⟨w.heap.size, 0, none⟩ = some (.pointer (some ⟨nb p, 0, none⟩)) := cell_below hb (by rw [hw3]; exact cell_alloc_old (cell_alloc_old (cell_alloc_new' _ _ _ rfl rfl) _) _)
  have c1 : w'.cell? ⟨w.heap.size + 1, 0, none⟩ = some (.int .i64 0) := cell_below hb (by rw [hw3]; exact cell_alloc_old (cell_alloc_new' _ _ _ (by simp) rfl) _)
  have c3 : w'.cell? ⟨w.heap.size + 1 + 1, 0, none⟩ = some (.pointer (some ⟨nb x, 0, none⟩)) := cell_below hb (by rw [hw3]; exact cell_alloc_new' _ _ _ (by simp) rfl)
  constructor
  · rw [List.getElem?_map, ← List.head?_eq_getElem?]
    have h := iterAll_skip (w.heap.size + 1) w.heap.size (w.heap.size + 1 + 1) x p p (.pointer none) w' bl len nb vv ts hF' hR hpn hx hp hpn c1 c2 c3 (.inl ⟨rfl, rfl⟩)
    exact h
  · intro k hk
    have hk' : k < (rb (elSkip ts p x) (p + 1) (len - (p + 1))).length := by simpa using hk
    have hd := chain_drop (S := fun y => rb (elSkip ts p x) (y + 1) (len - (y + 1))) rb_chain k p _ rfl hk' 
    have hm := rb_mem.1 (getD_mem' (d := 0) hk')
    have hyp : par (sz ts) ((rb (elSkip ts p x) (p + 1) (len - (p + 1))).getD k 0) = some p := by have h := hm.2.2; simp [elSkip] at h; exact h.1
    have hyl : (rb (elSkip ts p x) (p + 1) (len - (p + 1))).getD k 0 < len := by have := hm.2.1; omega
    rw [map_getD hk', List.getElem?_map, ← head_drop, ← hd]
    obtain ⟨y, hy⟩ : ∃ y, (rb (elSkip ts p x) (p + 1) (len - (p + 1))).getD k 0 = y := ⟨_, rfl⟩
    rw [hy] at hyp hyl ⊢
    have h := iterAll_skip (w.heap.size + 1) w.heap.size (w.heap.size + 1 + 1) x p y (.pointer (some ⟨nb y, 0, none⟩)) w' bl len nb vv ts hF' hR hpn hx hp hyl c1 c2 c3 (.inr ⟨rfl, hyp⟩)
    exact h

set_option maxRecDepth 100000 in
set_option maxHeartbeats 2000000 in
theorem clo_0 {B : Nat} (i : Int) (x p bst bf : Nat) (f : Value) (w : World) (bl len : Nat) (nb : Nat → Nat) (vv : Nat → Value) (ts : List NodeD) (hF : Forest B w bl len nb vv ts) (hR : RightT ts len) (hx : x < len) (hp : par (sz ts) x = some p) (cst : w.cell? ⟨bst, 0, none⟩ = some (.int .i64 0)) (cf : w.cell? ⟨bf, 0, none⟩ = some f) :
    Calls Try.prog 76 #[.int .i64 i, .pointer (some ⟨nb x, 0, none⟩), .pointer (some ⟨bst, 0, none⟩), .pointer (some ⟨bf, 0, none⟩)] w (OwnPtrsPost ((rb (elSkip ts p x) (p + 1) (len - (p + 1))).map nb) w) := by
  have hLn : (rb (elSkip ts p x) (p + 1) (len - (p + 1))).length ≤ 200 := by have := hR.le; have h := rb_len (P := elSkip ts p x) (len - (p + 1)) (p + 1); omega
  have hFd : Forest B w.drew bl len nb vv ts := hF.below (Below.refl _ _).drew
  have hh := hit_0 x p w.drew _ bl len nb vv ts hFd hR hx hp rfl
  have hk := kids_0 (some ⟨nb p, 0, none⟩) (some ⟨nb x, 0, none⟩) f ((rb (elSkip ts p x) (p + 1) (len - (p + 1))).map nb) w.drew _ (by rw [List.length_map]; exact hLn) rfl hh
  have kx := (hF.node hx).par
  rw [show (nodeR (fun i => i + sz ts i) 0 nb (ts.getD x default) (vv x) x).par = (up (fun i => i + sz ts i) 0 x).map nb from rfl, up_par, hp, Option.map_some, lk_some] at kx
  obtain ⟨R, hR2⟩ : ∃ R, (rb (elSkip ts p x) (p + 1) (len - (p + 1))).map nb = R := ⟨_, rfl⟩
  rw [hR2] at hk ⊢
  have HK := Lib.hid hk
  clear hk hh hF hFd hR hp hR2 hLn
  go_enter Try.func76, Try.ntmps76
  go_wp2
  go_still_tail 7, (by kernel_rfl)
  go_wp2_with fail
  refine HK.out.mono ?_
  rintro e w1 ⟨v, rfl, ho, hb⟩
  have hb1 : Hid (Below w.heap.size w w1) := Lib.hid ((Below.refl _ _).drew.trans hb.out)
  go_wp2
  go_ret
  exact ⟨v, rfl, ho, hb1⟩

theorem hit_1 {B : Nat} (x p : Nat) (w w3 : World) (bl len : Nat) (nb : Nat → Nat) (vv : Nat → Value) (ts : List NodeD) (hF : Forest B w bl len nb vv ts) (hR : RightT ts len) (hx : x < len) (hp : par (sz ts) x = some p)
    (hw3 : w3 = ((w.alloc (.cells #[.pointer (some ⟨nb p, 0, none⟩)] 66)).alloc (.cells #[.int .i64 1] 70)).alloc (.cells #[.pointer (some ⟨nb x, 0, none⟩)] 66)) :
    ∀ w', Below w3.heap.size w3 w' → Calls Try.prog 85 #[.pointer none, .pointer (some ⟨w.heap.size + 1, 0, none⟩), .pointer (some ⟨w.heap.size, 0, none⟩), .pointer (some ⟨w.heap.size + 1 + 1, 0, none⟩)] w' (LkPost ((rb (elKid ts p) (x + 1) (len - (x + 1))).map nb)[0]? w') ∧
      ∀ k, k < ((rb (elKid ts p) (x + 1) (len - (x + 1))).map nb).length → Calls Try.prog 85 #[.pointer (some ⟨((rb (elKid ts p) (x + 1) (len - (x + 1))).map nb).getD k 0, 0, none⟩), .pointer (some ⟨w.heap.size + 1, 0, none⟩), .pointer (some ⟨w.heap.size, 0, none⟩), .pointer (some ⟨w.heap.size + 1 + 1, 0, none⟩)] w' (LkPost ((rb (elKid ts p) (x + 1) (len - (x + 1))).map nb)[k + 1]? w') := by
  intro w' hb
  have hpn : p < len := by have := (par_some hp).1; omega
  have hb3 : Below w.heap.size w w3 := by rw [hw3]; exact (((Below.refl _ _).alloc (Nat.le_refl _) _).alloc (by simp) _).alloc (by simp; omega) _
  have hF' : Forest B w' bl len nb vv ts := hF.below (hb3.trans (hb.mono hb3.size))
  have c2 : w'.cell? ⟨w.heap.size, 0, none⟩ = some (.pointer (some ⟨nb p, 0, none⟩)) := cell_below hb (by rw [hw3]; exact cell_alloc_old (cell_alloc_old (cell_alloc_new' _ _ _ rfl rfl) _) _)
  have c1 : w'.cell? ⟨w.heap.size + 1, 0, none⟩ = some (.int .i64 1) := cell_below hb (by rw [hw3]; exact cell_alloc_old (cell_alloc_new' _ _ _ (by simp) rfl) _)
  have c3 : w'.cell? ⟨w.heap.size + 1 + 1, 0, none⟩ = some (.pointer (some ⟨nb x, 0, none⟩)) := cell_below hb (by rw [hw3]; exact cell_alloc_new' _ _ _ (by simp) rfl)
  constructor
  · rw [List.getElem?_map, ← List.head?_eq_getElem?]
    have h := iterNext_1 (w.heap.size + 1) w.heap.size (w.heap.size + 1 + 1) x p (.pointer none) w' bl len nb vv ts hF' hR hx hp c1 (.inr ⟨rfl, c3⟩)
    exact h
  · intro k hk
    have hk' : k < (rb (elKid ts p) (x + 1) (len - (x + 1))).length := by simpa using hk
    have hd := chain_drop (S := fun y => rb (elKid ts p) (y + 1) (len - (y + 1))) rb_chain k x _ rfl hk' 
    have hm := rb_mem.1 (getD_mem' (d := 0) hk')
    have hyp : par (sz ts) ((rb (elKid ts p) (x + 1) (len - (x + 1))).getD k 0) = some p := by have h := hm.2.2; simp [elKid] at h; exact h.1
    have hyl : (rb (elKid ts p) (x + 1) (len - (x + 1))).getD k 0 < len := by have := hm.2.1; omega
    rw [map_getD hk', List.getElem?_map, ← head_drop, ← hd]
    obtain ⟨y, hy⟩ : ∃ y, (rb (elKid ts p) (x + 1) (len - (x + 1))).getD k 0 = y := ⟨_, rfl⟩
    rw [hy] at hyp hyl ⊢
    have h := iterNext_1 (w.heap.size + 1) w.heap.size (w.heap.size + 1 + 1) y p (.pointer (some ⟨nb y, 0, none⟩)) w' bl len nb vv ts hF' hR hyl hyp c1 (.inl rfl)
    exact h

set_option maxRecDepth 100000 in
set_option maxHeartbeats 2000000 in
theorem clo_1 {B : Nat} (i : Int) (x p bst bf : Nat) (f : Value) (w : World) (bl len : Nat) (nb : Nat → Nat) (vv : Nat → Value) (ts : List NodeD) (hF : Forest B w bl len nb vv ts) (hR : RightT ts len) (hx : x < len) (hp : par (sz ts) x = some p) (cst : w.cell? ⟨bst, 0, none⟩ = some (.int .i64 1)) (cf : w.cell? ⟨bf, 0, none⟩ = some f) :
    Calls Try.prog 76 #[.int .i64 i, .pointer (some ⟨nb x, 0, none⟩), .pointer (some ⟨bst, 0, none⟩), .pointer (some ⟨bf, 0, none⟩)] w (OwnPtrsPost (((rb (elKid ts p) (x + 1) (len - (x + 1))).take 1).map nb) w) := by
  have hLn : (rb (elKid ts p) (x + 1) (len - (x + 1))).length ≤ 200 := by have := hR.le; have h := rb_len (P := elKid ts p) (len - (x + 1)) (x + 1); omega
  have hFd : Forest B w.drew bl len nb vv ts := hF.below (Below.refl _ _).drew
  have hh := hit_1 x p w.drew _ bl len nb vv ts hFd hR hx hp rfl
  have hk := kids_1 (some ⟨nb p, 0, none⟩) (some ⟨nb x, 0, none⟩) f ((rb (elKid ts p) (x + 1) (len - (x + 1))).map nb) w.drew _ (by rw [List.length_map]; exact hLn) rfl hh
  rw [← List.map_take] at hk
  have kx := (hF.node hx).par
  rw [show (nodeR (fun i => i + sz ts i) 0 nb (ts.getD x default) (vv x) x).par = (up (fun i => i + sz ts i) 0 x).map nb from rfl, up_par, hp, Option.map_some, lk_some] at kx
  obtain ⟨R, hR2⟩ : ∃ R, ((rb (elKid ts p) (x + 1) (len - (x + 1))).take 1).map nb = R := ⟨_, rfl⟩
  rw [hR2] at hk ⊢
  have HK := Lib.hid hk
  clear hk hh hF hFd hR hp hR2 hLn
  go_enter Try.func76, Try.ntmps76
  go_wp2
  go_still_tail 7, (by kernel_rfl)
  go_wp2_with fail
  refine HK.out.mono ?_
  rintro e w1 ⟨v, rfl, ho, hb⟩
  have hb1 : Hid (Below w.heap.size w w1) := Lib.hid ((Below.refl _ _).drew.trans hb.out)
  go_wp2
  go_ret
  exact ⟨v, rfl, ho, hb1⟩

theorem hit_m1 {B : Nat} (x p : Nat) (w w3 : World) (bl len : Nat) (nb : Nat → Nat) (vv : Nat → Value) (ts : List NodeD) (hF : Forest B w bl len nb vv ts) (hR : RightT ts len) (hx : x < len) (hp : par (sz ts) x = some p)
    (hw3 : w3 = ((w.alloc (.cells #[.pointer (some ⟨nb p, 0, none⟩)] 66)).alloc (.cells #[.int .i64 (-1)] 70)).alloc (.cells #[.pointer (some ⟨nb x, 0, none⟩)] 66)) :
    ∀ w', Below w3.heap.size w3 w' → Calls Try.prog 85 #[.pointer none, .pointer (some ⟨w.heap.size + 1, 0, none⟩), .pointer (some ⟨w.heap.size, 0, none⟩), .pointer (some ⟨w.heap.size + 1 + 1, 0, none⟩)] w' (LkPost (((lb (elKid ts p) x).reverse).map nb)[0]? w') ∧
      ∀ k, k < (((lb (elKid ts p) x).reverse).map nb).length → Calls Try.prog 85 #[.pointer (some ⟨(((lb (elKid ts p) x).reverse).map nb).getD k 0, 0, none⟩), .pointer (some ⟨w.heap.size + 1, 0, none⟩), .pointer (some ⟨w.heap.size, 0, none⟩), .pointer (some ⟨w.heap.size + 1 + 1, 0, none⟩)] w' (LkPost (((lb (elKid ts p) x).reverse).map nb)[k + 1]? w') := by
  intro w' hb
  have hpn : p < len := by have := (par_some hp).1; omega
  have hb3 : Below w.heap.size w w3 := by rw [hw3]; exact (((Below.refl _ _).alloc (Nat.le_refl _) _).alloc (by simp) _).alloc (by simp; omega) _
  have hF' : Forest B w' bl len nb vv ts := hF.below (hb3.trans (hb.mono hb3.size))
  have c2 : w'.cell? ⟨w.heap.size, 0, none⟩ = some (.pointer (some ⟨nb p, 0, none⟩)) := cell_below hb (by rw [hw3]; exact cell_alloc_old (cell_alloc_old (cell_alloc_new' _ _ _ rfl rfl) _) _)
  have c1 : w'.cell? ⟨w.heap.size + 1, 0, none⟩ = some (.int .i64 (-1)) := cell_below hb (by rw [hw3]; exact cell_alloc_old (cell_alloc_new' _ _ _ (by simp) rfl) _)
  have c3 : w'.cell? ⟨w.heap.size + 1 + 1, 0, none⟩ = some (.pointer (some ⟨nb x, 0, none⟩)) := cell_below hb (by rw [hw3]; exact cell_alloc_new' _ _ _ (by simp) rfl)
  constructor
  · rw [List.getElem?_map, ← List.head?_eq_getElem?]
    have h := iterPrev_m1 (w.heap.size + 1) w.heap.size (w.heap.size + 1 + 1) x p (.pointer none) w' bl len nb vv ts hF' hR hx hp c1 (.inr ⟨rfl, c3⟩)
    exact h
  · intro k hk
    have hk' : k < ((lb (elKid ts p) x).reverse).length := by simpa using hk
    have hd := chain_drop (S := fun y => (lb (elKid ts p) y).reverse) (fun y q r h => lb_cons h) k x _ rfl hk' 
    have hm := lb_mem (List.mem_reverse.1 (getD_mem' (d := 0) hk'))
    have hyp : par (sz ts) (((lb (elKid ts p) x).reverse).getD k 0) = some p := by have h := hm.2; simp [elKid] at h; exact h.1
    have hyl : ((lb (elKid ts p) x).reverse).getD k 0 < len := by have := hm.1; omega
    rw [map_getD hk', List.getElem?_map, ← head_drop, ← hd]
    obtain ⟨y, hy⟩ : ∃ y, ((lb (elKid ts p) x).reverse).getD k 0 = y := ⟨_, rfl⟩
    rw [hy] at hyp hyl ⊢
    have h := iterPrev_m1 (w.heap.size + 1) w.heap.size (w.heap.size + 1 + 1) y p (.pointer (some ⟨nb y, 0, none⟩)) w' bl len nb vv ts hF' hR hyl hyp c1 (.inl rfl)
    exact h

set_option maxRecDepth 100000 in
set_option maxHeartbeats 2000000 in
theorem clo_m1 {B : Nat} (i : Int) (x p bst bf : Nat) (f : Value) (w : World) (bl len : Nat) (nb : Nat → Nat) (vv : Nat → Value) (ts : List NodeD) (hF : Forest B w bl len nb vv ts) (hR : RightT ts len) (hx : x < len) (hp : par (sz ts) x = some p) (cst : w.cell? ⟨bst, 0, none⟩ = some (.int .i64 (-1))) (cf : w.cell? ⟨bf, 0, none⟩ = some f) :
    Calls Try.prog 76 #[.int .i64 i, .pointer (some ⟨nb x, 0, none⟩), .pointer (some ⟨bst, 0, none⟩), .pointer (some ⟨bf, 0, none⟩)] w (OwnPtrsPost ((((lb (elKid ts p) x).reverse).take 1).map nb) w) := by
  have hLn : ((lb (elKid ts p) x).reverse).length ≤ 200 := by have := hR.le; rw [List.length_reverse]; have h := lb_length_le (P := elKid ts p) x; omega
  have hFd : Forest B w.drew bl len nb vv ts := hF.below (Below.refl _ _).drew
  have hh := hit_m1 x p w.drew _ bl len nb vv ts hFd hR hx hp rfl
  have hk := kids_m1 (some ⟨nb p, 0, none⟩) (some ⟨nb x, 0, none⟩) f (((lb (elKid ts p) x).reverse).map nb) w.drew _ (by rw [List.length_map]; exact hLn) rfl hh
  rw [← List.map_take] at hk
  have kx := (hF.node hx).par
  rw [show (nodeR (fun i => i + sz ts i) 0 nb (ts.getD x default) (vv x) x).par = (up (fun i => i + sz ts i) 0 x).map nb from rfl, up_par, hp, Option.map_some, lk_some] at kx
  obtain ⟨R, hR2⟩ : ∃ R, (((lb (elKid ts p) x).reverse).take 1).map nb = R := ⟨_, rfl⟩
  rw [hR2] at hk ⊢
  have HK := Lib.hid hk
  clear hk hh hF hFd hR hp hR2 hLn
  go_enter Try.func76, Try.ntmps76
  go_wp2
  go_still_tail 7, (by kernel_rfl)
  go_wp2_with fail
  refine HK.out.mono ?_
  rintro e w1 ⟨v, rfl, ho, hb⟩
  have hb1 : Hid (Below w.heap.size w w1) := Lib.hid ((Below.refl _ _).drew.trans hb.out)
  go_wp2
  go_ret
  exact ⟨v, rfl, ho, hb1⟩

theorem hit_3 {B : Nat} (x p : Nat) (w w3 : World) (bl len : Nat) (nb : Nat → Nat) (vv : Nat → Value) (ts : List NodeD) (hF : Forest B w bl len nb vv ts) (hR : RightT ts len) (hx : x < len) (hp : par (sz ts) x = some p)
    (hw3 : w3 = ((w.alloc (.cells #[.pointer (some ⟨nb p, 0, none⟩)] 66)).alloc (.cells #[.int .i64 3] 70)).alloc (.cells #[.pointer (some ⟨nb x, 0, none⟩)] 66)) :
    ∀ w', Below w3.heap.size w3 w' → Calls Try.prog 85 #[.pointer none, .pointer (some ⟨w.heap.size + 1, 0, none⟩), .pointer (some ⟨w.heap.size, 0, none⟩), .pointer (some ⟨w.heap.size + 1 + 1, 0, none⟩)] w' (LkPost ((rb (elKid ts p) (x + 1) (len - (x + 1))).map nb)[0]? w') ∧
      ∀ k, k < ((rb (elKid ts p) (x + 1) (len - (x + 1))).map nb).length → Calls Try.prog 85 #[.pointer (some ⟨((rb (elKid ts p) (x + 1) (len - (x + 1))).map nb).getD k 0, 0, none⟩), .pointer (some ⟨w.heap.size + 1, 0, none⟩), .pointer (some ⟨w.heap.size, 0, none⟩), .pointer (some ⟨w.heap.size + 1 + 1, 0, none⟩)] w' (LkPost ((rb (elKid ts p) (x + 1) (len - (x + 1))).map nb)[k + 1]? w') := by
  intro w' hb
  have hpn : p < len := by have := (par_some hp).1; omega
  have hb3 : Below w.heap.size w w3 := by rw [hw3]; exact (((Below.refl _ _).alloc (Nat.le_refl _) _).alloc (by simp) _).alloc (by simp; omega) _
  have hF' : Forest B w' bl len nb vv ts := hF.below (hb3.trans (hb.mono hb3.size))
  have c2 : w'.cell? ⟨w.heap.size, 0, none⟩ = some (.pointer (some ⟨nb p, 0, none⟩)) := cell_below hb (by rw [hw3]; exact cell_alloc_old (cell_alloc_old (cell_alloc_new' _ _ _ rfl rfl) _) _)
  have c1 : w'.cell? ⟨w.heap.size + 1, 0, none⟩ = some (.int .i64 3) := cell_below hb (by rw [hw3]; exact cell_alloc_old (cell_alloc_new' _ _ _ (by simp) rfl) _)
  have c3 : w'.cell? ⟨w.heap.size + 1 + 1, 0, none⟩ = some (.pointer (some ⟨nb x, 0, none⟩)) := cell_below hb (by rw [hw3]; exact cell_alloc_new' _ _ _ (by simp) rfl)
  constructor
  · rw [List.getElem?_map, ← List.head?_eq_getElem?]
    have h := iterNext_3 (w.heap.size + 1) w.heap.size (w.heap.size + 1 + 1) x p (.pointer none) w' bl len nb vv ts hF' hR hx hp c1 (.inr ⟨rfl, c3⟩)
    exact h
  · intro k hk
    have hk' : k < (rb (elKid ts p) (x + 1) (len - (x + 1))).length := by simpa using hk
    have hd := chain_drop (S := fun y => rb (elKid ts p) (y + 1) (len - (y + 1))) rb_chain k x _ rfl hk' 
    have hm := rb_mem.1 (getD_mem' (d := 0) hk')
    have hyp : par (sz ts) ((rb (elKid ts p) (x + 1) (len - (x + 1))).getD k 0) = some p := by have h := hm.2.2; simp [elKid] at h; exact h.1
    have hyl : (rb (elKid ts p) (x + 1) (len - (x + 1))).getD k 0 < len := by have := hm.2.1; omega
    rw [map_getD hk', List.getElem?_map, ← head_drop, ← hd]
    obtain ⟨y, hy⟩ : ∃ y, (rb (elKid ts p) (x + 1) (len - (x + 1))).getD k 0 = y := ⟨_, rfl⟩
    rw [hy] at hyp hyl ⊢
    have h := iterNext_3 (w.heap.size + 1) w.heap.size (w.heap.size + 1 + 1) y p (.pointer (some ⟨nb y, 0, none⟩)) w' bl len nb vv ts hF' hR hyl hyp c1 (.inl rfl)
    exact h

set_option maxRecDepth 100000 in
set_option maxHeartbeats 2000000 in
theorem clo_3 {B : Nat} (i : Int) (x p bst bf : Nat) (w : World) (bl len : Nat) (nb : Nat → Nat) (vv : Nat → Value) (ts : List NodeD) (hF : Forest B w bl len nb vv ts) (hR : RightT ts len) (hx : x < len) (hp : par (sz ts) x = some p) (cst : w.cell? ⟨bst, 0, none⟩ = some (.int .i64 3)) (b4 b5 : Nat) (U : Nat → Bool) (Ub : Nat → Bool) (hU : ∀ y, y < len → U y = Ub (nb y))
    (hun : ∀ w', Below w.heap.size w w' → ∀ y, y < len → Calls Try.prog 74 #[.pointer (some ⟨nb y, 0, none⟩), .pointer (some ⟨b4, 0, none⟩), .pointer (some ⟨b5, 0, none⟩)] w' (StrEqB (U y) w')) (cf : w.cell? ⟨bf, 0, none⟩ = some (.func (.func 74) #[] #[.pointer (some ⟨b4, 0, none⟩), .pointer (some ⟨b5, 0, none⟩)])) :
    Calls Try.prog 76 #[.int .i64 i, .pointer (some ⟨nb x, 0, none⟩), .pointer (some ⟨bst, 0, none⟩), .pointer (some ⟨bf, 0, none⟩)] w (OwnPtrsPost ((upToL U (rb (elKid ts p) (x + 1) (len - (x + 1)))).map nb) w) := by
  have hLn : (rb (elKid ts p) (x + 1) (len - (x + 1))).length ≤ 200 := by have := hR.le; have h := rb_len (P := elKid ts p) (len - (x + 1)) (x + 1); omega
  have hFd : Forest B w.drew bl len nb vv ts := hF.below (Below.refl _ _).drew
  have hh := hit_3 x p w.drew _ bl len nb vv ts hFd hR hx hp rfl
  have hk := kids_3 (some ⟨nb p, 0, none⟩) (some ⟨nb x, 0, none⟩) ((rb (elKid ts p) (x + 1) (len - (x + 1))).map nb) w.drew _ (by rw [List.length_map]; exact hLn) rfl b4 b5 Ub hh (fun w' hb k hkl => by
    have hk' : k < (rb (elKid ts p) (x + 1) (len - (x + 1))).length := by simpa using hkl
    rw [map_getD hk']
    have hq := getD_mem' (d := 0) hk'
    have hql : (rb (elKid ts p) (x + 1) (len - (x + 1))).getD k 0 < len := (by have := (rb_mem.1 hq).2.1; omega)
    rw [← hU _ hql]
    have hb3 : Below w.heap.size w w' := ((Below.refl _ _).drew.trans ((((Below.refl _ _).alloc (Nat.le_refl _) _).alloc (by simp) _).alloc (by simp; omega) _)).trans (hb.mono (by simp; omega))
    exact hun w' hb3 _ hql)
  rw [show upToL Ub ((rb (elKid ts p) (x + 1) (len - (x + 1))).map nb) = (upToL U (rb (elKid ts p) (x + 1) (len - (x + 1)))).map nb from upTo_map (len := len) (fun q hq => (by have := (rb_mem.1 hq).2.1; omega)) hU] at hk
  have kx := (hF.node hx).par
  rw [show (nodeR (fun i => i + sz ts i) 0 nb (ts.getD x default) (vv x) x).par = (up (fun i => i + sz ts i) 0 x).map nb from rfl, up_par, hp, Option.map_some, lk_some] at kx
  obtain ⟨R, hR2⟩ : ∃ R, (upToL U (rb (elKid ts p) (x + 1) (len - (x + 1)))).map nb = R := ⟨_, rfl⟩
  rw [hR2] at hk ⊢
  have HK := Lib.hid hk
  clear hk hh hF hFd hR hp hR2 hLn hU hun
  go_enter Try.func76, Try.ntmps76
  go_wp2
  go_still_tail 7, (by kernel_rfl)
  go_wp2_with fail
  refine HK.out.mono ?_
  rintro e w1 ⟨v, rfl, ho, hb⟩
  have hb1 : Hid (Below w.heap.size w w1) := Lib.hid ((Below.refl _ _).drew.trans hb.out)
  go_wp2
  go_ret
  exact ⟨v, rfl, ho, hb1⟩

theorem hit_m3 {B : Nat} (x p : Nat) (w w3 : World) (bl len : Nat) (nb : Nat → Nat) (vv : Nat → Value) (ts : List NodeD) (hF : Forest B w bl len nb vv ts) (hR : RightT ts len) (hx : x < len) (hp : par (sz ts) x = some p)
    (hw3 : w3 = ((w.alloc (.cells #[.pointer (some ⟨nb p, 0, none⟩)] 66)).alloc (.cells #[.int .i64 (-3)] 70)).alloc (.cells #[.pointer (some ⟨nb x, 0, none⟩)] 66)) :
    ∀ w', Below w3.heap.size w3 w' → Calls Try.prog 85 #[.pointer none, .pointer (some ⟨w.heap.size + 1, 0, none⟩), .pointer (some ⟨w.heap.size, 0, none⟩), .pointer (some ⟨w.heap.size + 1 + 1, 0, none⟩)] w' (LkPost (((lb (elKid ts p) x).reverse).map nb)[0]? w') ∧
      ∀ k, k < (((lb (elKid ts p) x).reverse).map nb).length → Calls Try.prog 85 #[.pointer (some ⟨(((lb (elKid ts p) x).reverse).map nb).getD k 0, 0, none⟩), .pointer (some ⟨w.heap.size + 1, 0, none⟩), .pointer (some ⟨w.heap.size, 0, none⟩), .pointer (some ⟨w.heap.size + 1 + 1, 0, none⟩)] w' (LkPost (((lb (elKid ts p) x).reverse).map nb)[k + 1]? w') := by
  intro w' hb
  have hpn : p < len := by have := (par_some hp).1; omega
  have hb3 : Below w.heap.size w w3 := by rw [hw3]; exact (((Below.refl _ _).alloc (Nat.le_refl _) _).alloc (by simp) _).alloc (by simp; omega) _
  have hF' : Forest B w' bl len nb vv ts := hF.below (hb3.trans (hb.mono hb3.size))
  have c2 : w'.cell? ⟨w.heap.size, 0, none⟩ = some (.pointer (some ⟨nb p, 0, none⟩)) := cell_below hb (by rw [hw3]; exact cell_alloc_old (cell_alloc_old (cell_alloc_new' _ _ _ rfl rfl) _) _)
  have c1 : w'.cell? ⟨w.heap.size + 1, 0, none⟩ = some (.int .i64 (-3)) := cell_below hb (by rw [hw3]; exact cell_alloc_old (cell_alloc_new' _ _ _ (by simp) rfl) _)
  have c3 : w'.cell? ⟨w.heap.size + 1 + 1, 0, none⟩ = some (.pointer (some ⟨nb x, 0, none⟩)) := cell_below hb (by rw [hw3]; exact cell_alloc_new' _ _ _ (by simp) rfl)
  constructor
  · rw [List.getElem?_map, ← List.head?_eq_getElem?]
    have h := iterPrev_m3 (w.heap.size + 1) w.heap.size (w.heap.size + 1 + 1) x p (.pointer none) w' bl len nb vv ts hF' hR hx hp c1 (.inr ⟨rfl, c3⟩)
    exact h
  · intro k hk
    have hk' : k < ((lb (elKid ts p) x).reverse).length := by simpa using hk
    have hd := chain_drop (S := fun y => (lb (elKid ts p) y).reverse) (fun y q r h => lb_cons h) k x _ rfl hk' 
    have hm := lb_mem (List.mem_reverse.1 (getD_mem' (d := 0) hk'))
    have hyp : par (sz ts) (((lb (elKid ts p) x).reverse).getD k 0) = some p := by have h := hm.2; simp [elKid] at h; exact h.1
    have hyl : ((lb (elKid ts p) x).reverse).getD k 0 < len := by have := hm.1; omega
    rw [map_getD hk', List.getElem?_map, ← head_drop, ← hd]
    obtain ⟨y, hy⟩ : ∃ y, ((lb (elKid ts p) x).reverse).getD k 0 = y := ⟨_, rfl⟩
    rw [hy] at hyp hyl ⊢
    have h := iterPrev_m3 (w.heap.size + 1) w.heap.size (w.heap.size + 1 + 1) y p (.pointer (some ⟨nb y, 0, none⟩)) w' bl len nb vv ts hF' hR hyl hyp c1 (.inl rfl)
    exact h

set_option maxRecDepth 100000 in
set_option maxHeartbeats 2000000 in
theorem clo_m3 {B : Nat} (i : Int) (x p bst bf : Nat) (w : World) (bl len : Nat) (nb : Nat → Nat) (vv : Nat → Value) (ts : List NodeD) (hF : Forest B w bl len nb vv ts) (hR : RightT ts len) (hx : x < len) (hp : par (sz ts) x = some p) (cst : w.cell? ⟨bst, 0, none⟩ = some (.int .i64 (-3))) (b4 b5 : Nat) (U : Nat → Bool) (Ub : Nat → Bool) (hU : ∀ y, y < len → U y = Ub (nb y))
    (hun : ∀ w', Below w.heap.size w w' → ∀ y, y < len → Calls Try.prog 74 #[.pointer (some ⟨nb y, 0, none⟩), .pointer (some ⟨b4, 0, none⟩), .pointer (some ⟨b5, 0, none⟩)] w' (StrEqB (U y) w')) (cf : w.cell? ⟨bf, 0, none⟩ = some (.func (.func 74) #[] #[.pointer (some ⟨b4, 0, none⟩), .pointer (some ⟨b5, 0, none⟩)])) :
    Calls Try.prog 76 #[.int .i64 i, .pointer (some ⟨nb x, 0, none⟩), .pointer (some ⟨bst, 0, none⟩), .pointer (some ⟨bf, 0, none⟩)] w (OwnPtrsPost ((upToL U ((lb (elKid ts p) x).reverse)).map nb) w) := by
  have hLn : ((lb (elKid ts p) x).reverse).length ≤ 200 := by have := hR.le; rw [List.length_reverse]; have h := lb_length_le (P := elKid ts p) x; omega
  have hFd : Forest B w.drew bl len nb vv ts := hF.below (Below.refl _ _).drew
  have hh := hit_m3 x p w.drew _ bl len nb vv ts hFd hR hx hp rfl
  have hk := kids_m3 (some ⟨nb p, 0, none⟩) (some ⟨nb x, 0, none⟩) (((lb (elKid ts p) x).reverse).map nb) w.drew _ (by rw [List.length_map]; exact hLn) rfl b4 b5 Ub hh (fun w' hb k hkl => by
    have hk' : k < ((lb (elKid ts p) x).reverse).length := by simpa using hkl
    rw [map_getD hk']
    have hq := getD_mem' (d := 0) hk'
    have hql : ((lb (elKid ts p) x).reverse).getD k 0 < len := (by have := (lb_mem (List.mem_reverse.1 hq)).1; omega)
    rw [← hU _ hql]
    have hb3 : Below w.heap.size w w' := ((Below.refl _ _).drew.trans ((((Below.refl _ _).alloc (Nat.le_refl _) _).alloc (by simp) _).alloc (by simp; omega) _)).trans (hb.mono (by simp; omega))
    exact hun w' hb3 _ hql)
  rw [show upToL Ub (((lb (elKid ts p) x).reverse).map nb) = (upToL U ((lb (elKid ts p) x).reverse)).map nb from upTo_map (len := len) (fun q hq => (by have := (lb_mem (List.mem_reverse.1 hq)).1; omega)) hU] at hk
  have kx := (hF.node hx).par
  rw [show (nodeR (fun i => i + sz ts i) 0 nb (ts.getD x default) (vv x) x).par = (up (fun i => i + sz ts i) 0 x).map nb from rfl, up_par, hp, Option.map_some, lk_some] at kx
  obtain ⟨R, hR2⟩ : ∃ R, (upToL U ((lb (elKid ts p) x).reverse)).map nb = R := ⟨_, rfl⟩
  rw [hR2] at hk ⊢
  have HK := Lib.hid hk
  clear hk hh hF hFd hR hp hR2 hLn hU hun
  go_enter Try.func76, Try.ntmps76
  go_wp2
  go_still_tail 7, (by kernel_rfl)
  go_wp2_with fail
  refine HK.out.mono ?_
  rintro e w1 ⟨v, rfl, ho, hb⟩
  have hb1 : Hid (Below w.heap.size w w1) := Lib.hid ((Below.refl _ _).drew.trans hb.out)
  go_wp2
  go_ret
  exact ⟨v, rfl, ho, hb1⟩

theorem hit_kid {B : Nat} (x : Nat) (w w3 : World) (bl len : Nat) (nb : Nat → Nat) (vv : Nat → Value) (ts : List NodeD) (hF : Forest B w bl len nb vv ts) (hR : RightT ts len) (hx : x < len)
    (hw3 : w3 = ((w.alloc (.cells #[.pointer (some ⟨nb x, 0, none⟩)] 66)).alloc (.cells #[.int .i64 0] 70)).alloc (.cells #[.pointer (none)] 66)) :
    ∀ w', Below w3.heap.size w3 w' → Calls Try.prog 85 #[.pointer none, .pointer (some ⟨w.heap.size + 1, 0, none⟩), .pointer (some ⟨w.heap.size, 0, none⟩), .pointer (some ⟨w.heap.size + 1 + 1, 0, none⟩)] w' (LkPost ((rb (elKid ts x) (x + 1) (len - (x + 1))).map nb)[0]? w') ∧
      ∀ k, k < ((rb (elKid ts x) (x + 1) (len - (x + 1))).map nb).length → Calls Try.prog 85 #[.pointer (some ⟨((rb (elKid ts x) (x + 1) (len - (x + 1))).map nb).getD k 0, 0, none⟩), .pointer (some ⟨w.heap.size + 1, 0, none⟩), .pointer (some ⟨w.heap.size, 0, none⟩), .pointer (some ⟨w.heap.size + 1 + 1, 0, none⟩)] w' (LkPost ((rb (elKid ts x) (x + 1) (len - (x + 1))).map nb)[k + 1]? w') := by
  intro w' hb
  have hb3 : Below w.heap.size w w3 := by rw [hw3]; exact (((Below.refl _ _).alloc (Nat.le_refl _) _).alloc (by simp) _).alloc (by simp; omega) _
  have hF' : Forest B w' bl len nb vv ts := hF.below (hb3.trans (hb.mono hb3.size))
  have c2 : w'.cell? ⟨w.heap.size, 0, none⟩ = some (.pointer (some ⟨nb x, 0, none⟩)) := cell_below hb (by rw [hw3]; exact cell_alloc_old (cell_alloc_old (cell_alloc_new' _ _ _ rfl rfl) _) _)
  have c1 : w'.cell? ⟨w.heap.size + 1, 0, none⟩ = some (.int .i64 0) := cell_below hb (by rw [hw3]; exact cell_alloc_old (cell_alloc_new' _ _ _ (by simp) rfl) _)
  have c3 : w'.cell? ⟨w.heap.size + 1 + 1, 0, none⟩ = some (.pointer none) := cell_below hb (by rw [hw3]; exact cell_alloc_new' _ _ _ (by simp) rfl)
  constructor
  · rw [List.getElem?_map, ← List.head?_eq_getElem?]
    have h := iterAll_none (w.heap.size + 1) w.heap.size (w.heap.size + 1 + 1) x x (.pointer none) w' bl len nb vv ts hF' hR hx hx c1 c2 c3 (.inl ⟨rfl, rfl⟩)
    exact h
  · intro k hk
    have hk' : k < (rb (elKid ts x) (x + 1) (len - (x + 1))).length := by simpa using hk
    have hd := chain_drop (S := fun y => rb (elKid ts x) (y + 1) (len - (y + 1))) rb_chain k x _ rfl hk'
    have hm := rb_mem.1 (getD_mem' (d := 0) hk')
    have hyp : par (sz ts) ((rb (elKid ts x) (x + 1) (len - (x + 1))).getD k 0) = some x := by have h := hm.2.2; simp [elKid] at h; exact h.1
    have hyl : (rb (elKid ts x) (x + 1) (len - (x + 1))).getD k 0 < len := by have := hm.2.1; omega
    rw [map_getD hk', List.getElem?_map, ← head_drop, ← hd]
    obtain ⟨y, hy⟩ : ∃ y, (rb (elKid ts x) (x + 1) (len - (x + 1))).getD k 0 = y := ⟨_, rfl⟩
    rw [hy] at hyp hyl ⊢
    have h := iterAll_none (w.heap.size + 1) w.heap.size (w.heap.size + 1 + 1) x y (.pointer (some ⟨nb y, 0, none⟩)) w' bl len nb vv ts hF' hR hx hyl c1 c2 c3 (.inr ⟨rfl, hyp⟩)
    exact h

set_option maxRecDepth 100000 in
set_option maxHeartbeats 2000000 in
theorem clo_kid {B : Nat} (i : Int) (x bst : Nat) (w : World) (bl len : Nat) (nb : Nat → Nat) (vv : Nat → Value) (ts : List NodeD) (hF : Forest B w bl len nb vv ts) (hR : RightT ts len) (hx : x < len) (cst : w.cell? ⟨bst, 0, none⟩ = some (.int .i64 0)) :
    Calls Try.prog 72 #[.int .i64 i, .pointer (some ⟨nb x, 0, none⟩), .pointer (some ⟨bst, 0, none⟩)] w (OwnPtrsPost ((rb (elKid ts x) (x + 1) (len - (x + 1))).map nb) w) := by
  have hLn : (rb (elKid ts x) (x + 1) (len - (x + 1))).length ≤ 200 := by have := hR.le; have h := rb_len (P := elKid ts x) (len - (x + 1)) (x + 1); omega
  have hh := hit_kid x w _ bl len nb vv ts hF hR hx rfl
  have hk := kids_0 (some ⟨nb x, 0, none⟩) none .nilFunc ((rb (elKid ts x) (x + 1) (len - (x + 1))).map nb) w _ (by rw [List.length_map]; exact hLn) rfl hh
  obtain ⟨R, hR2⟩ : ∃ R, (rb (elKid ts x) (x + 1) (len - (x + 1))).map nb = R := ⟨_, rfl⟩
  rw [hR2] at hk ⊢
  have HK := Lib.hid hk
  clear hk hh hF hR hR2 hLn
  go_enter Try.func72, Try.ntmps72
  go_wp2_with fail
  refine HK.out.mono ?_
  rintro e w1 ⟨v, rfl, ho, hb⟩
  go_wp2
  go_ret
  exact ⟨v, rfl, ho, hb⟩

end Go.Proofs.Ytjidbnegoailcaa
