/- Brothers as lists; the closures of getSiblingNodes and getChildrenNodes. (Printed by gen_selsib.py.) getSiblingNodes, getChildrenNodes, the methods of Selection. (Printed by gen_selsib.py.) -/
import Derived.Test.YtphppdbhofeagaaGreatSibKids
import Derived.Test.YtphppdbhofeagaaGreatSibIter
import Derived.StillTailTactics
import Derived.Test.YtphppdbhofeagaaGreatSibMap
import Derived.Laws.EntriesVeiled
import Derived.Test.YtphppdbhofeagaaGreatMember
namespace Go.Proofs.YtphppdbhofeagaaGreat
open Go.RowKit
set_option linter.unusedVariables false
set_option linter.unusedSimpArgs false

theorem upTo_map {nb : Nat → Nat} {len : Nat} {U Ub : Nat → Bool} : ∀ {l : List Nat}, (∀ q ∈ l, q < len) → (∀ y, y < len → U y = Ub (nb y)) → upToL Ub (l.map nb) = (upToL U l).map nb := by
  intro l
  induction l with
  | nil => intro _ _; rfl
  | cons x r ih =>
    intro h hU
    simp only [List.map_cons, upToL]
    rw [← hU x (h x (by simp)), ih (fun q hq => h q (by simp [hq])) hU]
    split <;> simp

theorem hit_2 {B : Nat} (x p : Nat) (w w3 : World) (bl len : Nat) (nb : Nat → Nat) (vv : Nat → Value) (ts : List NodeD) (hF : Forest B w bl len nb vv ts) (hR : RightT ts len) (hx : x < len) (hp : par (sz ts) x = some p)
    (hw3 : w3 = ((w.alloc (.cells #[.pointer (some ⟨nb p, 0, none⟩)] 75)).alloc (.cells #[.int .i64 2] 103)).alloc (.cells #[.pointer (some ⟨nb x, 0, none⟩)] 75)) :
    ∀ w', Below w3.heap.size w3 w' → Calls Tryz.prog 110 #[.pointer none, .pointer (some ⟨w.heap.size + 1, 0, none⟩), .pointer (some ⟨w.heap.size, 0, none⟩), .pointer (some ⟨w.heap.size + 1 + 1, 0, none⟩)] w' (LkPost ((rb (elKid ts p) (x + 1) (len - (x + 1))).map nb)[0]? w') ∧
      ∀ k, k < ((rb (elKid ts p) (x + 1) (len - (x + 1))).map nb).length → Calls Tryz.prog 110 #[.pointer (some ⟨((rb (elKid ts p) (x + 1) (len - (x + 1))).map nb).getD k 0, 0, none⟩), .pointer (some ⟨w.heap.size + 1, 0, none⟩), .pointer (some ⟨w.heap.size, 0, none⟩), .pointer (some ⟨w.heap.size + 1 + 1, 0, none⟩)] w' (LkPost ((rb (elKid ts p) (x + 1) (len - (x + 1))).map nb)[k + 1]? w') := by
  intro w' hb
  have hpn : p < len := by have := (par_some hp).1; omega
  have hb3 : Below w.heap.size w w3 := by rw [hw3]; exact (((Below.refl _ _).alloc (Nat.le_refl _) _).alloc (by simp) _).alloc (by simp; omega) _
  have hF' : Forest B w' bl len nb vv ts := hF.below (hb3.trans (hb.mono hb3.size))
  have c2 : w'.cell? ⟨w.heap.size, 0, none⟩ = some (.pointer (some ⟨nb p, 0, none⟩)) := cell_below hb (by rw [hw3]; exact cell_alloc_old (cell_alloc_old (cell_alloc_new' _ _ _ rfl rfl) _) _)
  have c1 : w'.cell? ⟨w.heap.size + 1, 0, none⟩ = some (.int .i64 2) := cell_below hb (by rw [hw3]; exact cell_alloc_old (cell_alloc_new' _ _ _ (by simp) rfl) _)
  have c3 : w'.cell? ⟨w.heap.size + 1 + 1, 0, none⟩ = some (.pointer (some ⟨nb x, 0, none⟩)) := cell_below hb (by rw [hw3]; exact cell_alloc_new' _ _ _ (by simp) rfl)
  constructor
  · rw [List.getElem?_map, ← List.head?_eq_getElem?]
    have h := iterNext_2 (w.heap.size + 1) w.heap.size (w.heap.size + 1 + 1) x p (.pointer none) w' bl len nb vv ts hF' hR hx hp c1 (.inr ⟨rfl, c3⟩)
    exact h
  · intro k hk
    have hk' : k < (rb (elKid ts p) (x + 1) (len - (x + 1))).length := by simpa using hk
    have hd := chain_drop (S := fun y => rb (elKid ts p) (y + 1) (len - (y + 1))) rb_chain k x _ rfl hk' 
    have hm := rb_mem.1 (getD_mem' (d := 0) hk')
    have hyp : par (sz ts) ((rb (elKid ts p) (x + 1) (len - (x + 1))).getD k 0) = some p := by have h := hm.2.2; simp [elKid] at h; exact h.1
    have hyl : (rb (elKid ts p) (x + 1) (len - (x + 1))).getD k 0 < len := by have := hm.2.1; omega
    rw [map_getD hk', List.getElem?_map, ← head_drop, ← hd]
    obtain ⟨y, hy⟩ : ∃ y, (rb (elKid ts p) (x + 1) (len - (x + 1))).getD k 0 = y := ⟨_, rfl⟩
    rw [hy] at hyp hyl ⊢
    have h := iterNext_2 (w.heap.size + 1) w.heap.size (w.heap.size + 1 + 1) y p (.pointer (some ⟨nb y, 0, none⟩)) w' bl len nb vv ts hF' hR hyl hyp c1 (.inl rfl)
    exact h

set_option maxRecDepth 100000 in
set_option maxHeartbeats 2000000 in
theorem clo_2 {B : Nat} (i : Int) (x p bst bf : Nat) (f : Value) (w : World) (bl len : Nat) (nb : Nat → Nat) (vv : Nat → Value) (ts : List NodeD) (hF : Forest B w bl len nb vv ts) (hR : RightT ts len) (hx : x < len) (hp : par (sz ts) x = some p) (cst : w.cell? ⟨bst, 0, none⟩ = some (.int .i64 2)) (cf : w.cell? ⟨bf, 0, none⟩ = some f) :
    Calls Tryz.prog 104 #[.int .i64 i, .pointer (some ⟨nb x, 0, none⟩), .pointer (some ⟨bst, 0, none⟩), .pointer (some ⟨bf, 0, none⟩)] w (OwnPtrsPost ((rb (elKid ts p) (x + 1) (len - (x + 1))).map nb) w) := by
  have hLn : (rb (elKid ts p) (x + 1) (len - (x + 1))).length ≤ 200 := by have := hR.le; have h := rb_len (P := elKid ts p) (len - (x + 1)) (x + 1); omega
  have hFd : Forest B w.drew bl len nb vv ts := hF.below (Below.refl _ _).drew
  have hh := hit_2 x p w.drew _ bl len nb vv ts hFd hR hx hp rfl
  have hk := kids_2 (some ⟨nb p, 0, none⟩) (some ⟨nb x, 0, none⟩) f ((rb (elKid ts p) (x + 1) (len - (x + 1))).map nb) w.drew _ (by rw [List.length_map]; exact hLn) rfl hh
  have kx := (hF.node hx).par
  rw [show (nodeR (fun i => i + sz ts i) 0 nb (ts.getD x default) (vv x) x).par = (up (fun i => i + sz ts i) 0 x).map nb from rfl, up_par, hp, Option.map_some, lk_some] at kx
  obtain ⟨R, hR2⟩ : ∃ R, (rb (elKid ts p) (x + 1) (len - (x + 1))).map nb = R := ⟨_, rfl⟩
  rw [hR2] at hk ⊢
  have HK := Lib.hid hk
  clear hk hh hF hFd hR hp hR2 hLn
  go_enter Tryz.func104, Tryz.ntmps104
  go_wp2
  go_still_tail 7, (by kernel_rfl)
  go_wp2_with fail
  refine HK.out.mono ?_
  rintro e w1 ⟨v, rfl, ho, hb⟩
  have hb1 : Hid (Below w.heap.size w w1) := Lib.hid ((Below.refl _ _).drew.trans hb.out)
  go_wp2
  go_ret
  exact ⟨v, rfl, ho, hb1⟩

theorem hit_0 {B : Nat} (x p : Nat) (w w3 : World) (bl len : Nat) (nb : Nat → Nat) (vv : Nat → Value) (ts : List NodeD) (hF : Forest B w bl len nb vv ts) (hR : RightT ts len) (hx : x < len) (hp : par (sz ts) x = some p)
    (hw3 : w3 = ((w.alloc (.cells #[.pointer (some ⟨nb p, 0, none⟩)] 75)).alloc (.cells #[.int .i64 0] 103)).alloc (.cells #[.pointer (some ⟨nb x, 0, none⟩)] 75)) :
    ∀ w', Below w3.heap.size w3 w' → Calls Tryz.prog 110 #[.pointer none, .pointer (some ⟨w.heap.size + 1, 0, none⟩), .pointer (some ⟨w.heap.size, 0, none⟩), .pointer (some ⟨w.heap.size + 1 + 1, 0, none⟩)] w' (LkPost ((rb (elSkip ts p x) (p + 1) (len - (p + 1))).map nb)[0]? w') ∧
      ∀ k, k < ((rb (elSkip ts p x) (p + 1) (len - (p + 1))).map nb).length → Calls Tryz.prog 110 #[.pointer (some ⟨((rb (elSkip ts p x) (p + 1) (len - (p + 1))).map nb).getD k 0, 0, none⟩), .pointer (some ⟨w.heap.size + 1, 0, none⟩), .pointer (some ⟨w.heap.size, 0, none⟩), .pointer (some ⟨w.heap.size + 1 + 1, 0, none⟩)] w' (LkPost ((rb (elSkip ts p x) (p + 1) (len - (p + 1))).map nb)[k + 1]? w') := by
  intro w' hb
  have hpn : p < len := by have := (par_some hp).1; omega
  have hb3 : Below w.heap.size w w3 := by rw [hw3]; exact (((Below.refl _ _).alloc (Nat.le_refl _) _).alloc (by simp) _).alloc (by simp; omega) _
  have hF' : Forest B w' bl len nb vv ts := hF.below (hb3.trans (hb.mono hb3.size))
  have c2 : w'.cell? ⟨w.heap.size, 0, none⟩ = some (.pointer (some ⟨nb p, 0, none⟩)) := cell_below hb (by rw [hw3]; exact cell_alloc_old (cell_alloc_old (cell_alloc_new' _ _ _ rfl rfl) _) _)
  have c1 : w'.cell? ⟨w.heap.size + 1, 0, none⟩ = some (.int .i64 0) := cell_below hb (by rw [hw3]; exact cell_alloc_old (cell_alloc_new' _ _ _ (by simp) rfl) _)
  have c3 : w'.cell? ⟨w.heap.size + 1 + 1, 0, none⟩ = some (.pointer (some ⟨nb x, 0, none⟩)) := cell_below hb (by rw [hw3]; exact cell_alloc_new' _ _ _ (by simp) rfl)
  constructor
  · rw [List.getElem?_map, ← List.head?_eq_getElem?]
    have h := iterAll_skip (w.heap.size + 1) w.heap.size (w.heap.size + 1 + 1) x p p (.pointer none) w' bl len nb vv ts hF' hR hpn hx hp hpn c1 c2 c3 (.inl ⟨rfl, rfl⟩)
    exact h
  · intro k hk
    have hk' : k < (rb (elSkip ts p x) (p + 1) (len - (p + 1))).length := by simpa using hk
    have hd := chain_drop (S := fun y => rb (elSkip ts p x) (y + 1) (len - (y + 1))) rb_chain k p _ rfl hk' 
    have hm := rb_mem.1 (getD_mem' (d := 0) hk')
    have hyp : par (sz ts) ((rb (elSkip ts p x) (p + 1) (len - (p + 1))).getD k 0) = some p := by have h := hm.2.2; simp [elSkip] at h; exact h.1
    have hyl : (rb (elSkip ts p x) (p + 1) (len - (p + 1))).getD k 0 < len := by have := hm.2.1; omega
    rw [map_getD hk', List.getElem?_map, ← head_drop, ← hd]
    obtain ⟨y, hy⟩ : ∃ y, (rb (elSkip ts p x) (p + 1) (len - (p + 1))).getD k 0 = y := ⟨_, rfl⟩
    rw [hy] at hyp hyl ⊢
    have h := iterAll_skip (w.heap.size + 1) w.heap.size (w.heap.size + 1 + 1) x p y (.pointer (some ⟨nb y, 0, none⟩)) w' bl len nb vv ts hF' hR hpn hx hp hyl c1 c2 c3 (.inr ⟨rfl, hyp⟩)
    exact h

set_option maxRecDepth 100000 in
set_option maxHeartbeats 2000000 in
theorem clo_0 {B : Nat} (i : Int) (x p bst bf : Nat) (f : Value) (w : World) (bl len : Nat) (nb : Nat → Nat) (vv : Nat → Value) (ts : List NodeD) (hF : Forest B w bl len nb vv ts) (hR : RightT ts len) (hx : x < len) (hp : par (sz ts) x = some p) (cst : w.cell? ⟨bst, 0, none⟩ = some (.int .i64 0)) (cf : w.cell? ⟨bf, 0, none⟩ = some f) :
    Calls Tryz.prog 104 #[.int .i64 i, .pointer (some ⟨nb x, 0, none⟩), .pointer (some ⟨bst, 0, none⟩), .pointer (some ⟨bf, 0, none⟩)] w (OwnPtrsPost ((rb (elSkip ts p x) (p + 1) (len - (p + 1))).map nb) w) := by
  have hLn : (rb (elSkip ts p x) (p + 1) (len - (p + 1))).length ≤ 200 := by have := hR.le; have h := rb_len (P := elSkip ts p x) (len - (p + 1)) (p + 1); omega
  have hFd : Forest B w.drew bl len nb vv ts := hF.below (Below.refl _ _).drew
  have hh := hit_0 x p w.drew _ bl len nb vv ts hFd hR hx hp rfl
  have hk := kids_0 (some ⟨nb p, 0, none⟩) (some ⟨nb x, 0, none⟩) f ((rb (elSkip ts p x) (p + 1) (len - (p + 1))).map nb) w.drew _ (by rw [List.length_map]; exact hLn) rfl hh
  have kx := (hF.node hx).par
  rw [show (nodeR (fun i => i + sz ts i) 0 nb (ts.getD x default) (vv x) x).par = (up (fun i => i + sz ts i) 0 x).map nb from rfl, up_par, hp, Option.map_some, lk_some] at kx
  obtain ⟨R, hR2⟩ : ∃ R, (rb (elSkip ts p x) (p + 1) (len - (p + 1))).map nb = R := ⟨_, rfl⟩
  rw [hR2] at hk ⊢
  have HK := Lib.hid hk
  clear hk hh hF hFd hR hp hR2 hLn
  go_enter Tryz.func104, Tryz.ntmps104
  go_wp2
  go_still_tail 7, (by kernel_rfl)
  go_wp2_with fail
  refine HK.out.mono ?_
  rintro e w1 ⟨v, rfl, ho, hb⟩
  have hb1 : Hid (Below w.heap.size w w1) := Lib.hid ((Below.refl _ _).drew.trans hb.out)
  go_wp2
  go_ret
  exact ⟨v, rfl, ho, hb1⟩

theorem hit_1 {B : Nat} (x p : Nat) (w w3 : World) (bl len : Nat) (nb : Nat → Nat) (vv : Nat → Value) (ts : List NodeD) (hF : Forest B w bl len nb vv ts) (hR : RightT ts len) (hx : x < len) (hp : par (sz ts) x = some p)
    (hw3 : w3 = ((w.alloc (.cells #[.pointer (some ⟨nb p, 0, none⟩)] 75)).alloc (.cells #[.int .i64 1] 103)).alloc (.cells #[.pointer (some ⟨nb x, 0, none⟩)] 75)) :
    ∀ w', Below w3.heap.size w3 w' → Calls Tryz.prog 110 #[.pointer none, .pointer (some ⟨w.heap.size + 1, 0, none⟩), .pointer (some ⟨w.heap.size, 0, none⟩), .pointer (some ⟨w.heap.size + 1 + 1, 0, none⟩)] w' (LkPost ((rb (elKid ts p) (x + 1) (len - (x + 1))).map nb)[0]? w') ∧
      ∀ k, k < ((rb (elKid ts p) (x + 1) (len - (x + 1))).map nb).length → Calls Tryz.prog 110 #[.pointer (some ⟨((rb (elKid ts p) (x + 1) (len - (x + 1))).map nb).getD k 0, 0, none⟩), .pointer (some ⟨w.heap.size + 1, 0, none⟩), .pointer (some ⟨w.heap.size, 0, none⟩), .pointer (some ⟨w.heap.size + 1 + 1, 0, none⟩)] w' (LkPost ((rb (elKid ts p) (x + 1) (len - (x + 1))).map nb)[k + 1]? w') := by
  intro w' hb
  have hpn : p < len := by have := (par_some hp).1; omega
  have hb3 : Below w.heap.size w w3 := by rw [hw3]; exact (((Below.refl _ _).alloc (Nat.le_refl _) _).alloc (by simp) _).alloc (by simp; omega) _
  have hF' : Forest B w' bl len nb vv ts := hF.below (hb3.trans (hb.mono hb3.size))
  have c2 : w'.cell? ⟨w.heap.size, 0, none⟩ = some (.pointer (some ⟨nb p, 0, none⟩)) := cell_below hb (by rw [hw3]; exact cell_alloc_old (cell_alloc_old (cell_alloc_new' _ _ _ rfl rfl) _) _)
  have c1 : w'.cell? ⟨w.heap.size + 1, 0, none⟩ = some (.int .i64 1) := cell_below hb (by rw [hw3]; exact cell_alloc_old (cell_alloc_new' _ _ _ (by simp) rfl) _)
  have c3 : w'.cell? ⟨w.heap.size + 1 + 1, 0, none⟩ = some (.pointer (some ⟨nb x, 0, none⟩)) := cell_below hb (by rw [hw3]; exact cell_alloc_new' _ _ _ (by simp) rfl)
  constructor
  · rw [List.getElem?_map, ← List.head?_eq_getElem?]
    have h := iterNext_1 (w.heap.size + 1) w.heap.size (w.heap.size + 1 + 1) x p (.pointer none) w' bl len nb vv ts hF' hR hx hp c1 (.inr ⟨rfl, c3⟩)
    exact h
  · intro k hk
    have hk' : k < (rb (elKid ts p) (x + 1) (len - (x + 1))).length := by simpa using hk
    have hd := chain_drop (S := fun y => rb (elKid ts p) (y + 1) (len - (y + 1))) rb_chain k x _ rfl hk' 
    have hm := rb_mem.1 (getD_mem' (d := 0) hk')
    have hyp : par (sz ts) ((rb (elKid ts p) (x + 1) (len - (x + 1))).getD k 0) = some p := by have h := hm.2.2; simp [elKid] at h; exact h.1
    have hyl : (rb (elKid ts p) (x + 1) (len - (x + 1))).getD k 0 < len := by have := hm.2.1; omega
    rw [map_getD hk', List.getElem?_map, ← head_drop, ← hd]
    obtain ⟨y, hy⟩ : ∃ y, (rb (elKid ts p) (x + 1) (len - (x + 1))).getD k 0 = y := ⟨_, rfl⟩
    rw [hy] at hyp hyl ⊢
    have h := iterNext_1 (w.heap.size + 1) w.heap.size (w.heap.size + 1 + 1) y p (.pointer (some ⟨nb y, 0, none⟩)) w' bl len nb vv ts hF' hR hyl hyp c1 (.inl rfl)
    exact h

set_option maxRecDepth 100000 in
set_option maxHeartbeats 2000000 in
theorem clo_1 {B : Nat} (i : Int) (x p bst bf : Nat) (f : Value) (w : World) (bl len : Nat) (nb : Nat → Nat) (vv : Nat → Value) (ts : List NodeD) (hF : Forest B w bl len nb vv ts) (hR : RightT ts len) (hx : x < len) (hp : par (sz ts) x = some p) (cst : w.cell? ⟨bst, 0, none⟩ = some (.int .i64 1)) (cf : w.cell? ⟨bf, 0, none⟩ = some f) :
    Calls Tryz.prog 104 #[.int .i64 i, .pointer (some ⟨nb x, 0, none⟩), .pointer (some ⟨bst, 0, none⟩), .pointer (some ⟨bf, 0, none⟩)] w (OwnPtrsPost (((rb (elKid ts p) (x + 1) (len - (x + 1))).take 1).map nb) w) := by
  have hLn : (rb (elKid ts p) (x + 1) (len - (x + 1))).length ≤ 200 := by have := hR.le; have h := rb_len (P := elKid ts p) (len - (x + 1)) (x + 1); omega
  have hFd : Forest B w.drew bl len nb vv ts := hF.below (Below.refl _ _).drew
  have hh := hit_1 x p w.drew _ bl len nb vv ts hFd hR hx hp rfl
  have hk := kids_1 (some ⟨nb p, 0, none⟩) (some ⟨nb x, 0, none⟩) f ((rb (elKid ts p) (x + 1) (len - (x + 1))).map nb) w.drew _ (by rw [List.length_map]; exact hLn) rfl hh
  rw [← List.map_take] at hk
  have kx := (hF.node hx).par
  rw [show (nodeR (fun i => i + sz ts i) 0 nb (ts.getD x default) (vv x) x).par = (up (fun i => i + sz ts i) 0 x).map nb from rfl, up_par, hp, Option.map_some, lk_some] at kx
  obtain ⟨R, hR2⟩ : ∃ R, ((rb (elKid ts p) (x + 1) (len - (x + 1))).take 1).map nb = R := ⟨_, rfl⟩
  rw [hR2] at hk ⊢
  have HK := Lib.hid hk
  clear hk hh hF hFd hR hp hR2 hLn
  go_enter Tryz.func104, Tryz.ntmps104
  go_wp2
  go_still_tail 7, (by kernel_rfl)
  go_wp2_with fail
  refine HK.out.mono ?_
  rintro e w1 ⟨v, rfl, ho, hb⟩
  have hb1 : Hid (Below w.heap.size w w1) := Lib.hid ((Below.refl _ _).drew.trans hb.out)
  go_wp2
  go_ret
  exact ⟨v, rfl, ho, hb1⟩

theorem hit_m1 {B : Nat} (x p : Nat) (w w3 : World) (bl len : Nat) (nb : Nat → Nat) (vv : Nat → Value) (ts : List NodeD) (hF : Forest B w bl len nb vv ts) (hR : RightT ts len) (hx : x < len) (hp : par (sz ts) x = some p)
    (hw3 : w3 = ((w.alloc (.cells #[.pointer (some ⟨nb p, 0, none⟩)] 75)).alloc (.cells #[.int .i64 (-1)] 103)).alloc (.cells #[.pointer (some ⟨nb x, 0, none⟩)] 75)) :
    ∀ w', Below w3.heap.size w3 w' → Calls Tryz.prog 110 #[.pointer none, .pointer (some ⟨w.heap.size + 1, 0, none⟩), .pointer (some ⟨w.heap.size, 0, none⟩), .pointer (some ⟨w.heap.size + 1 + 1, 0, none⟩)] w' (LkPost (((lb (elKid ts p) x).reverse).map nb)[0]? w') ∧
      ∀ k, k < (((lb (elKid ts p) x).reverse).map nb).length → Calls Tryz.prog 110 #[.pointer (some ⟨(((lb (elKid ts p) x).reverse).map nb).getD k 0, 0, none⟩), .pointer (some ⟨w.heap.size + 1, 0, none⟩), .pointer (some ⟨w.heap.size, 0, none⟩), .pointer (some ⟨w.heap.size + 1 + 1, 0, none⟩)] w' (LkPost (((lb (elKid ts p) x).reverse).map nb)[k + 1]? w') := by
  intro w' hb
  have hpn : p < len := by have := (par_some hp).1; omega
  have hb3 : Below w.heap.size w w3 := by rw [hw3]; exact (((Below.refl _ _).alloc (Nat.le_refl _) _).alloc (by simp) _).alloc (by simp; omega) _
  have hF' : Forest B w' bl len nb vv ts := hF.below (hb3.trans (hb.mono hb3.size))
  have c2 : w'.cell? ⟨w.heap.size, 0, none⟩ = some (.pointer (some ⟨nb p, 0, none⟩)) := cell_below hb (by rw [hw3]; exact cell_alloc_old (cell_alloc_old (cell_alloc_new' _ _ _ rfl rfl) _) _)
  have c1 : w'.cell? ⟨w.heap.size + 1, 0, none⟩ = some (.int .i64 (-1)) := cell_below hb (by rw [hw3]; exact cell_alloc_old (cell_alloc_new' _ _ _ (by simp) rfl) _)
  have c3 : w'.cell? ⟨w.heap.size + 1 + 1, 0, none⟩ = some (.pointer (some ⟨nb x, 0, none⟩)) := cell_below hb (by rw [hw3]; exact cell_alloc_new' _ _ _ (by simp) rfl)
  constructor
  · rw [List.getElem?_map, ← List.head?_eq_getElem?]
    have h := iterPrev_m1 (w.heap.size + 1) w.heap.size (w.heap.size + 1 + 1) x p (.pointer none) w' bl len nb vv ts hF' hR hx hp c1 (.inr ⟨rfl, c3⟩)
    exact h
  · intro k hk
    have hk' : k < ((lb (elKid ts p) x).reverse).length := by simpa using hk
    have hd := chain_drop (S := fun y => (lb (elKid ts p) y).reverse) (fun y q r h => lb_cons h) k x _ rfl hk' 
    have hm := lb_mem (List.mem_reverse.1 (getD_mem' (d := 0) hk'))
    have hyp : par (sz ts) (((lb (elKid ts p) x).reverse).getD k 0) = some p := by have h := hm.2; simp [elKid] at h; exact h.1
    have hyl : ((lb (elKid ts p) x).reverse).getD k 0 < len := by have := hm.1; omega
    rw [map_getD hk', List.getElem?_map, ← head_drop, ← hd]
    obtain ⟨y, hy⟩ : ∃ y, ((lb (elKid ts p) x).reverse).getD k 0 = y := ⟨_, rfl⟩
    rw [hy] at hyp hyl ⊢
    have h := iterPrev_m1 (w.heap.size + 1) w.heap.size (w.heap.size + 1 + 1) y p (.pointer (some ⟨nb y, 0, none⟩)) w' bl len nb vv ts hF' hR hyl hyp c1 (.inl rfl)
    exact h

set_option maxRecDepth 100000 in
set_option maxHeartbeats 2000000 in
theorem clo_m1 {B : Nat} (i : Int) (x p bst bf : Nat) (f : Value) (w : World) (bl len : Nat) (nb : Nat → Nat) (vv : Nat → Value) (ts : List NodeD) (hF : Forest B w bl len nb vv ts) (hR : RightT ts len) (hx : x < len) (hp : par (sz ts) x = some p) (cst : w.cell? ⟨bst, 0, none⟩ = some (.int .i64 (-1))) (cf : w.cell? ⟨bf, 0, none⟩ = some f) :
    Calls Tryz.prog 104 #[.int .i64 i, .pointer (some ⟨nb x, 0, none⟩), .pointer (some ⟨bst, 0, none⟩), .pointer (some ⟨bf, 0, none⟩)] w (OwnPtrsPost ((((lb (elKid ts p) x).reverse).take 1).map nb) w) := by
  have hLn : ((lb (elKid ts p) x).reverse).length ≤ 200 := by have := hR.le; rw [List.length_reverse]; have h := lb_length_le (P := elKid ts p) x; omega
  have hFd : Forest B w.drew bl len nb vv ts := hF.below (Below.refl _ _).drew
  have hh := hit_m1 x p w.drew _ bl len nb vv ts hFd hR hx hp rfl
  have hk := kids_m1 (some ⟨nb p, 0, none⟩) (some ⟨nb x, 0, none⟩) f (((lb (elKid ts p) x).reverse).map nb) w.drew _ (by rw [List.length_map]; exact hLn) rfl hh
  rw [← List.map_take] at hk
  have kx := (hF.node hx).par
  rw [show (nodeR (fun i => i + sz ts i) 0 nb (ts.getD x default) (vv x) x).par = (up (fun i => i + sz ts i) 0 x).map nb from rfl, up_par, hp, Option.map_some, lk_some] at kx
  obtain ⟨R, hR2⟩ : ∃ R, (((lb (elKid ts p) x).reverse).take 1).map nb = R := ⟨_, rfl⟩
  rw [hR2] at hk ⊢
  have HK := Lib.hid hk
  clear hk hh hF hFd hR hp hR2 hLn
  go_enter Tryz.func104, Tryz.ntmps104
  go_wp2
  go_still_tail 7, (by kernel_rfl)
  go_wp2_with fail
  refine HK.out.mono ?_
  rintro e w1 ⟨v, rfl, ho, hb⟩
  have hb1 : Hid (Below w.heap.size w w1) := Lib.hid ((Below.refl _ _).drew.trans hb.out)
  go_wp2
  go_ret
  exact ⟨v, rfl, ho, hb1⟩

theorem hit_3 {B : Nat} (x p : Nat) (w w3 : World) (bl len : Nat) (nb : Nat → Nat) (vv : Nat → Value) (ts : List NodeD) (hF : Forest B w bl len nb vv ts) (hR : RightT ts len) (hx : x < len) (hp : par (sz ts) x = some p)
    (hw3 : w3 = ((w.alloc (.cells #[.pointer (some ⟨nb p, 0, none⟩)] 75)).alloc (.cells #[.int .i64 3] 103)).alloc (.cells #[.pointer (some ⟨nb x, 0, none⟩)] 75)) :
    ∀ w', Below w3.heap.size w3 w' → Calls Tryz.prog 110 #[.pointer none, .pointer (some ⟨w.heap.size + 1, 0, none⟩), .pointer (some ⟨w.heap.size, 0, none⟩), .pointer (some ⟨w.heap.size + 1 + 1, 0, none⟩)] w' (LkPost ((rb (elKid ts p) (x + 1) (len - (x + 1))).map nb)[0]? w') ∧
      ∀ k, k < ((rb (elKid ts p) (x + 1) (len - (x + 1))).map nb).length → Calls Tryz.prog 110 #[.pointer (some ⟨((rb (elKid ts p) (x + 1) (len - (x + 1))).map nb).getD k 0, 0, none⟩), .pointer (some ⟨w.heap.size + 1, 0, none⟩), .pointer (some ⟨w.heap.size, 0, none⟩), .pointer (some ⟨w.heap.size + 1 + 1, 0, none⟩)] w' (LkPost ((rb (elKid ts p) (x + 1) (len - (x + 1))).map nb)[k + 1]? w') := by
  intro w' hb
  have hpn : p < len := by have := (par_some hp).1; omega
  have hb3 : Below w.heap.size w w3 := by rw [hw3]; exact (((Below.refl _ _).alloc (Nat.le_refl _) _).alloc (by simp) _).alloc (by simp; omega) _
  have hF' : Forest B w' bl len nb vv ts := hF.below (hb3.trans (hb.mono hb3.size))
  have c2 : w'.cell? ⟨w.heap.size, 0, none⟩ = some (.pointer (some ⟨nb p, 0, none⟩)) := cell_below hb (by rw [hw3]; exact cell_alloc_old (cell_alloc_old (cell_alloc_new' _ _ _ rfl rfl) _) _)
  have c1 : w'.cell? ⟨w.heap.size + 1, 0, none⟩ = some (.int .i64 3) := cell_below hb (by rw [hw3]; exact cell_alloc_old (cell_alloc_new' _ _ _ (by simp) rfl) _)
  have c3 : w'.cell? ⟨w.heap.size + 1 + 1, 0, none⟩ = some (.pointer (some ⟨nb x, 0, none⟩)) := cell_below hb (by rw [hw3]; exact cell_alloc_new' _ _ _ (by simp) rfl)
  constructor
  · rw [List.getElem?_map, ← List.head?_eq_getElem?]
    have h := iterNext_3 (w.heap.size + 1) w.heap.size (w.heap.size + 1 + 1) x p (.pointer none) w' bl len nb vv ts hF' hR hx hp c1 (.inr ⟨rfl, c3⟩)
    exact h
  · intro k hk
    have hk' : k < (rb (elKid ts p) (x + 1) (len - (x + 1))).length := by simpa using hk
    have hd := chain_drop (S := fun y => rb (elKid ts p) (y + 1) (len - (y + 1))) rb_chain k x _ rfl hk' 
    have hm := rb_mem.1 (getD_mem' (d := 0) hk')
    have hyp : par (sz ts) ((rb (elKid ts p) (x + 1) (len - (x + 1))).getD k 0) = some p := by have h := hm.2.2; simp [elKid] at h; exact h.1
    have hyl : (rb (elKid ts p) (x + 1) (len - (x + 1))).getD k 0 < len := by have := hm.2.1; omega
    rw [map_getD hk', List.getElem?_map, ← head_drop, ← hd]
    obtain ⟨y, hy⟩ : ∃ y, (rb (elKid ts p) (x + 1) (len - (x + 1))).getD k 0 = y := ⟨_, rfl⟩
    rw [hy] at hyp hyl ⊢
    have h := iterNext_3 (w.heap.size + 1) w.heap.size (w.heap.size + 1 + 1) y p (.pointer (some ⟨nb y, 0, none⟩)) w' bl len nb vv ts hF' hR hyl hyp c1 (.inl rfl)
    exact h

set_option maxRecDepth 100000 in
set_option maxHeartbeats 2000000 in
theorem clo_3 {B : Nat} (i : Int) (x p bst bf : Nat) (w : World) (bl len : Nat) (nb : Nat → Nat) (vv : Nat → Value) (ts : List NodeD) (hF : Forest B w bl len nb vv ts) (hR : RightT ts len) (hx : x < len) (hp : par (sz ts) x = some p) (cst : w.cell? ⟨bst, 0, none⟩ = some (.int .i64 3)) (b4 b5 : Nat) (U : Nat → Bool) (Ub : Nat → Bool) (hU : ∀ y, y < len → U y = Ub (nb y))
    (hun : ∀ w', Below w.heap.size w w' → ∀ y, y < len → Calls Tryz.prog 103 #[.pointer (some ⟨nb y, 0, none⟩), .pointer (some ⟨b4, 0, none⟩), .pointer (some ⟨b5, 0, none⟩)] w' (StrEqB (U y) w')) (cf : w.cell? ⟨bf, 0, none⟩ = some (.func (.func 103) #[] #[.pointer (some ⟨b4, 0, none⟩), .pointer (some ⟨b5, 0, none⟩)])) :
    Calls Tryz.prog 104 #[.int .i64 i, .pointer (some ⟨nb x, 0, none⟩), .pointer (some ⟨bst, 0, none⟩), .pointer (some ⟨bf, 0, none⟩)] w (OwnPtrsPost ((upToL U (rb (elKid ts p) (x + 1) (len - (x + 1)))).map nb) w) := by
  have hLn : (rb (elKid ts p) (x + 1) (len - (x + 1))).length ≤ 200 := by have := hR.le; have h := rb_len (P := elKid ts p) (len - (x + 1)) (x + 1); omega
  have hFd : Forest B w.drew bl len nb vv ts := hF.below (Below.refl _ _).drew
  have hh := hit_3 x p w.drew _ bl len nb vv ts hFd hR hx hp rfl
  have hk := kids_3 (some ⟨nb p, 0, none⟩) (some ⟨nb x, 0, none⟩) ((rb (elKid ts p) (x + 1) (len - (x + 1))).map nb) w.drew _ (by rw [List.length_map]; exact hLn) rfl b4 b5 Ub hh (fun w' hb k hkl => by
    have hk' : k < (rb (elKid ts p) (x + 1) (len - (x + 1))).length := by simpa using hkl
    rw [map_getD hk']
    have hq := getD_mem' (d := 0) hk'
    have hql : (rb (elKid ts p) (x + 1) (len - (x + 1))).getD k 0 < len := (by have := (rb_mem.1 hq).2.1; omega)
    rw [← hU _ hql]
    have hb3 : Below w.heap.size w w' := ((Below.refl _ _).drew.trans ((((Below.refl _ _).alloc (Nat.le_refl _) _).alloc (by simp) _).alloc (by simp; omega) _)).trans (hb.mono (by simp; omega))
    exact hun w' hb3 _ hql)
  rw [show upToL Ub ((rb (elKid ts p) (x + 1) (len - (x + 1))).map nb) = (upToL U (rb (elKid ts p) (x + 1) (len - (x + 1)))).map nb from upTo_map (len := len) (fun q hq => (by have := (rb_mem.1 hq).2.1; omega)) hU] at hk
  have kx := (hF.node hx).par
  rw [show (nodeR (fun i => i + sz ts i) 0 nb (ts.getD x default) (vv x) x).par = (up (fun i => i + sz ts i) 0 x).map nb from rfl, up_par, hp, Option.map_some, lk_some] at kx
  obtain ⟨R, hR2⟩ : ∃ R, (upToL U (rb (elKid ts p) (x + 1) (len - (x + 1)))).map nb = R := ⟨_, rfl⟩
  rw [hR2] at hk ⊢
  have HK := Lib.hid hk
  clear hk hh hF hFd hR hp hR2 hLn hU hun
  go_enter Tryz.func104, Tryz.ntmps104
  go_wp2
  go_still_tail 7, (by kernel_rfl)
  go_wp2_with fail
  refine HK.out.mono ?_
  rintro e w1 ⟨v, rfl, ho, hb⟩
  have hb1 : Hid (Below w.heap.size w w1) := Lib.hid ((Below.refl _ _).drew.trans hb.out)
  go_wp2
  go_ret
  exact ⟨v, rfl, ho, hb1⟩

theorem hit_m3 {B : Nat} (x p : Nat) (w w3 : World) (bl len : Nat) (nb : Nat → Nat) (vv : Nat → Value) (ts : List NodeD) (hF : Forest B w bl len nb vv ts) (hR : RightT ts len) (hx : x < len) (hp : par (sz ts) x = some p)
    (hw3 : w3 = ((w.alloc (.cells #[.pointer (some ⟨nb p, 0, none⟩)] 75)).alloc (.cells #[.int .i64 (-3)] 103)).alloc (.cells #[.pointer (some ⟨nb x, 0, none⟩)] 75)) :
    ∀ w', Below w3.heap.size w3 w' → Calls Tryz.prog 110 #[.pointer none, .pointer (some ⟨w.heap.size + 1, 0, none⟩), .pointer (some ⟨w.heap.size, 0, none⟩), .pointer (some ⟨w.heap.size + 1 + 1, 0, none⟩)] w' (LkPost (((lb (elKid ts p) x).reverse).map nb)[0]? w') ∧
      ∀ k, k < (((lb (elKid ts p) x).reverse).map nb).length → Calls Tryz.prog 110 #[.pointer (some ⟨(((lb (elKid ts p) x).reverse).map nb).getD k 0, 0, none⟩), .pointer (some ⟨w.heap.size + 1, 0, none⟩), .pointer (some ⟨w.heap.size, 0, none⟩), .pointer (some ⟨w.heap.size + 1 + 1, 0, none⟩)] w' (LkPost (((lb (elKid ts p) x).reverse).map nb)[k + 1]? w') := by
  intro w' hb
  have hpn : p < len := by have := (par_some hp).1; omega
  have hb3 : Below w.heap.size w w3 := by rw [hw3]; exact (((Below.refl _ _).alloc (Nat.le_refl _) _).alloc (by simp) _).alloc (by simp; omega) _
  have hF' : Forest B w' bl len nb vv ts := hF.below (hb3.trans (hb.mono hb3.size))
  have c2 : w'.cell? ⟨w.heap.size, 0, none⟩ = some (.pointer (some ⟨nb p, 0, none⟩)) := cell_below hb (by rw [hw3]; exact cell_alloc_old (cell_alloc_old (cell_alloc_new' _ _ _ rfl rfl) _) _)
  have c1 : w'.cell? ⟨w.heap.size + 1, 0, none⟩ = some (.int .i64 (-3)) := cell_below hb (by rw [hw3]; exact cell_alloc_old (cell_alloc_new' _ _ _ (by simp) rfl) _)
  have c3 : w'.cell? ⟨w.heap.size + 1 + 1, 0, none⟩ = some (.pointer (some ⟨nb x, 0, none⟩)) := cell_below hb (by rw [hw3]; exact cell_alloc_new' _ _ _ (by simp) rfl)
  constructor
  · rw [List.getElem?_map, ← List.head?_eq_getElem?]
    have h := iterPrev_m3 (w.heap.size + 1) w.heap.size (w.heap.size + 1 + 1) x p (.pointer none) w' bl len nb vv ts hF' hR hx hp c1 (.inr ⟨rfl, c3⟩)
    exact h
  · intro k hk
    have hk' : k < ((lb (elKid ts p) x).reverse).length := by simpa using hk
    have hd := chain_drop (S := fun y => (lb (elKid ts p) y).reverse) (fun y q r h => lb_cons h) k x _ rfl hk' 
    have hm := lb_mem (List.mem_reverse.1 (getD_mem' (d := 0) hk'))
    have hyp : par (sz ts) (((lb (elKid ts p) x).reverse).getD k 0) = some p := by have h := hm.2; simp [elKid] at h; exact h.1
    have hyl : ((lb (elKid ts p) x).reverse).getD k 0 < len := by have := hm.1; omega
    rw [map_getD hk', List.getElem?_map, ← head_drop, ← hd]
    obtain ⟨y, hy⟩ : ∃ y, ((lb (elKid ts p) x).reverse).getD k 0 = y := ⟨_, rfl⟩
    rw [hy] at hyp hyl ⊢
    have h := iterPrev_m3 (w.heap.size + 1) w.heap.size (w.heap.size + 1 + 1) y p (.pointer (some ⟨nb y, 0, none⟩)) w' bl len nb vv ts hF' hR hyl hyp c1 (.inl rfl)
    exact h

set_option maxRecDepth 100000 in
set_option maxHeartbeats 2000000 in
theorem clo_m3 {B : Nat} (i : Int) (x p bst bf : Nat) (w : World) (bl len : Nat) (nb : Nat → Nat) (vv : Nat → Value) (ts : List NodeD) (hF : Forest B w bl len nb vv ts) (hR : RightT ts len) (hx : x < len) (hp : par (sz ts) x = some p) (cst : w.cell? ⟨bst, 0, none⟩ = some (.int .i64 (-3))) (b4 b5 : Nat) (U : Nat → Bool) (Ub : Nat → Bool) (hU : ∀ y, y < len → U y = Ub (nb y))
    (hun : ∀ w', Below w.heap.size w w' → ∀ y, y < len → Calls Tryz.prog 103 #[.pointer (some ⟨nb y, 0, none⟩), .pointer (some ⟨b4, 0, none⟩), .pointer (some ⟨b5, 0, none⟩)] w' (StrEqB (U y) w')) (cf : w.cell? ⟨bf, 0, none⟩ = some (.func (.func 103) #[] #[.pointer (some ⟨b4, 0, none⟩), .pointer (some ⟨b5, 0, none⟩)])) :
    Calls Tryz.prog 104 #[.int .i64 i, .pointer (some ⟨nb x, 0, none⟩), .pointer (some ⟨bst, 0, none⟩), .pointer (some ⟨bf, 0, none⟩)] w (OwnPtrsPost ((upToL U ((lb (elKid ts p) x).reverse)).map nb) w) := by
  have hLn : ((lb (elKid ts p) x).reverse).length ≤ 200 := by have := hR.le; rw [List.length_reverse]; have h := lb_length_le (P := elKid ts p) x; omega
  have hFd : Forest B w.drew bl len nb vv ts := hF.below (Below.refl _ _).drew
  have hh := hit_m3 x p w.drew _ bl len nb vv ts hFd hR hx hp rfl
  have hk := kids_m3 (some ⟨nb p, 0, none⟩) (some ⟨nb x, 0, none⟩) (((lb (elKid ts p) x).reverse).map nb) w.drew _ (by rw [List.length_map]; exact hLn) rfl b4 b5 Ub hh (fun w' hb k hkl => by
    have hk' : k < ((lb (elKid ts p) x).reverse).length := by simpa using hkl
    rw [map_getD hk']
    have hq := getD_mem' (d := 0) hk'
    have hql : ((lb (elKid ts p) x).reverse).getD k 0 < len := (by have := (lb_mem (List.mem_reverse.1 hq)).1; omega)
    rw [← hU _ hql]
    have hb3 : Below w.heap.size w w' := ((Below.refl _ _).drew.trans ((((Below.refl _ _).alloc (Nat.le_refl _) _).alloc (by simp) _).alloc (by simp; omega) _)).trans (hb.mono (by simp; omega))
    exact hun w' hb3 _ hql)
  rw [show upToL Ub (((lb (elKid ts p) x).reverse).map nb) = (upToL U ((lb (elKid ts p) x).reverse)).map nb from upTo_map (len := len) (fun q hq => (by have := (lb_mem (List.mem_reverse.1 hq)).1; omega)) hU] at hk
  have kx := (hF.node hx).par
  rw [show (nodeR (fun i => i + sz ts i) 0 nb (ts.getD x default) (vv x) x).par = (up (fun i => i + sz ts i) 0 x).map nb from rfl, up_par, hp, Option.map_some, lk_some] at kx
  obtain ⟨R, hR2⟩ : ∃ R, (upToL U ((lb (elKid ts p) x).reverse)).map nb = R := ⟨_, rfl⟩
  rw [hR2] at hk ⊢
  have HK := Lib.hid hk
  clear hk hh hF hFd hR hp hR2 hLn hU hun
  go_enter Tryz.func104, Tryz.ntmps104
  go_wp2
  go_still_tail 7, (by kernel_rfl)
  go_wp2_with fail
  refine HK.out.mono ?_
  rintro e w1 ⟨v, rfl, ho, hb⟩
  have hb1 : Hid (Below w.heap.size w w1) := Lib.hid ((Below.refl _ _).drew.trans hb.out)
  go_wp2
  go_ret
  exact ⟨v, rfl, ho, hb1⟩

theorem hit_m2 {B : Nat} (x p : Nat) (w w3 : World) (bl len : Nat) (nb : Nat → Nat) (vv : Nat → Value) (ts : List NodeD) (hF : Forest B w bl len nb vv ts) (hR : RightT ts len) (hx : x < len) (hp : par (sz ts) x = some p)
    (hw3 : w3 = ((w.alloc (.cells #[.pointer (some ⟨nb p, 0, none⟩)] 75)).alloc (.cells #[.int .i64 (-2)] 103)).alloc (.cells #[.pointer (some ⟨nb x, 0, none⟩)] 75)) :
    ∀ w', Below w3.heap.size w3 w' → Calls Tryz.prog 110 #[.pointer none, .pointer (some ⟨w.heap.size + 1, 0, none⟩), .pointer (some ⟨w.heap.size, 0, none⟩), .pointer (some ⟨w.heap.size + 1 + 1, 0, none⟩)] w' (LkPost (((lb (elKid ts p) x).reverse).map nb)[0]? w') ∧
      ∀ k, k < (((lb (elKid ts p) x).reverse).map nb).length → Calls Tryz.prog 110 #[.pointer (some ⟨(((lb (elKid ts p) x).reverse).map nb).getD k 0, 0, none⟩), .pointer (some ⟨w.heap.size + 1, 0, none⟩), .pointer (some ⟨w.heap.size, 0, none⟩), .pointer (some ⟨w.heap.size + 1 + 1, 0, none⟩)] w' (LkPost (((lb (elKid ts p) x).reverse).map nb)[k + 1]? w') := by
  intro w' hb
  have hpn : p < len := by have := (par_some hp).1; omega
  have hb3 : Below w.heap.size w w3 := by rw [hw3]; exact (((Below.refl _ _).alloc (Nat.le_refl _) _).alloc (by simp) _).alloc (by simp; omega) _
  have hF' : Forest B w' bl len nb vv ts := hF.below (hb3.trans (hb.mono hb3.size))
  have c2 : w'.cell? ⟨w.heap.size, 0, none⟩ = some (.pointer (some ⟨nb p, 0, none⟩)) := cell_below hb (by rw [hw3]; exact cell_alloc_old (cell_alloc_old (cell_alloc_new' _ _ _ rfl rfl) _) _)
  have c1 : w'.cell? ⟨w.heap.size + 1, 0, none⟩ = some (.int .i64 (-2)) := cell_below hb (by rw [hw3]; exact cell_alloc_old (cell_alloc_new' _ _ _ (by simp) rfl) _)
  have c3 : w'.cell? ⟨w.heap.size + 1 + 1, 0, none⟩ = some (.pointer (some ⟨nb x, 0, none⟩)) := cell_below hb (by rw [hw3]; exact cell_alloc_new' _ _ _ (by simp) rfl)
  constructor
  · rw [List.getElem?_map, ← List.head?_eq_getElem?]
    have h := iterPrev_m2 (w.heap.size + 1) w.heap.size (w.heap.size + 1 + 1) x p (.pointer none) w' bl len nb vv ts hF' hR hx hp c1 (.inr ⟨rfl, c3⟩)
    exact h
  · intro k hk
    have hk' : k < ((lb (elKid ts p) x).reverse).length := by simpa using hk
    have hd := chain_drop (S := fun y => (lb (elKid ts p) y).reverse) (fun y q r h => lb_cons h) k x _ rfl hk' 
    have hm := lb_mem (List.mem_reverse.1 (getD_mem' (d := 0) hk'))
    have hyp : par (sz ts) (((lb (elKid ts p) x).reverse).getD k 0) = some p := by have h := hm.2; simp [elKid] at h; exact h.1
    have hyl : ((lb (elKid ts p) x).reverse).getD k 0 < len := by have := hm.1; omega
    rw [map_getD hk', List.getElem?_map, ← head_drop, ← hd]
    obtain ⟨y, hy⟩ : ∃ y, ((lb (elKid ts p) x).reverse).getD k 0 = y := ⟨_, rfl⟩
    rw [hy] at hyp hyl ⊢
    have h := iterPrev_m2 (w.heap.size + 1) w.heap.size (w.heap.size + 1 + 1) y p (.pointer (some ⟨nb y, 0, none⟩)) w' bl len nb vv ts hF' hR hyl hyp c1 (.inl rfl)
    exact h

set_option maxRecDepth 100000 in
set_option maxHeartbeats 2000000 in
theorem clo_m2 {B : Nat} (i : Int) (x p bst bf : Nat) (f : Value) (w : World) (bl len : Nat) (nb : Nat → Nat) (vv : Nat → Value) (ts : List NodeD) (hF : Forest B w bl len nb vv ts) (hR : RightT ts len) (hx : x < len) (hp : par (sz ts) x = some p) (cst : w.cell? ⟨bst, 0, none⟩ = some (.int .i64 (-2))) (cf : w.cell? ⟨bf, 0, none⟩ = some f) :
    Calls Tryz.prog 104 #[.int .i64 i, .pointer (some ⟨nb x, 0, none⟩), .pointer (some ⟨bst, 0, none⟩), .pointer (some ⟨bf, 0, none⟩)] w (OwnPtrsPost (((lb (elKid ts p) x).reverse).map nb) w) := by
  have hLn : ((lb (elKid ts p) x).reverse).length ≤ 200 := by have := hR.le; rw [List.length_reverse]; have h := lb_length_le (P := elKid ts p) x; omega
  have hFd : Forest B w.drew bl len nb vv ts := hF.below (Below.refl _ _).drew
  have hh := hit_m2 x p w.drew _ bl len nb vv ts hFd hR hx hp rfl
  have hk := kids_m2 (some ⟨nb p, 0, none⟩) (some ⟨nb x, 0, none⟩) f (((lb (elKid ts p) x).reverse).map nb) w.drew _ (by rw [List.length_map]; exact hLn) rfl hh
  have kx := (hF.node hx).par
  rw [show (nodeR (fun i => i + sz ts i) 0 nb (ts.getD x default) (vv x) x).par = (up (fun i => i + sz ts i) 0 x).map nb from rfl, up_par, hp, Option.map_some, lk_some] at kx
  obtain ⟨R, hR2⟩ : ∃ R, ((lb (elKid ts p) x).reverse).map nb = R := ⟨_, rfl⟩
  rw [hR2] at hk ⊢
  have HK := Lib.hid hk
  clear hk hh hF hFd hR hp hR2 hLn
  go_enter Tryz.func104, Tryz.ntmps104
  go_wp2
  go_still_tail 7, (by kernel_rfl)
  go_wp2_with fail
  refine HK.out.mono ?_
  rintro e w1 ⟨v, rfl, ho, hb⟩
  have hb1 : Hid (Below w.heap.size w w1) := Lib.hid ((Below.refl _ _).drew.trans hb.out)
  go_wp2
  go_ret
  exact ⟨v, rfl, ho, hb1⟩

theorem hit_kid {B : Nat} (x : Nat) (w w3 : World) (bl len : Nat) (nb : Nat → Nat) (vv : Nat → Value) (ts : List NodeD) (hF : Forest B w bl len nb vv ts) (hR : RightT ts len) (hx : x < len)
    (hw3 : w3 = ((w.alloc (.cells #[.pointer (some ⟨nb x, 0, none⟩)] 75)).alloc (.cells #[.int .i64 0] 103)).alloc (.cells #[.pointer (none)] 75)) :
    ∀ w', Below w3.heap.size w3 w' → Calls Tryz.prog 110 #[.pointer none, .pointer (some ⟨w.heap.size + 1, 0, none⟩), .pointer (some ⟨w.heap.size, 0, none⟩), .pointer (some ⟨w.heap.size + 1 + 1, 0, none⟩)] w' (LkPost ((rb (elKid ts x) (x + 1) (len - (x + 1))).map nb)[0]? w') ∧
      ∀ k, k < ((rb (elKid ts x) (x + 1) (len - (x + 1))).map nb).length → Calls Tryz.prog 110 #[.pointer (some ⟨((rb (elKid ts x) (x + 1) (len - (x + 1))).map nb).getD k 0, 0, none⟩), .pointer (some ⟨w.heap.size + 1, 0, none⟩), .pointer (some ⟨w.heap.size, 0, none⟩), .pointer (some ⟨w.heap.size + 1 + 1, 0, none⟩)] w' (LkPost ((rb (elKid ts x) (x + 1) (len - (x + 1))).map nb)[k + 1]? w') := by
  intro w' hb
  have hb3 : Below w.heap.size w w3 := by rw [hw3]; exact (((Below.refl _ _).alloc (Nat.le_refl _) _).alloc (by simp) _).alloc (by simp; omega) _
  have hF' : Forest B w' bl len nb vv ts := hF.below (hb3.trans (hb.mono hb3.size))
  have c2 : w'.cell? ⟨w.heap.size, 0, none⟩ = some (.pointer (some ⟨nb x, 0, none⟩)) := cell_below hb (by rw [hw3]; exact cell_alloc_old (cell_alloc_old (cell_alloc_new' _ _ _ rfl rfl) _) _)
  have c1 : w'.cell? ⟨w.heap.size + 1, 0, none⟩ = some (.int .i64 0) := cell_below hb (by rw [hw3]; exact cell_alloc_old (cell_alloc_new' _ _ _ (by simp) rfl) _)
  have c3 : w'.cell? ⟨w.heap.size + 1 + 1, 0, none⟩ = some (.pointer none) := cell_below hb (by rw [hw3]; exact cell_alloc_new' _ _ _ (by simp) rfl)
  constructor
  · rw [List.getElem?_map, ← List.head?_eq_getElem?]
    have h := iterAll_none (w.heap.size + 1) w.heap.size (w.heap.size + 1 + 1) x x (.pointer none) w' bl len nb vv ts hF' hR hx hx c1 c2 c3 (.inl ⟨rfl, rfl⟩)
    exact h
  · intro k hk
    have hk' : k < (rb (elKid ts x) (x + 1) (len - (x + 1))).length := by simpa using hk
    have hd := chain_drop (S := fun y => rb (elKid ts x) (y + 1) (len - (y + 1))) rb_chain k x _ rfl hk'
    have hm := rb_mem.1 (getD_mem' (d := 0) hk')
    have hyp : par (sz ts) ((rb (elKid ts x) (x + 1) (len - (x + 1))).getD k 0) = some x := by have h := hm.2.2; simp [elKid] at h; exact h.1
    have hyl : (rb (elKid ts x) (x + 1) (len - (x + 1))).getD k 0 < len := by have := hm.2.1; omega
    rw [map_getD hk', List.getElem?_map, ← head_drop, ← hd]
    obtain ⟨y, hy⟩ : ∃ y, (rb (elKid ts x) (x + 1) (len - (x + 1))).getD k 0 = y := ⟨_, rfl⟩
    rw [hy] at hyp hyl ⊢
    have h := iterAll_none (w.heap.size + 1) w.heap.size (w.heap.size + 1 + 1) x y (.pointer (some ⟨nb y, 0, none⟩)) w' bl len nb vv ts hF' hR hx hyl c1 c2 c3 (.inr ⟨rfl, hyp⟩)
    exact h

set_option maxRecDepth 100000 in
set_option maxHeartbeats 2000000 in
theorem clo_kid {B : Nat} (i : Int) (x bst : Nat) (w : World) (bl len : Nat) (nb : Nat → Nat) (vv : Nat → Value) (ts : List NodeD) (hF : Forest B w bl len nb vv ts) (hR : RightT ts len) (hx : x < len) (cst : w.cell? ⟨bst, 0, none⟩ = some (.int .i64 0)) :
    Calls Tryz.prog 106 #[.int .i64 i, .pointer (some ⟨nb x, 0, none⟩), .pointer (some ⟨bst, 0, none⟩)] w (OwnPtrsPost ((rb (elKid ts x) (x + 1) (len - (x + 1))).map nb) w) := by
  have hLn : (rb (elKid ts x) (x + 1) (len - (x + 1))).length ≤ 200 := by have := hR.le; have h := rb_len (P := elKid ts x) (len - (x + 1)) (x + 1); omega
  have hh := hit_kid x w _ bl len nb vv ts hF hR hx rfl
  have hk := kids_0 (some ⟨nb x, 0, none⟩) none .nilFunc ((rb (elKid ts x) (x + 1) (len - (x + 1))).map nb) w _ (by rw [List.length_map]; exact hLn) rfl hh
  obtain ⟨R, hR2⟩ : ∃ R, (rb (elKid ts x) (x + 1) (len - (x + 1))).map nb = R := ⟨_, rfl⟩
  rw [hR2] at hk ⊢
  have HK := Lib.hid hk
  clear hk hh hF hR hR2 hLn
  go_enter Tryz.func106, Tryz.ntmps106
  go_wp2_with fail
  refine HK.out.mono ?_
  rintro e w1 ⟨v, rfl, ho, hb⟩
  go_wp2
  go_ret
  exact ⟨v, rfl, ho, hb⟩

end Go.Proofs.YtphppdbhofeagaaGreat

namespace Go.Proofs.YtphppdbhofeagaaGreat
open Go.RowKit
set_option linter.unusedVariables false
set_option linter.unusedSimpArgs false

/-- The brothers of a place: behind, ahead (the nearest first), all; the kids: those that are elements. -/
def nextL (ts : List NodeD) (len x : Nat) : List Nat := match par (sz ts) x with | some p => rb (elKid ts p) (x + 1) (len - (x + 1)) | none => []
def prevL (ts : List NodeD) (x : Nat) : List Nat := match par (sz ts) x with | some p => (lb (elKid ts p) x).reverse | none => []
def sibL (ts : List NodeD) (len x : Nat) : List Nat := match par (sz ts) x with | some p => rb (elSkip ts p x) (p + 1) (len - (p + 1)) | none => []
def kidL (ts : List NodeD) (len x : Nat) : List Nat := rb (elKid ts x) (x + 1) (len - (x + 1))

theorem nextL_of {ts : List NodeD} {len x p : Nat} (h : par (sz ts) x = some p) : nextL ts len x = rb (elKid ts p) (x + 1) (len - (x + 1)) := by unfold nextL; rw [h]
theorem prevL_of {ts : List NodeD} {x p : Nat} (h : par (sz ts) x = some p) : prevL ts x = (lb (elKid ts p) x).reverse := by unfold prevL; rw [h]
theorem sibL_of {ts : List NodeD} {len x p : Nat} (h : par (sz ts) x = some p) : sibL ts len x = rb (elSkip ts p x) (p + 1) (len - (p + 1)) := by unfold sibL; rw [h]

/-- A row of places within bounds, each once. -/
structure GoodL (len : Nat) (l : List Nat) : Prop where
  lt : ∀ p ∈ l, p < len
  once : Once l
theorem GoodL.le {len : Nat} {l : List Nat} (h : GoodL len l) : l.length ≤ len := once_le h.once h.lt

theorem nextL_good (ts : List NodeD) (len x : Nat) (hx : x < len) : GoodL len (nextL ts len x) := by
  unfold nextL
  split
  · exact ⟨fun p hp => by have := (rb_mem.1 hp).2.1; omega, once_of_lt (rb_once _ _)⟩
  · exact ⟨by simp, fun i j hi => by simp at hi⟩
theorem prevL_good (ts : List NodeD) (len x : Nat) (hx : x < len) : GoodL len (prevL ts x) := by
  unfold prevL
  split
  · exact ⟨fun p hp => by have := (lb_mem (List.mem_reverse.1 hp)).1; omega, once_of_gt (lb_pairwise _)⟩
  · exact ⟨by simp, fun i j hi => by simp at hi⟩
theorem sibL_good (ts : List NodeD) (len x : Nat) (hx : x < len) : GoodL len (sibL ts len x) := by
  unfold sibL
  split
  · rename_i p h
    have := (par_some h).1
    exact ⟨fun q hq => by have := (rb_mem.1 hq).2.1; omega, once_of_lt (rb_once _ _)⟩
  · exact ⟨by simp, fun i j hi => by simp at hi⟩
theorem kidL_good (ts : List NodeD) (len x : Nat) (hx : x < len) : GoodL len (kidL ts len x) :=
  ⟨fun p hp => by have := (rb_mem.1 hp).2.1; omega, once_of_lt (rb_once _ _)⟩

theorem Once.sub {l m : List Nat} (h : Once m) (hs : l.Sublist m) : Once l := once_of_nodup (h.nodup.sublist hs)
theorem GoodL.take {len : Nat} {l : List Nat} (h : GoodL len l) (n : Nat) : GoodL len (l.take n) := ⟨fun p hp => h.lt p (List.mem_of_mem_take hp), h.once.sub (List.take_sublist _ _)⟩
theorem upTo_sub (U : Nat → Bool) : ∀ l : List Nat, (upToL U l).Sublist l := by
  intro l
  induction l with
  | nil => exact List.Sublist.refl _
  | cons x r ih =>
    simp only [upToL]
    split
    · exact List.nil_sublist _
    · exact List.Sublist.cons_cons _ ih
theorem GoodL.upTo {len : Nat} {l : List Nat} (h : GoodL len l) (U : Nat → Bool) : GoodL len (upToL U l) := ⟨fun p hp => h.lt p ((upTo_sub U l).subset hp), h.once.sub (upTo_sub U l)⟩

theorem flat_lt {l : List Nat} {F : Nat → List Nat} {len : Nat} (h : ∀ x ∈ l, GoodL len (F x)) : ∀ i ∈ onceF (l.flatMap F), i < len := fun i hi => by
  obtain ⟨x, hx, hxi⟩ := List.mem_flatMap.1 (onceF_mem.1 hi)
  exact (h x hx).lt i hxi

theorem setNew (w : World) (x u : Value) (t : TypeId) {b : Nat} (hb : b = w.heap.size) : ((w.alloc (.cells #[x] t)).setCell ⟨b, 0, none⟩ u).cell? ⟨b, 0, none⟩ = some u := by
  subst hb
  have := heap_setCell_same (w.alloc (.cells #[x] t)) w.heap.size 0 #[x] t u (heap_alloc_new w _)
  simp only [World.cell?, this]
  simp

set_option maxRecDepth 100000 in
set_option maxHeartbeats 1000000 in
theorem until_any (y b4 b5 : Nat) (v2 : Value) (L2 : List Nat) (w : World) (c4 : w.cell? ⟨b4, 0, none⟩ = some .nilIface) (c5 : w.cell? ⟨b5, 0, none⟩ = some v2) (h2 : PtrsOf w v2 L2) (hal : ∀ i, i < L2.length → Alive w (L2.getD i 0)) (hy : Alive w y) :
    Calls Tryz.prog 103 #[.pointer (some ⟨y, 0, none⟩), .pointer (some ⟨b4, 0, none⟩), .pointer (some ⟨b5, 0, none⟩)] w (StrEqB (decide (y ∈ L2)) w) := by
  have hin := isIn_any v2 L2 y w h2 hal hy
  obtain ⟨a, cap, hv, hm⟩ := h2.nil
  rw [List.length_map] at hv hm
  subst hv
  obtain ⟨q, hq⟩ : ∃ q, decide (y ∈ L2) = q := ⟨_, rfl⟩
  by_cases h0 : L2.length = 0
  · have hqf : q = false := by rw [← hq, List.eq_nil_of_length_eq_zero h0]; rfl
    rw [hq, hqf]
    rw [h0] at c5
    clear hin hq hqf h0 h2 hal hy
    go_enter Tryz.func103, Tryz.ntmps103
    go_wp2
    go_ret
    exact ⟨rfl, rfl⟩
  · rw [hq] at hin ⊢
    have g1 : (0 : Int) < (L2.length : Int) := by omega
    have g2 : decide ((0 : Int) < (L2.length : Int)) = true := decide_eq_true g1
    have g3 : decide (0 < L2.length) = true := decide_eq_true (by omega)
    have HIN := Lib.hid hin
    clear hin hq h0 h2 hal hy
    go_enter Tryz.func103, Tryz.ntmps103
    go_wp2_with fail
    refine HIN.out.mono ?_
    rintro e w1 ⟨rfl, rfl⟩
    go_wp2
    go_ret
    exact ⟨rfl, rfl⟩

def fn_2 (ts : List NodeD) (len : Nat) (x : Nat) : List Nat := nextL ts len x
theorem fn_2_good (ts : List NodeD) (len : Nat) (x : Nat) (h : x < len) : GoodL len (fn_2 ts len x) := (nextL_good ts len x h)

set_option maxRecDepth 100000 in
set_option maxHeartbeats 2000000 in
theorem getSib_2 {B : Nat} (v : Value) (l : List Nat) (w : World) (bl len : Nat) (nb : Nat → Nat) (vv : Nat → Value) (ts : List NodeD) (hF : Forest B w bl len nb vv ts) (hR : RightT ts len) (hv : PtrsOf w v (l.map nb)) (hin : ∀ i ∈ l, i < len) (hpos : ∀ i ∈ l, 0 < i) (hn : l.length ≤ 200) :
    Calls Tryz.prog 85 #[v, .int .i64 2, .nilIface, .slice none 0 0] w (OwnPtrsPost ((onceF (l.flatMap (fn_2 ts len))).map nb) w) := by
  have hlen := hR.le
  have hmap : ∀ w0, Below w.heap.size w w0 → w0.cell? ⟨w.heap.size, 0, none⟩ = some (.int .i64 2) → w0.cell? ⟨w.heap.size + 1 + 1 + 1, 0, none⟩ = some .nilFunc →
      Calls Tryz.prog 77 #[v, .func (.func 104) #[] #[.pointer (some ⟨w.heap.size, 0, none⟩), .pointer (some ⟨w.heap.size + 1 + 1 + 1, 0, none⟩)]] w0 (OwnPtrsPost ((onceF (l.flatMap (fn_2 ts len))).map nb) w0) := fun w0 hb c0 c3 =>
    mapManySib v _ _ l (fn_2 ts len) w0 bl len nb vv ts (hF.below hb) (hv.below hb) hn (fun x hx => (fn_2_good ts len x (hin x hx)).lt) (fun x hx => Nat.le_trans (fn_2_good ts len x (hin x hx)).le hlen) (fun x hx => (fn_2_good ts len x (hin x hx)).once) (fun k hk w' hb' => by
      have hmem := getD_mem' (d := 0) hk
      obtain ⟨p, hp⟩ := par_is hR.root (hin _ hmem) (hpos _ hmem)
      have hbw : Below w.heap.size w w' := hb.trans (hb'.mono hb.size)
      have hcl := clo_2 (k : Int) (l.getD k 0) p w.heap.size (w.heap.size + 1 + 1 + 1) .nilFunc w' bl len nb vv ts (hF.below hbw) hR (hin _ hmem) hp (cell_below hb' c0) (cell_below hb' c3)
      rw [← nextL_of (len := len) hp] at hcl
      exact hcl)
  obtain ⟨R, hR2⟩ : ∃ R, (onceF (l.flatMap (fn_2 ts len))).map nb = R := ⟨_, rfl⟩
  rw [hR2] at hmap ⊢
  have HM := Lib.hid hmap
  clear hmap hR2 hF hR hv hin hpos
  have hal : ∀ o1 o2 o3 o4, Below w.heap.size w ((((w.alloc o1).alloc o2).alloc o3).alloc o4) := fun o1 o2 o3 o4 => ((((Below.refl _ _).alloc (Nat.le_refl _) _).alloc (by simp) _).alloc (by simp; omega) _).alloc (by simp; omega) _
  have HAL := Lib.hid hal
  have hmf : ∀ (fn : Fn) (first cap : Array Value) (w : World), (Instr.makeFunc fn first cap).run Tryz.prog w = .ok (.func fn first cap) w := fun _ _ _ _ => rfl
  clear hal
  go_enter Tryz.func85, Tryz.ntmps85
  go_wp2_with fail
  refine (HM.out _ (HAL.out _ _ _ _) (by first | exact cell_alloc_old (cell_alloc_old (cell_alloc_old (cell_alloc_new' _ _ _ rfl rfl) _) _) _ | simp) (by first | exact cell_alloc_new' _ _ _ (by simp) rfl | simp)).mono ?_
  rintro e w1 ⟨v', rfl, ho, hb⟩
  have hbb : Below w.heap.size w w1 := HAL.out _ _ _ _ |>.trans (hb.out.mono (by simp; omega))
  have hown : Hid (OwnPtrs w1 w.heap.size v' R) := Lib.hid (ownsRow_base ho.out (by simp; omega))
  have HB := Lib.hid hbb
  clear ho hb hbb HM HAL
  go_wp2
  go_ret
  exact ⟨v', rfl, hown, HB⟩

def fn_0 (ts : List NodeD) (len : Nat) (x : Nat) : List Nat := sibL ts len x
theorem fn_0_good (ts : List NodeD) (len : Nat) (x : Nat) (h : x < len) : GoodL len (fn_0 ts len x) := (sibL_good ts len x h)

set_option maxRecDepth 100000 in
set_option maxHeartbeats 2000000 in
theorem getSib_0 {B : Nat} (v : Value) (l : List Nat) (w : World) (bl len : Nat) (nb : Nat → Nat) (vv : Nat → Value) (ts : List NodeD) (hF : Forest B w bl len nb vv ts) (hR : RightT ts len) (hv : PtrsOf w v (l.map nb)) (hin : ∀ i ∈ l, i < len) (hpos : ∀ i ∈ l, 0 < i) (hn : l.length ≤ 200) :
    Calls Tryz.prog 85 #[v, .int .i64 0, .nilIface, .slice none 0 0] w (OwnPtrsPost ((onceF (l.flatMap (fn_0 ts len))).map nb) w) := by
  have hlen := hR.le
  have hmap : ∀ w0, Below w.heap.size w w0 → w0.cell? ⟨w.heap.size, 0, none⟩ = some (.int .i64 0) → w0.cell? ⟨w.heap.size + 1 + 1 + 1, 0, none⟩ = some .nilFunc →
      Calls Tryz.prog 77 #[v, .func (.func 104) #[] #[.pointer (some ⟨w.heap.size, 0, none⟩), .pointer (some ⟨w.heap.size + 1 + 1 + 1, 0, none⟩)]] w0 (OwnPtrsPost ((onceF (l.flatMap (fn_0 ts len))).map nb) w0) := fun w0 hb c0 c3 =>
    mapManySib v _ _ l (fn_0 ts len) w0 bl len nb vv ts (hF.below hb) (hv.below hb) hn (fun x hx => (fn_0_good ts len x (hin x hx)).lt) (fun x hx => Nat.le_trans (fn_0_good ts len x (hin x hx)).le hlen) (fun x hx => (fn_0_good ts len x (hin x hx)).once) (fun k hk w' hb' => by
      have hmem := getD_mem' (d := 0) hk
      obtain ⟨p, hp⟩ := par_is hR.root (hin _ hmem) (hpos _ hmem)
      have hbw : Below w.heap.size w w' := hb.trans (hb'.mono hb.size)
      have hcl := clo_0 (k : Int) (l.getD k 0) p w.heap.size (w.heap.size + 1 + 1 + 1) .nilFunc w' bl len nb vv ts (hF.below hbw) hR (hin _ hmem) hp (cell_below hb' c0) (cell_below hb' c3)
      rw [← sibL_of (len := len) hp] at hcl
      exact hcl)
  obtain ⟨R, hR2⟩ : ∃ R, (onceF (l.flatMap (fn_0 ts len))).map nb = R := ⟨_, rfl⟩
  rw [hR2] at hmap ⊢
  have HM := Lib.hid hmap
  clear hmap hR2 hF hR hv hin hpos
  have hal : ∀ o1 o2 o3 o4, Below w.heap.size w ((((w.alloc o1).alloc o2).alloc o3).alloc o4) := fun o1 o2 o3 o4 => ((((Below.refl _ _).alloc (Nat.le_refl _) _).alloc (by simp) _).alloc (by simp; omega) _).alloc (by simp; omega) _
  have HAL := Lib.hid hal
  have hmf : ∀ (fn : Fn) (first cap : Array Value) (w : World), (Instr.makeFunc fn first cap).run Tryz.prog w = .ok (.func fn first cap) w := fun _ _ _ _ => rfl
  clear hal
  go_enter Tryz.func85, Tryz.ntmps85
  go_wp2_with fail
  refine (HM.out _ (HAL.out _ _ _ _) (by first | exact cell_alloc_old (cell_alloc_old (cell_alloc_old (cell_alloc_new' _ _ _ rfl rfl) _) _) _ | simp) (by first | exact cell_alloc_new' _ _ _ (by simp) rfl | simp)).mono ?_
  rintro e w1 ⟨v', rfl, ho, hb⟩
  have hbb : Below w.heap.size w w1 := HAL.out _ _ _ _ |>.trans (hb.out.mono (by simp; omega))
  have hown : Hid (OwnPtrs w1 w.heap.size v' R) := Lib.hid (ownsRow_base ho.out (by simp; omega))
  have HB := Lib.hid hbb
  clear ho hb hbb HM HAL
  go_wp2
  go_ret
  exact ⟨v', rfl, hown, HB⟩

def fn_1 (ts : List NodeD) (len : Nat) (x : Nat) : List Nat := (nextL ts len x).take 1
theorem fn_1_good (ts : List NodeD) (len : Nat) (x : Nat) (h : x < len) : GoodL len (fn_1 ts len x) := ((nextL_good ts len x h).take 1)

set_option maxRecDepth 100000 in
set_option maxHeartbeats 2000000 in
theorem getSib_1 {B : Nat} (v : Value) (l : List Nat) (w : World) (bl len : Nat) (nb : Nat → Nat) (vv : Nat → Value) (ts : List NodeD) (hF : Forest B w bl len nb vv ts) (hR : RightT ts len) (hv : PtrsOf w v (l.map nb)) (hin : ∀ i ∈ l, i < len) (hpos : ∀ i ∈ l, 0 < i) (hn : l.length ≤ 200) :
    Calls Tryz.prog 85 #[v, .int .i64 1, .nilIface, .slice none 0 0] w (OwnPtrsPost ((onceF (l.flatMap (fn_1 ts len))).map nb) w) := by
  have hlen := hR.le
  have hmap : ∀ w0, Below w.heap.size w w0 → w0.cell? ⟨w.heap.size, 0, none⟩ = some (.int .i64 1) → w0.cell? ⟨w.heap.size + 1 + 1 + 1, 0, none⟩ = some .nilFunc →
      Calls Tryz.prog 77 #[v, .func (.func 104) #[] #[.pointer (some ⟨w.heap.size, 0, none⟩), .pointer (some ⟨w.heap.size + 1 + 1 + 1, 0, none⟩)]] w0 (OwnPtrsPost ((onceF (l.flatMap (fn_1 ts len))).map nb) w0) := fun w0 hb c0 c3 =>
    mapManySib v _ _ l (fn_1 ts len) w0 bl len nb vv ts (hF.below hb) (hv.below hb) hn (fun x hx => (fn_1_good ts len x (hin x hx)).lt) (fun x hx => Nat.le_trans (fn_1_good ts len x (hin x hx)).le hlen) (fun x hx => (fn_1_good ts len x (hin x hx)).once) (fun k hk w' hb' => by
      have hmem := getD_mem' (d := 0) hk
      obtain ⟨p, hp⟩ := par_is hR.root (hin _ hmem) (hpos _ hmem)
      have hbw : Below w.heap.size w w' := hb.trans (hb'.mono hb.size)
      have hcl := clo_1 (k : Int) (l.getD k 0) p w.heap.size (w.heap.size + 1 + 1 + 1) .nilFunc w' bl len nb vv ts (hF.below hbw) hR (hin _ hmem) hp (cell_below hb' c0) (cell_below hb' c3)
      rw [← nextL_of (len := len) hp] at hcl
      exact hcl)
  obtain ⟨R, hR2⟩ : ∃ R, (onceF (l.flatMap (fn_1 ts len))).map nb = R := ⟨_, rfl⟩
  rw [hR2] at hmap ⊢
  have HM := Lib.hid hmap
  clear hmap hR2 hF hR hv hin hpos
  have hal : ∀ o1 o2 o3 o4, Below w.heap.size w ((((w.alloc o1).alloc o2).alloc o3).alloc o4) := fun o1 o2 o3 o4 => ((((Below.refl _ _).alloc (Nat.le_refl _) _).alloc (by simp) _).alloc (by simp; omega) _).alloc (by simp; omega) _
  have HAL := Lib.hid hal
  have hmf : ∀ (fn : Fn) (first cap : Array Value) (w : World), (Instr.makeFunc fn first cap).run Tryz.prog w = .ok (.func fn first cap) w := fun _ _ _ _ => rfl
  clear hal
  go_enter Tryz.func85, Tryz.ntmps85
  go_wp2_with fail
  refine (HM.out _ (HAL.out _ _ _ _) (by first | exact cell_alloc_old (cell_alloc_old (cell_alloc_old (cell_alloc_new' _ _ _ rfl rfl) _) _) _ | simp) (by first | exact cell_alloc_new' _ _ _ (by simp) rfl | simp)).mono ?_
  rintro e w1 ⟨v', rfl, ho, hb⟩
  have hbb : Below w.heap.size w w1 := HAL.out _ _ _ _ |>.trans (hb.out.mono (by simp; omega))
  have hown : Hid (OwnPtrs w1 w.heap.size v' R) := Lib.hid (ownsRow_base ho.out (by simp; omega))
  have HB := Lib.hid hbb
  clear ho hb hbb HM HAL
  go_wp2
  go_ret
  exact ⟨v', rfl, hown, HB⟩

def fn_m1 (ts : List NodeD) (len : Nat) (x : Nat) : List Nat := (prevL ts x).take 1
theorem fn_m1_good (ts : List NodeD) (len : Nat) (x : Nat) (h : x < len) : GoodL len (fn_m1 ts len x) := ((prevL_good ts len x h).take 1)

set_option maxRecDepth 100000 in
set_option maxHeartbeats 2000000 in
theorem getSib_m1 {B : Nat} (v : Value) (l : List Nat) (w : World) (bl len : Nat) (nb : Nat → Nat) (vv : Nat → Value) (ts : List NodeD) (hF : Forest B w bl len nb vv ts) (hR : RightT ts len) (hv : PtrsOf w v (l.map nb)) (hin : ∀ i ∈ l, i < len) (hpos : ∀ i ∈ l, 0 < i) (hn : l.length ≤ 200) :
    Calls Tryz.prog 85 #[v, .int .i64 (-1), .nilIface, .slice none 0 0] w (OwnPtrsPost ((onceF (l.flatMap (fn_m1 ts len))).map nb) w) := by
  have hlen := hR.le
  have hmap : ∀ w0, Below w.heap.size w w0 → w0.cell? ⟨w.heap.size, 0, none⟩ = some (.int .i64 (-1)) → w0.cell? ⟨w.heap.size + 1 + 1 + 1, 0, none⟩ = some .nilFunc →
      Calls Tryz.prog 77 #[v, .func (.func 104) #[] #[.pointer (some ⟨w.heap.size, 0, none⟩), .pointer (some ⟨w.heap.size + 1 + 1 + 1, 0, none⟩)]] w0 (OwnPtrsPost ((onceF (l.flatMap (fn_m1 ts len))).map nb) w0) := fun w0 hb c0 c3 =>
    mapManySib v _ _ l (fn_m1 ts len) w0 bl len nb vv ts (hF.below hb) (hv.below hb) hn (fun x hx => (fn_m1_good ts len x (hin x hx)).lt) (fun x hx => Nat.le_trans (fn_m1_good ts len x (hin x hx)).le hlen) (fun x hx => (fn_m1_good ts len x (hin x hx)).once) (fun k hk w' hb' => by
      have hmem := getD_mem' (d := 0) hk
      obtain ⟨p, hp⟩ := par_is hR.root (hin _ hmem) (hpos _ hmem)
      have hbw : Below w.heap.size w w' := hb.trans (hb'.mono hb.size)
      have hcl := clo_m1 (k : Int) (l.getD k 0) p w.heap.size (w.heap.size + 1 + 1 + 1) .nilFunc w' bl len nb vv ts (hF.below hbw) hR (hin _ hmem) hp (cell_below hb' c0) (cell_below hb' c3)
      rw [← prevL_of hp] at hcl
      exact hcl)
  obtain ⟨R, hR2⟩ : ∃ R, (onceF (l.flatMap (fn_m1 ts len))).map nb = R := ⟨_, rfl⟩
  rw [hR2] at hmap ⊢
  have HM := Lib.hid hmap
  clear hmap hR2 hF hR hv hin hpos
  have hal : ∀ o1 o2 o3 o4, Below w.heap.size w ((((w.alloc o1).alloc o2).alloc o3).alloc o4) := fun o1 o2 o3 o4 => ((((Below.refl _ _).alloc (Nat.le_refl _) _).alloc (by simp) _).alloc (by simp; omega) _).alloc (by simp; omega) _
  have HAL := Lib.hid hal
  have hmf : ∀ (fn : Fn) (first cap : Array Value) (w : World), (Instr.makeFunc fn first cap).run Tryz.prog w = .ok (.func fn first cap) w := fun _ _ _ _ => rfl
  clear hal
  go_enter Tryz.func85, Tryz.ntmps85
  go_wp2_with fail
  refine (HM.out _ (HAL.out _ _ _ _) (by first | exact cell_alloc_old (cell_alloc_old (cell_alloc_old (cell_alloc_new' _ _ _ rfl rfl) _) _) _ | simp) (by first | exact cell_alloc_new' _ _ _ (by simp) rfl | simp)).mono ?_
  rintro e w1 ⟨v', rfl, ho, hb⟩
  have hbb : Below w.heap.size w w1 := HAL.out _ _ _ _ |>.trans (hb.out.mono (by simp; omega))
  have hown : Hid (OwnPtrs w1 w.heap.size v' R) := Lib.hid (ownsRow_base ho.out (by simp; omega))
  have HB := Lib.hid hbb
  clear ho hb hbb HM HAL
  go_wp2
  go_ret
  exact ⟨v', rfl, hown, HB⟩

def fn_3 (ts : List NodeD) (len : Nat) (l2 : List Nat) (x : Nat) : List Nat := upToL (fun y => decide (y ∈ l2)) (nextL ts len x)
theorem fn_3_good (ts : List NodeD) (len : Nat) (l2 : List Nat) (x : Nat) (h : x < len) : GoodL len (fn_3 ts len l2 x) := ((nextL_good ts len x h).upTo _)

set_option maxRecDepth 100000 in
set_option maxHeartbeats 2000000 in
theorem getSib_3 {B : Nat} (v : Value) (l : List Nat) (w : World) (bl len : Nat) (nb : Nat → Nat) (vv : Nat → Value) (ts : List NodeD) (hF : Forest B w bl len nb vv ts) (hR : RightT ts len) (hv : PtrsOf w v (l.map nb)) (hin : ∀ i ∈ l, i < len) (hpos : ∀ i ∈ l, 0 < i) (hn : l.length ≤ 200) (v2 : Value) (l2 : List Nat) (h2 : PtrsOf w v2 (l2.map nb)) (hin2 : ∀ i ∈ l2, i < len) :
    Calls Tryz.prog 85 #[v, .int .i64 3, .nilIface, v2] w (OwnPtrsPost ((onceF (l.flatMap (fn_3 ts len l2))).map nb) w) := by
  have hlen := hR.le
  have hmap : ∀ w0, Below w.heap.size w w0 → w0.cell? ⟨w.heap.size, 0, none⟩ = some (.int .i64 3) → w0.cell? ⟨w.heap.size + 1, 0, none⟩ = some .nilIface → w0.cell? ⟨w.heap.size + 1 + 1, 0, none⟩ = some v2 → w0.cell? ⟨w.heap.size + 1 + 1 + 1, 0, none⟩ = some (.func (.func 103) #[] #[.pointer (some ⟨w.heap.size + 1, 0, none⟩), .pointer (some ⟨w.heap.size + 1 + 1, 0, none⟩)]) →
      Calls Tryz.prog 77 #[v, .func (.func 104) #[] #[.pointer (some ⟨w.heap.size, 0, none⟩), .pointer (some ⟨w.heap.size + 1 + 1 + 1, 0, none⟩)]] w0 (OwnPtrsPost ((onceF (l.flatMap (fn_3 ts len l2))).map nb) w0) := fun w0 hb c0 c1 c2 c3 =>
    mapManySib v _ _ l (fn_3 ts len l2) w0 bl len nb vv ts (hF.below hb) (hv.below hb) hn (fun x hx => (fn_3_good ts len l2 x (hin x hx)).lt) (fun x hx => Nat.le_trans (fn_3_good ts len l2 x (hin x hx)).le hlen) (fun x hx => (fn_3_good ts len l2 x (hin x hx)).once) (fun k hk w' hb' => by
      have hmem := getD_mem' (d := 0) hk
      obtain ⟨p, hp⟩ := par_is hR.root (hin _ hmem) (hpos _ hmem)
      have hbw : Below w.heap.size w w' := hb.trans (hb'.mono hb.size)
      have hcl := clo_3 (k : Int) (l.getD k 0) p w.heap.size (w.heap.size + 1 + 1 + 1) w' bl len nb vv ts (hF.below hbw) hR (hin _ hmem) hp (cell_below hb' c0) (w.heap.size + 1) (w.heap.size + 1 + 1) (fun y => decide (y ∈ l2)) (fun q => decide (q ∈ l2.map nb))
        (fun y hy => (mem_nb (fun i j hi hj h => hF.seg.inj i j (Nat.zero_le _) hi (Nat.zero_le _) hj h) hy hin2).symm)
        (fun w2 hb2 y hy => by
          have hF2 := hF.below (hbw.trans (hb2.mono hbw.size))
          have h := until_any (nb y) (w.heap.size + 1) (w.heap.size + 1 + 1) v2 (l2.map nb) w2 (cell_below hb2 (cell_below hb' c1)) (cell_below hb2 (cell_below hb' c2)) (h2.below (hbw.trans (hb2.mono hbw.size))) (hF2.alive hin2) (hF2.node hy).alive
          rw [mem_nb (fun i j hi hj h => hF.seg.inj i j (Nat.zero_le _) hi (Nat.zero_le _) hj h) hy hin2] at h
          exact h) (cell_below hb' c3)
      rw [← nextL_of (len := len) hp] at hcl
      exact hcl)
  obtain ⟨R, hR2⟩ : ∃ R, (onceF (l.flatMap (fn_3 ts len l2))).map nb = R := ⟨_, rfl⟩
  rw [hR2] at hmap ⊢
  obtain ⟨a2, c2', hv2, _⟩ := h2.nil
  simp only [List.length_map] at hv2
  subst hv2
  have HM := Lib.hid hmap
  clear hmap hR2 hF hR hv hin hpos h2 hin2
  have hal : ∀ o1 o2 o3 o4, Below w.heap.size w ((((w.alloc o1).alloc o2).alloc o3).alloc o4) := fun o1 o2 o3 o4 => ((((Below.refl _ _).alloc (Nat.le_refl _) _).alloc (by simp) _).alloc (by simp; omega) _).alloc (by simp; omega) _
  have HAL := Lib.hid hal
  have hmf : ∀ (fn : Fn) (first cap : Array Value) (w : World), (Instr.makeFunc fn first cap).run Tryz.prog w = .ok (.func fn first cap) w := fun _ _ _ _ => rfl
  clear hal
  go_enter Tryz.func85, Tryz.ntmps85
  go_wp2_with fail
  refine Calls.mono (HM.out _ ?hb ?h0 ?h1 ?h2 ?h3) ?_
  case hb => first | exact HAL.out _ _ _ _ | exact Below.setCell (HAL.out _ _ _ _) (by simp; omega) _
  case h0 => first | exact cell_alloc_old (cell_alloc_old (cell_alloc_old (cell_alloc_new' _ _ _ rfl rfl) _) _) _ | exact (World.cell?_setCell_other _ _ _ _ (by simp)).trans (cell_alloc_old (cell_alloc_old (cell_alloc_old (cell_alloc_new' _ _ _ rfl rfl) _) _) _)
  case h1 => first | exact cell_alloc_old (cell_alloc_old (cell_alloc_new' _ _ _ (by simp) rfl) _) _ | exact (World.cell?_setCell_other _ _ _ _ (by simp)).trans (cell_alloc_old (cell_alloc_old (cell_alloc_new' _ _ _ (by simp) rfl) _) _)
  case h2 => first | exact cell_alloc_old (cell_alloc_new' _ _ _ (by simp) rfl) _ | exact (World.cell?_setCell_other _ _ _ _ (by simp)).trans (cell_alloc_old (cell_alloc_new' _ _ _ (by simp) rfl) _)
  case h3 => first | exact cell_alloc_new' _ _ _ (by simp) rfl | exact setNew _ _ _ _ (by simp)
  rintro e w1 ⟨v', rfl, ho, hb⟩
  have hbb : Below w.heap.size w w1 := by first | exact (HAL.out _ _ _ _).trans (hb.out.mono (by simp; omega)) | exact (Below.setCell (HAL.out _ _ _ _) (p := ⟨w.heap.size + 1 + 1 + 1, 0, none⟩) (by simp; omega) _).trans (hb.out.mono (by simp; omega))
  have hown : Hid (OwnPtrs w1 w.heap.size v' R) := Lib.hid (ownsRow_base ho.out (by simp; omega))
  have HB := Lib.hid hbb
  clear ho hb hbb HM HAL
  go_wp2
  go_ret
  exact ⟨v', rfl, hown, HB⟩

def fn_m3 (ts : List NodeD) (len : Nat) (l2 : List Nat) (x : Nat) : List Nat := upToL (fun y => decide (y ∈ l2)) (prevL ts x)
theorem fn_m3_good (ts : List NodeD) (len : Nat) (l2 : List Nat) (x : Nat) (h : x < len) : GoodL len (fn_m3 ts len l2 x) := ((prevL_good ts len x h).upTo _)

set_option maxRecDepth 100000 in
set_option maxHeartbeats 2000000 in
theorem getSib_m3 {B : Nat} (v : Value) (l : List Nat) (w : World) (bl len : Nat) (nb : Nat → Nat) (vv : Nat → Value) (ts : List NodeD) (hF : Forest B w bl len nb vv ts) (hR : RightT ts len) (hv : PtrsOf w v (l.map nb)) (hin : ∀ i ∈ l, i < len) (hpos : ∀ i ∈ l, 0 < i) (hn : l.length ≤ 200) (v2 : Value) (l2 : List Nat) (h2 : PtrsOf w v2 (l2.map nb)) (hin2 : ∀ i ∈ l2, i < len) :
    Calls Tryz.prog 85 #[v, .int .i64 (-3), .nilIface, v2] w (OwnPtrsPost ((onceF (l.flatMap (fn_m3 ts len l2))).map nb) w) := by
  have hlen := hR.le
  have hmap : ∀ w0, Below w.heap.size w w0 → w0.cell? ⟨w.heap.size, 0, none⟩ = some (.int .i64 (-3)) → w0.cell? ⟨w.heap.size + 1, 0, none⟩ = some .nilIface → w0.cell? ⟨w.heap.size + 1 + 1, 0, none⟩ = some v2 → w0.cell? ⟨w.heap.size + 1 + 1 + 1, 0, none⟩ = some (.func (.func 103) #[] #[.pointer (some ⟨w.heap.size + 1, 0, none⟩), .pointer (some ⟨w.heap.size + 1 + 1, 0, none⟩)]) →
      Calls Tryz.prog 77 #[v, .func (.func 104) #[] #[.pointer (some ⟨w.heap.size, 0, none⟩), .pointer (some ⟨w.heap.size + 1 + 1 + 1, 0, none⟩)]] w0 (OwnPtrsPost ((onceF (l.flatMap (fn_m3 ts len l2))).map nb) w0) := fun w0 hb c0 c1 c2 c3 =>
    mapManySib v _ _ l (fn_m3 ts len l2) w0 bl len nb vv ts (hF.below hb) (hv.below hb) hn (fun x hx => (fn_m3_good ts len l2 x (hin x hx)).lt) (fun x hx => Nat.le_trans (fn_m3_good ts len l2 x (hin x hx)).le hlen) (fun x hx => (fn_m3_good ts len l2 x (hin x hx)).once) (fun k hk w' hb' => by
      have hmem := getD_mem' (d := 0) hk
      obtain ⟨p, hp⟩ := par_is hR.root (hin _ hmem) (hpos _ hmem)
      have hbw : Below w.heap.size w w' := hb.trans (hb'.mono hb.size)
      have hcl := clo_m3 (k : Int) (l.getD k 0) p w.heap.size (w.heap.size + 1 + 1 + 1) w' bl len nb vv ts (hF.below hbw) hR (hin _ hmem) hp (cell_below hb' c0) (w.heap.size + 1) (w.heap.size + 1 + 1) (fun y => decide (y ∈ l2)) (fun q => decide (q ∈ l2.map nb))
        (fun y hy => (mem_nb (fun i j hi hj h => hF.seg.inj i j (Nat.zero_le _) hi (Nat.zero_le _) hj h) hy hin2).symm)
        (fun w2 hb2 y hy => by
          have hF2 := hF.below (hbw.trans (hb2.mono hbw.size))
          have h := until_any (nb y) (w.heap.size + 1) (w.heap.size + 1 + 1) v2 (l2.map nb) w2 (cell_below hb2 (cell_below hb' c1)) (cell_below hb2 (cell_below hb' c2)) (h2.below (hbw.trans (hb2.mono hbw.size))) (hF2.alive hin2) (hF2.node hy).alive
          rw [mem_nb (fun i j hi hj h => hF.seg.inj i j (Nat.zero_le _) hi (Nat.zero_le _) hj h) hy hin2] at h
          exact h) (cell_below hb' c3)
      rw [← prevL_of hp] at hcl
      exact hcl)
  obtain ⟨R, hR2⟩ : ∃ R, (onceF (l.flatMap (fn_m3 ts len l2))).map nb = R := ⟨_, rfl⟩
  rw [hR2] at hmap ⊢
  obtain ⟨a2, c2', hv2, _⟩ := h2.nil
  simp only [List.length_map] at hv2
  subst hv2
  have HM := Lib.hid hmap
  clear hmap hR2 hF hR hv hin hpos h2 hin2
  have hal : ∀ o1 o2 o3 o4, Below w.heap.size w ((((w.alloc o1).alloc o2).alloc o3).alloc o4) := fun o1 o2 o3 o4 => ((((Below.refl _ _).alloc (Nat.le_refl _) _).alloc (by simp) _).alloc (by simp; omega) _).alloc (by simp; omega) _
  have HAL := Lib.hid hal
  have hmf : ∀ (fn : Fn) (first cap : Array Value) (w : World), (Instr.makeFunc fn first cap).run Tryz.prog w = .ok (.func fn first cap) w := fun _ _ _ _ => rfl
  clear hal
  go_enter Tryz.func85, Tryz.ntmps85
  go_wp2_with fail
  refine Calls.mono (HM.out _ ?hb ?h0 ?h1 ?h2 ?h3) ?_
  case hb => first | exact HAL.out _ _ _ _ | exact Below.setCell (HAL.out _ _ _ _) (by simp; omega) _
  case h0 => first | exact cell_alloc_old (cell_alloc_old (cell_alloc_old (cell_alloc_new' _ _ _ rfl rfl) _) _) _ | exact (World.cell?_setCell_other _ _ _ _ (by simp)).trans (cell_alloc_old (cell_alloc_old (cell_alloc_old (cell_alloc_new' _ _ _ rfl rfl) _) _) _)
  case h1 => first | exact cell_alloc_old (cell_alloc_old (cell_alloc_new' _ _ _ (by simp) rfl) _) _ | exact (World.cell?_setCell_other _ _ _ _ (by simp)).trans (cell_alloc_old (cell_alloc_old (cell_alloc_new' _ _ _ (by simp) rfl) _) _)
  case h2 => first | exact cell_alloc_old (cell_alloc_new' _ _ _ (by simp) rfl) _ | exact (World.cell?_setCell_other _ _ _ _ (by simp)).trans (cell_alloc_old (cell_alloc_new' _ _ _ (by simp) rfl) _)
  case h3 => first | exact cell_alloc_new' _ _ _ (by simp) rfl | exact setNew _ _ _ _ (by simp)
  rintro e w1 ⟨v', rfl, ho, hb⟩
  have hbb : Below w.heap.size w w1 := by first | exact (HAL.out _ _ _ _).trans (hb.out.mono (by simp; omega)) | exact (Below.setCell (HAL.out _ _ _ _) (p := ⟨w.heap.size + 1 + 1 + 1, 0, none⟩) (by simp; omega) _).trans (hb.out.mono (by simp; omega))
  have hown : Hid (OwnPtrs w1 w.heap.size v' R) := Lib.hid (ownsRow_base ho.out (by simp; omega))
  have HB := Lib.hid hbb
  clear ho hb hbb HM HAL
  go_wp2
  go_ret
  exact ⟨v', rfl, hown, HB⟩

def fn_m2 (ts : List NodeD) (len : Nat) (x : Nat) : List Nat := prevL ts x
theorem fn_m2_good (ts : List NodeD) (len : Nat) (x : Nat) (h : x < len) : GoodL len (fn_m2 ts len x) := (prevL_good ts len x h)

set_option maxRecDepth 100000 in
set_option maxHeartbeats 2000000 in
theorem getSib_m2 {B : Nat} (v : Value) (l : List Nat) (w : World) (bl len : Nat) (nb : Nat → Nat) (vv : Nat → Value) (ts : List NodeD) (hF : Forest B w bl len nb vv ts) (hR : RightT ts len) (hv : PtrsOf w v (l.map nb)) (hin : ∀ i ∈ l, i < len) (hpos : ∀ i ∈ l, 0 < i) (hn : l.length ≤ 200) :
    Calls Tryz.prog 85 #[v, .int .i64 (-2), .nilIface, .slice none 0 0] w (OwnPtrsPost ((onceF (l.flatMap (fn_m2 ts len))).map nb) w) := by
  have hlen := hR.le
  have hmap : ∀ w0, Below w.heap.size w w0 → w0.cell? ⟨w.heap.size, 0, none⟩ = some (.int .i64 (-2)) → w0.cell? ⟨w.heap.size + 1 + 1 + 1, 0, none⟩ = some .nilFunc →
      Calls Tryz.prog 77 #[v, .func (.func 104) #[] #[.pointer (some ⟨w.heap.size, 0, none⟩), .pointer (some ⟨w.heap.size + 1 + 1 + 1, 0, none⟩)]] w0 (OwnPtrsPost ((onceF (l.flatMap (fn_m2 ts len))).map nb) w0) := fun w0 hb c0 c3 =>
    mapManySib v _ _ l (fn_m2 ts len) w0 bl len nb vv ts (hF.below hb) (hv.below hb) hn (fun x hx => (fn_m2_good ts len x (hin x hx)).lt) (fun x hx => Nat.le_trans (fn_m2_good ts len x (hin x hx)).le hlen) (fun x hx => (fn_m2_good ts len x (hin x hx)).once) (fun k hk w' hb' => by
      have hmem := getD_mem' (d := 0) hk
      obtain ⟨p, hp⟩ := par_is hR.root (hin _ hmem) (hpos _ hmem)
      have hbw : Below w.heap.size w w' := hb.trans (hb'.mono hb.size)
      have hcl := clo_m2 (k : Int) (l.getD k 0) p w.heap.size (w.heap.size + 1 + 1 + 1) .nilFunc w' bl len nb vv ts (hF.below hbw) hR (hin _ hmem) hp (cell_below hb' c0) (cell_below hb' c3)
      rw [← prevL_of hp] at hcl
      exact hcl)
  obtain ⟨R, hR2⟩ : ∃ R, (onceF (l.flatMap (fn_m2 ts len))).map nb = R := ⟨_, rfl⟩
  rw [hR2] at hmap ⊢
  have HM := Lib.hid hmap
  clear hmap hR2 hF hR hv hin hpos
  have hal : ∀ o1 o2 o3 o4, Below w.heap.size w ((((w.alloc o1).alloc o2).alloc o3).alloc o4) := fun o1 o2 o3 o4 => ((((Below.refl _ _).alloc (Nat.le_refl _) _).alloc (by simp) _).alloc (by simp; omega) _).alloc (by simp; omega) _
  have HAL := Lib.hid hal
  have hmf : ∀ (fn : Fn) (first cap : Array Value) (w : World), (Instr.makeFunc fn first cap).run Tryz.prog w = .ok (.func fn first cap) w := fun _ _ _ _ => rfl
  clear hal
  go_enter Tryz.func85, Tryz.ntmps85
  go_wp2_with fail
  refine (HM.out _ (HAL.out _ _ _ _) (by first | exact cell_alloc_old (cell_alloc_old (cell_alloc_old (cell_alloc_new' _ _ _ rfl rfl) _) _) _ | simp) (by first | exact cell_alloc_new' _ _ _ (by simp) rfl | simp)).mono ?_
  rintro e w1 ⟨v', rfl, ho, hb⟩
  have hbb : Below w.heap.size w w1 := HAL.out _ _ _ _ |>.trans (hb.out.mono (by simp; omega))
  have hown : Hid (OwnPtrs w1 w.heap.size v' R) := Lib.hid (ownsRow_base ho.out (by simp; omega))
  have HB := Lib.hid hbb
  clear ho hb hbb HM HAL
  go_wp2
  go_ret
  exact ⟨v', rfl, hown, HB⟩

set_option maxRecDepth 100000 in
set_option maxHeartbeats 2000000 in
theorem getKids {B : Nat} (v : Value) (l : List Nat) (w : World) (bl len : Nat) (nb : Nat → Nat) (vv : Nat → Value) (ts : List NodeD) (hF : Forest B w bl len nb vv ts) (hR : RightT ts len) (hv : PtrsOf w v (l.map nb)) (hin : ∀ i ∈ l, i < len) (hn : l.length ≤ 200) :
    Calls Tryz.prog 89 #[v, .int .i64 0] w (OwnPtrsPost ((onceF (l.flatMap (kidL ts len))).map nb) w) := by
  have hlen := hR.le
  have hmap : ∀ w0, Below w.heap.size w w0 → w0.cell? ⟨w.heap.size, 0, none⟩ = some (.int .i64 0) →
      Calls Tryz.prog 77 #[v, .func (.func 106) #[] #[.pointer (some ⟨w.heap.size, 0, none⟩)]] w0 (OwnPtrsPost ((onceF (l.flatMap (kidL ts len))).map nb) w0) := fun w0 hb c0 =>
    mapManyKid v _ l (kidL ts len) w0 bl len nb vv ts (hF.below hb) (hv.below hb) hn (fun x hx => (kidL_good ts len x (hin x hx)).lt) (fun x hx => Nat.le_trans (kidL_good ts len x (hin x hx)).le hlen) (fun x hx => (kidL_good ts len x (hin x hx)).once) (fun k hk w' hb' => by
      have hmem := getD_mem' (d := 0) hk
      have hbw : Below w.heap.size w w' := hb.trans (hb'.mono hb.size)
      exact clo_kid (k : Int) (l.getD k 0) w.heap.size w' bl len nb vv ts (hF.below hbw) hR (hin _ hmem) (cell_below hb' c0))
  obtain ⟨R, hR2⟩ : ∃ R, (onceF (l.flatMap (kidL ts len))).map nb = R := ⟨_, rfl⟩
  rw [hR2] at hmap ⊢
  have HM := Lib.hid hmap
  clear hmap hR2 hF hR hv hin
  have hmf : ∀ (fn : Fn) (first cap : Array Value) (w : World), (Instr.makeFunc fn first cap).run Tryz.prog w = .ok (.func fn first cap) w := fun _ _ _ _ => rfl
  go_enter Tryz.func89, Tryz.ntmps89
  go_wp2_with fail
  refine (HM.out _ ((Below.refl _ _).alloc (Nat.le_refl _) _) (cell_alloc_new' _ _ _ rfl rfl)).mono ?_
  rintro e w1 ⟨v', rfl, ho, hb⟩
  have HB : Hid (Below w.heap.size w w1) := Lib.hid (((Below.refl _ _).alloc (Nat.le_refl _) _).trans (hb.out.mono (by simp)))
  have hown : Hid (OwnPtrs w1 w.heap.size v' R) := Lib.hid (ownsRow_base ho.out (by simp))
  clear ho hb HM
  go_wp2
  go_ret
  exact ⟨v', rfl, hown, HB⟩

end Go.Proofs.YtphppdbhofeagaaGreat

