/- All kids of one node, as goquery lists them (getChildrenWithSiblingType with the type 4). Kids put behind their parent, the parent cut: the parent unwrapped; plain. goquery: ReplaceWithNodes at one node, by its own kids. goquery: ReplaceWithSelection. goquery: Contents of one node. goquery: what Unwrap does to one parent. goquery: Each with Unwrap's closure. goquery: Unwrap; impl: UnwrapOf. -/
import Derived.Test.YtoleejaabiafcaaGreatPtrAll
import Derived.Laws.MakeOwn
import Derived.Deep.LoopGhost
import Derived.Test.YtoleejaabiafcaaGreatDomAll
import Derived.Test.YtoleejaabiafcaaGreatWoodAll
import Derived.Test.YtoleejaabiafcaaGreatUnwKAll
import Derived.Test.YtoleejaabiafcaaGreatDomIns
import Derived.Test.YtoleejaabiafcaaGreatManipAfter
import Derived.Test.YtoleejaabiafcaaGreatRemSelAll
import Derived.Test.YtoleejaabiafcaaGreatOneSel
import Derived.Test.YtoleejaabiafcaaGreatKnotAll
import Derived.Test.YtoleejaabiafcaaGreatCloneAll
import Derived.Test.YtoleejaabiafcaaGreatParAll
import Derived.Test.YtoleejaabiafcaaGreatEndsMany
import Derived.Test.YtoleejaabiafcaaGreatRemAll
namespace Go.Proofs.YtoleejaabiafcaaGreat
open Go.RowKit
set_option linter.unusedVariables false
set_option linter.unusedSimpArgs false

def LkPost4 (o : Option Nat) (w : World) (e : Ending) (w' : World) : Prop := e = .returned (lk o) ∧ w = w'

theorem eqlNilNil4 (w : World) : (binOp .eql 58 (.pointer none) (.pointer none)).run Tryz.prog w = .ok (.bool true) w := by kernel_rfl
theorem eqlSomeNil4 (w : World) (b : Nat) : (binOp .eql 58 (.pointer (some ⟨b, 0, none⟩)) (.pointer none)).run Tryz.prog w = .ok (.bool false) w := by kernel_rfl

set_option maxRecDepth 100000 in
set_option maxHeartbeats 4000000 in
theorem iter4_none {B n : Nat} (b1 b2 b3 p : Nat) (w : World) {nb : Nat → Nat} {v : Nat → Value} {lab : Nat → NodeD} {G : Wd} (h : DomAt B w n nb v lab G) (hG : WOk n G) (hp : p < n)
    (c1 : w.cell? ⟨b1, 0, none⟩ = some (.int .i64 4)) (c2 : w.cell? ⟨b2, 0, none⟩ = some (.pointer (some ⟨nb p, 0, none⟩))) (c3 : w.cell? ⟨b3, 0, none⟩ = some (.pointer none)) :
    Calls Tryz.prog 104 #[.pointer none, .pointer (some ⟨b1, 0, none⟩), .pointer (some ⟨b2, 0, none⟩), .pointer (some ⟨b3, 0, none⟩)] w (LkPost4 ((G.kids p).head?.map nb) w) := by
  have kx := (h.node p hp).fst
  have e1 : (linkR G nb (lab p) (v p) p).fst = (G.kids p).head?.map nb := rfl
  rw [e1] at kx
  have H := Lib.hid h
  have HG := Lib.hid hG
  clear h hG hp e1
  go_enter Tryz.func104, Tryz.ntmps104
  go_wp2
  go_loopg [0] 1 (fun gk c wr => gk = 1 ∧ c = .pointer none ∧ w = wr)
  case atStart => exact ⟨rfl, rfl, rfl⟩
  case round =>
    obtain ⟨rfl, rfl, rfl⟩ := hrel
    cases hk : (G.kids p).head? with
    | none =>
      rw [hk, Option.map_none, lk_none] at kx
      have heq := eqlNilNil4 w
      clear hk
      go_wp2
      go_ret
      exact ⟨rfl, rfl⟩
    | some q =>
      rw [hk, Option.map_some, lk_some] at kx
      have hqn : q < n := (HG.out.lt p q (List.mem_of_mem_head? (by rw [hk]; simp))).2
      have kt := (H.out.node q hqn).ty
      obtain ⟨ty, hty⟩ : ∃ ty, (linkR G nb (lab q) (v q) q).ty = ty := ⟨_, rfl⟩
      rw [hty] at kt
      have heq := eqlSomeNil4 w (nb q)
      clear hk hqn hty
      by_cases h3 : ty = 3
      · subst h3
        go_wp2
        go_ret
        exact ⟨rfl, rfl⟩
      · have g3 : (ty == 3) = false := by simp [h3]
        clear h3
        go_wp2
        go_ret
        exact ⟨rfl, rfl⟩

set_option maxRecDepth 100000 in
set_option maxHeartbeats 4000000 in
theorem iter4_some {B n : Nat} (b1 b2 b3 p y : Nat) (w : World) {nb : Nat → Nat} {v : Nat → Value} {lab : Nat → NodeD} {G : Wd} {A r : List Nat} (h : DomAt B w n nb v lab G) (hG : WOk n G) (hk : G.kids p = A ++ y :: r)
    (c1 : w.cell? ⟨b1, 0, none⟩ = some (.int .i64 4)) (c3 : w.cell? ⟨b3, 0, none⟩ = some (.pointer none)) :
    Calls Tryz.prog 104 #[.pointer (some ⟨nb y, 0, none⟩), .pointer (some ⟨b1, 0, none⟩), .pointer (some ⟨b2, 0, none⟩), .pointer (some ⟨b3, 0, none⟩)] w (LkPost4 (r.head?.map nb) w) := by
  have hyk : y ∈ G.kids p := by rw [hk]; simp
  have kx := (h.node y (hG.lt p y hyk).2).nxt
  have e4 : (linkR G nb (lab y) (v y) y).nxt = r.head?.map nb := by
    have h1 := (hG.iff p y).1 hyk
    show ((G.up y).bind fun p => nxtIn (G.kids p) y).map nb = _
    rw [h1]
    show (nxtIn (G.kids p) y).map nb = _
    rw [hk, nxtIn_app A (fun hm => by
      have h2 := hG.nd p
      rw [hk] at h2
      exact (nd_parts h2).1 hm)]
  rw [e4] at kx
  have hrn : ∀ q ∈ r, q < n := fun q hq => (hG.lt p q (by rw [hk]; simp [hq])).2
  have H := Lib.hid h
  have HRN := Lib.hid hrn
  clear h hG hk e4 hyk hrn
  go_enter Tryz.func104, Tryz.ntmps104
  go_wp2
  go_loopg [0] 1 (fun gk c wr => gk = 1 ∧ c = .pointer (some ⟨nb y, 0, none⟩) ∧ w = wr)
  case atStart => exact ⟨rfl, rfl, rfl⟩
  case round =>
    obtain ⟨rfl, rfl, rfl⟩ := hrel
    cases r with
    | nil =>
      simp only [List.head?_nil, Option.map_none, lk_none] at kx ⊢
      have heq := eqlNilNil4 w
      go_wp2
      go_ret
      exact ⟨rfl, rfl⟩
    | cons q r =>
      simp only [List.head?_cons, Option.map_some, lk_some] at kx ⊢
      have kt := (H.out.node q (HRN.out q (by simp))).ty
      obtain ⟨ty, hty⟩ : ∃ ty, (linkR G nb (lab q) (v q) q).ty = ty := ⟨_, rfl⟩
      rw [hty] at kt
      have heq := eqlSomeNil4 w (nb q)
      clear hty
      by_cases h3 : ty = 3
      · subst h3
        go_wp2
        go_ret
        exact ⟨rfl, rfl⟩
      · have g3 : (ty == 3) = false := by simp [h3]
        clear h3
        go_wp2
        go_ret
        exact ⟨rfl, rfl⟩

set_option maxRecDepth 100000 in
set_option maxHeartbeats 8000000 in
theorem kids_4 (o2 o3 : Option Addr) (f : Value) (L : List Nat) (w w3 : World) (hL : L.length ≤ 600) (hw3 : w3 = ((w.alloc (.cells #[.pointer o2] 58)).alloc (.cells #[.int .i64 4] 110)).alloc (.cells #[.pointer o3] 58))
    (hit : ∀ w', Below w3.heap.size w3 w' → Calls Tryz.prog 104 #[.pointer none, .pointer (some ⟨w.heap.size + 1, 0, none⟩), .pointer (some ⟨w.heap.size, 0, none⟩), .pointer (some ⟨w.heap.size + 1 + 1, 0, none⟩)] w' (LkPost4 L[0]? w') ∧
      ∀ k, k < L.length → Calls Tryz.prog 104 #[.pointer (some ⟨L.getD k 0, 0, none⟩), .pointer (some ⟨w.heap.size + 1, 0, none⟩), .pointer (some ⟨w.heap.size, 0, none⟩), .pointer (some ⟨w.heap.size + 1 + 1, 0, none⟩)] w' (LkPost4 L[k + 1]? w')) :
    Calls Tryz.prog 90 #[.pointer o2, .int .i64 4, .pointer o3, f] w (OwnPtrsPost L w) := by
  obtain ⟨i0, hi, hz0, hz1, hz2⟩ := info_parts Tryz.infoPtr
  have hb3 : Below w.heap.size w w3 := by rw [hw3]; exact (((Below.refl _ _).alloc (Nat.le_refl _) _).alloc (by simp) _).alloc (by simp; omega) _
  have cst : w3.cell? ⟨w.heap.size + 1, 0, none⟩ = some (.int .i64 4) := by rw [hw3]; exact cell_alloc_old (cell_alloc_new' _ _ _ (by simp) rfl) _
  have hmf : ∀ (fn : Fn) (first cap : Array Value) (w : World), (Instr.makeFunc fn first cap).run Tryz.prog w = .ok (.func fn first cap) w := fun _ _ _ _ => rfl
  have hsz : w.heap.size + 1 < w3.heap.size := by rw [hw3]; simp
  have HIT := Lib.hid hit
  have HB3 := Lib.hid hb3
  clear hit hb3
  have hmk := fun (w' : World) => run_make (P := Tryz.prog) w' 54 58 i0 (.pointer none) Tryz.underlying54 hi hz0 .i64 .i64 0 (L.length : Int) (by omega) (by omega) (by rw [hz2]; omega) (by omega)
  simp only [hz1, Int.toNat_zero, Int.toNat_natCast, Nat.mul_one] at hmk
  go_enter Tryz.func90, Tryz.ntmps90
  go_wp2_with fail
  rw [← hw3]
  clear hw3
  refine (HIT.out w3 (Below.refl _ _)).1.mono ?_
  rintro e w4 ⟨rfl, rfl⟩
  go_wp2
  go_loopw [10, 11] (fun n c wr => ∃ k, k ≤ L.length ∧ n = .int .i64 (k : Int) ∧ c = lk L[k]? ∧ w3 = wr) (fun n _ _ => L.length - (intOf n).toNat)
  case atStart => exact ⟨0, by omega, by go_num, rfl, rfl⟩
  case round =>
    obtain ⟨k, hk, rfl, rfl, rfl⟩ := hrel
    by_cases hlt : k < L.length
    · have he : L[k]? = some (L.getD k 0) := by simp [List.getD, hlt]
      rw [he, lk_some]
      have hcl := (HIT.out w3 (Below.refl _ _)).2 k hlt
      obtain ⟨y, hy⟩ : ∃ y, L.getD k 0 = y := ⟨_, rfl⟩
      rw [hy] at hcl ⊢
      have HCL := Lib.hid hcl
      clear hy hcl he
      go_wp2_with fail
      refine HCL.out.mono ?_
      rintro e w5 ⟨rfl, rfl⟩
      go_wp2
      go_roundw
      case rel => exact ⟨k + 1, by omega, by go_num, rfl, by first | rfl | trivial⟩
      case measure => simp [intOf]; omega
    · obtain rfl : k = L.length := by omega
      rw [show L[L.length]? = none by simp, lk_none]
      have hown0 : (w3.alloc (.cells (madeCells (Value.pointer none).cells L.length) 58)).ownsRow w3.heap.size 58 1 (.slice (some ⟨w3.heap.size, 0, none⟩) 0 L.length) 0 [] := World.ownsRow_made w3 _ L.length (Nat.le_refl _) (by unfold maxLen; omega) (by simp [size_madeCells])
      have hb4 : Below w3.heap.size w3 (w3.alloc (.cells (madeCells (Value.pointer none).cells L.length) 58)) := (Below.refl _ _).alloc (Nat.le_refl _) _
      have hmk3 := hmk w3
      obtain ⟨w4, hw4⟩ : ∃ w4, w3.alloc (.cells (madeCells (Value.pointer none).cells L.length) 58) = w4 := ⟨_, rfl⟩
      rw [hw4] at hown0 hb4 hmk3
      have cst4 := cell_below hb4 cst
      have HO4 := Lib.hid (And.intro hown0 hb4)
      clear hmk hown0 hb4 hlt hw4
      go_wp2_with fail
      refine (HIT.out w4 HO4.out.2).1.mono ?_
      rintro e w5 ⟨rfl, rfl⟩
      clear hmk3
      go_wp2
      go_loopg [8, 12] L.length (fun gk r c wy => ∃ k, gk = L.length - k ∧ k ≤ L.length ∧ c = lk L[k]? ∧ OwnPtrs wy w3.heap.size r (L.take k) ∧ Below w3.heap.size w3 wy)
      case atStart => exact ⟨0, by omega, by omega, rfl, HO4.out.1, HO4.out.2⟩
      case round =>
        obtain ⟨k, rfl, hk, rfl, hown, hbel⟩ := hrel
        have cstx := cell_below hbel cst
        by_cases hlt : k < L.length
        · have he : L[k]? = some (L.getD k 0) := by simp [List.getD, hlt]
          rw [he, lk_some]
          have hcl : ∀ w', Below w3.heap.size w3 w' → Calls Tryz.prog 104 #[.pointer (some ⟨L.getD k 0, 0, none⟩), .pointer (some ⟨w.heap.size + 1, 0, none⟩), .pointer (some ⟨w.heap.size, 0, none⟩), .pointer (some ⟨w.heap.size + 1 + 1, 0, none⟩)] w' (LkPost4 L[k + 1]? w') := fun w' hb => (HIT.out w' hb).2 k hlt
          have htk := take_snoc hlt
          obtain ⟨y, hy⟩ : ∃ y, L.getD k 0 = y := ⟨_, rfl⟩
          obtain ⟨D, hD⟩ : ∃ D, L.take k = D := ⟨_, rfl⟩
          have hDl : D.length = k := by rw [← hD]; simp; omega
          rw [hy] at hcl htk ⊢
          rw [hD] at hown htk
          have hown' : wr.ownsRow w3.heap.size 58 1 u8 D.length (D.map ptrV) := hown
          have HCL := Lib.hid hcl
          have HTK := Lib.hid htk
          have HBEL := Lib.hid hbel
          clear hy hcl he hD htk hown hbel
          go_wp2_with (at_builtin; refine wpList_append_own _ rfl _ _ 54 rfl w3.heap.size 58 i0 (.pointer none) 1 8 Tryz.underlying54 hi hz0 hz1 hz2 rfl (by decide) _ _ _ rfl (hown'.alloc _) ⟨wr.heap.size, 0, none⟩ 1 1 [.pointer (some ⟨y, 0, none⟩)] rfl rfl ?c1 ?c2 ?c3 ?c4 ?c5 ?_)
          case c1 =>
            intro j u hj
            match j, hj with
            | 0, hj => simp at hj; subst hj; simp [Addr.add]
          case c2 => intro u hu; simp at hu; subst hu; rfl
          case c3 => unfold maxLen; omega
          case c4 => omega
          case c5 => have := HBEL.out.size; first | (simp; done) | (simp; omega)
          intro v' w1 hown2 hgrow _
          have hbel2 : Below w3.heap.size w3 w1 := (HBEL.out.alloc HBEL.out.size _).grown hgrow (by have := HBEL.out.size; first | (simp; done) | (simp; omega)) (fun q hq => (World.ownsRow.lt hown' q hq).1)
          rw [← hDl] at hown2
          have hsn := ownPtrs_snoc (k := y) hown2
          have H1 := Lib.hid (And.intro hsn hbel2)
          have cst1 := cell_below hbel2 cst
          clear hown2 hgrow hbel2 hsn hown' cstx
          go_wp2_with fail
          refine (HCL.out w1 H1.out.2).mono ?_
          rintro e w6 ⟨rfl, rfl⟩
          go_wp2
          go_roundg (L.length - (k + 1))
          case measure => omega
          case rel => exact ⟨k + 1, rfl, by omega, rfl, by rw [HTK.out]; exact H1.out.1, H1.out.2⟩
        · obtain rfl : k = L.length := by omega
          rw [show L[L.length]? = none by simp, lk_none]
          rw [List.take_length] at hown
          have HOWN : Hid (OwnPtrs wr w.heap.size u8 L) := Lib.hid (ownsRow_base hown (by omega))
          have HBEL := Lib.hid (HB3.out.trans (hbel.mono HB3.out.size))
          clear hown hbel hlt
          go_wp2
          go_ret
          exact ⟨_, rfl, HOWN, HBEL⟩

/-- The kids of a node, in order. -/
theorem children4_any {B n : Nat} (p : Nat) (f : Value) (w : World) {nb : Nat → Nat} {v : Nat → Value} {lab : Nat → NodeD} {G : Wd} (h : DomAt B w n nb v lab G) (hG : WOk n G) (hn : n ≤ 1000) (hp : p < n) (hkl : (G.kids p).length ≤ 600) :
    Calls Tryz.prog 90 #[.pointer (some ⟨nb p, 0, none⟩), .int .i64 4, .pointer none, f] w (OwnPtrsPost ((G.kids p).map nb) w) := by
  obtain ⟨w3, hw3⟩ : ∃ w3, w3 = ((w.alloc (.cells #[.pointer (some ⟨nb p, 0, none⟩)] 58)).alloc (.cells #[.int .i64 4] 110)).alloc (.cells #[.pointer none] 58) := ⟨_, rfl⟩
  have hb3 : Below w.heap.size w w3 := by rw [hw3]; exact (((Below.refl _ _).alloc (Nat.le_refl _) _).alloc (by simp) _).alloc (by simp; omega) _
  have c1 : w3.cell? ⟨w.heap.size + 1, 0, none⟩ = some (.int .i64 4) := by rw [hw3]; exact cell_alloc_old (cell_alloc_new' _ _ _ (by simp) rfl) _
  have c2 : w3.cell? ⟨w.heap.size, 0, none⟩ = some (.pointer (some ⟨nb p, 0, none⟩)) := by rw [hw3]; exact cell_alloc_old (cell_alloc_old (cell_alloc_new' _ _ _ rfl rfl) _) _
  have c3 : w3.cell? ⟨w.heap.size + 1 + 1, 0, none⟩ = some (.pointer none) := by rw [hw3]; exact cell_alloc_new' _ _ _ (by simp) rfl
  refine kids_4 _ _ f ((G.kids p).map nb) w w3 (by rw [List.length_map]; exact hkl) hw3 (fun w' hb => ⟨?_, fun k hk => ?_⟩)
  · have h1 := iter4_none (w.heap.size + 1) w.heap.size (w.heap.size + 1 + 1) p w' ((h.below hb3).below hb) hG hp (cell_below hb c1) (cell_below hb c2) (cell_below hb c3)
    have e : ((G.kids p).map nb)[0]? = (G.kids p).head?.map nb := by
      cases G.kids p <;> rfl
    rw [e]
    exact h1
  · rw [List.length_map] at hk
    have hsp : G.kids p = (G.kids p).take k ++ (G.kids p).getD k 0 :: (G.kids p).drop (k + 1) := by
      have h0 : (G.kids p).drop k = (G.kids p).getD k 0 :: (G.kids p).drop (k + 1) := by
        rw [List.drop_eq_getElem_cons hk]
        simp [List.getD, hk]
      rw [← h0, List.take_append_drop]
    have h1 := iter4_some (w.heap.size + 1) w.heap.size (w.heap.size + 1 + 1) p _ w' ((h.below hb3).below hb) hG hsp (cell_below hb c1) (cell_below hb c3)
    have e : ((G.kids p).map nb)[k + 1]? = ((G.kids p).drop (k + 1)).head?.map nb := by simp
    have e2 : ((G.kids p).map nb).getD k 0 = nb ((G.kids p).getD k 0) := by simp [List.getD, hk]
    rw [e, e2]
    exact h1

end Go.Proofs.YtoleejaabiafcaaGreat

namespace Go.Proofs.YtoleejaabiafcaaGreat
set_option linter.unusedVariables false
set_option linter.unusedSimpArgs false

theorem offL_same {T A : List Nat} (h : ∀ y ∈ T, y ∉ A) : offL T A = A := List.filter_eq_self.2 (fun y hy => by
  have : y ∉ T := fun hm => h y hm hy
  simpa using this)

theorem mv_unw {n : Nat} {G : Wd} (hG : WOk n G) {p g : Nat} {A B : List Nat} (hu : G.up p = some g) (hk : G.kids g = A ++ p :: B) (hok : WOk n (mv G g (A ++ [p]) B (G.kids p))) : UnwOut n G p g A B ((mv G g (A ++ [p]) B (G.kids p)).cut p) := by
  have hpg : p ≠ g := fun e => by
    have := hG.not_up hu
    rw [e] at this
    exact this .refl
  have hno : ∀ z, z ≠ p → ∀ y ∈ G.kids p, y ∉ G.kids z := fun z hz y hy hm => by
    have h1 := (hG.iff z y).1 hm
    have h2 := (hG.iff p y).1 hy
    rw [h2] at h1
    exact hz (Option.some.inj h1).symm
  have hnd := hG.nd g
  rw [hk] at hnd
  obtain ⟨n1, n2, _⟩ := nd_parts hnd
  have hpk : p ∉ G.kids p := fun hm => by
    have h1 := (hG.iff p p).1 hm
    rw [hu] at h1
    exact hpg (Option.some.inj h1).symm
  have hng := hno g (Ne.symm hpg)
  rw [hk] at hng
  have hA : offL (G.kids p) (A ++ [p]) = A ++ [p] := offL_same (fun y hy hm => hng y hy (by
    rcases List.mem_append.1 hm with h | h
    · exact List.mem_append_left _ h
    · simp only [List.mem_singleton] at h; rw [h]; simp))
  have hB : offL (G.kids p) B = B := offL_same (fun y hy hm => hng y hy (by simp [hm]))
  have hmv : mv G g (A ++ [p]) B (G.kids p) = (G.off (G.kids p)).ins g (A ++ [p]) (G.kids p) B := by unfold mv; rw [hA, hB]
  rw [hmv] at hok ⊢
  refine ⟨hok.cut p, ?_, ?_, fun z hzg hzp => ?_, by simp [Wd.cut], fun z hz => ?_, fun z hz hzp => ?_⟩
  · show (((G.off (G.kids p)).ins g (A ++ [p]) (G.kids p) B).kids g).filter _ = _
    simp only [Wd.ins, if_true]
    rw [List.filter_append, List.filter_append, List.filter_append, filter_none n1, filter_none hpk, filter_none n2]
    simp
  · show (((G.off (G.kids p)).ins g (A ++ [p]) (G.kids p) B).kids p).filter _ = _
    simp only [Wd.ins, if_neg hpg, Wd.off]
    have : offL (G.kids p) (G.kids p) = [] := by simp [offL]
    rw [this]
    rfl
  · show (((G.off (G.kids p)).ins g (A ++ [p]) (G.kids p) B).kids z).filter _ = _
    simp only [Wd.ins, if_neg hzg, Wd.off]
    rw [offL_same (hno z hzp)]
    exact filter_none (fun hm => by
      have := (hG.iff z p).1 hm
      rw [hu] at this
      exact hzg (Option.some.inj this).symm)
  · have hzp : z ≠ p := fun e => hpk (e ▸ hz)
    simp only [Wd.cut, Wd.ins]
    rw [if_neg hzp, if_pos hz]
  · simp only [Wd.cut, Wd.ins, Wd.off]
    rw [if_neg hzp, if_neg hz, if_neg hz]

end Go.Proofs.YtoleejaabiafcaaGreat

namespace Go.Proofs.YtoleejaabiafcaaGreat
open Go.RowKit
set_option linter.unusedVariables false
set_option linter.unusedSimpArgs false

def ReplacePost (s B n : Nat) (nb : Nat → Nat) (v : Nat → Value) (lab : Nat → NodeD) (G : Wd) (p g : Nat) (A B2 : List Nat) (w0 : World) (e : Ending) (w' : World) : Prop :=
  e = .returned (.pointer (some ⟨s, 0, none⟩)) ∧ ∃ G2, Hid (UnwOut n G p g A B2 G2) ∧ Hid (DomAt B w' n nb v lab G2) ∧ ∃ wm, Hid (Below w0.heap.size w0 wm) ∧ Hid (OnlyN n nb wm w')

set_option maxRecDepth 100000 in
set_option maxHeartbeats 1000000 in
theorem replace_any {B n : Nat} {w0 w : World} {nb : Nat → Nat} {v : Nat → Value} {lab : Nat → NodeD} {G : Wd} (h : DomAt B w0 n nb v lab G) (hG : WOk n G) (hn : n ≤ 600) (s : Nat) (sv : Value) (S : Nat) {p g : Nat} {A B2 : List Nat} (hs : SelAt w0 s sv ([p].map nb) S) (hS : ∀ i, i < n → nb i < S) (hu : G.up p = some g) (hk : G.kids g = A ++ p :: B2)
    (nv : Value) (hb0 : Below w0.heap.size w0 w) (hns : w.ownsRow w0.heap.size 58 1 nv (G.kids p).length ((G.kids p).map fun y => ptrV (nb y))) :
    Calls Tryz.prog 56 #[.pointer (some ⟨s, 0, none⟩), nv] w (ReplacePost s B n nb v lab G p g A B2 w0) := by
  obtain ⟨hgn, hpn⟩ := hG.lt g p ((hG.iff g p).2 hu)
  have hpk : p ∉ G.kids p := fun hm => by
    have h1 := (hG.iff p p).1 hm
    have h2 := hG.not_up h1
    exact h2 .refl
  have hanc : ∀ y ∈ G.kids p, ¬ Anc G y g := fun y hy ha => by
    have h1 := (hG.iff p y).1 hy
    exact hG.not_up h1 (Anc.trans ha (.step hu .refl))
  have hmn := manip_after h hG s sv (x := p) (p := g) (A0 := A ++ [p]) (B0 := B2) (ws := G.kids p) S hs hS hpn hgn (by rw [hk]; simp) hu ⟨A, rfl⟩ hpk nv hb0 hns (fun y hy => (hG.lt p y hy).2) (hG.nd p) (Nat.le_trans (hG.few p) hn) hanc
  have hnd := nodes_after (X := fun e w' => Hid (DomAt B w' n nb v lab (mv G g (A ++ [p]) B2 (G.kids p))) ∧ Hid (WOk n (mv G g (A ++ [p]) B2 (G.kids p))) ∧ ∃ wm, Hid (Below w0.heap.size w0 wm) ∧ Hid (OnlyN n nb wm w')) s nv w (hmn.mono fun e w' hh => ⟨hh.1, hh.2⟩)
  have HN := Lib.hid hnd
  have H := Lib.hid (And.intro hs (And.intro hS (And.intro hpn (And.intro hG (And.intro hu hk)))))
  clear hnd hmn h hG hs hS hu hk hns hanc hpk hb0
  go_enter Tryz.func56, Tryz.ntmps56
  go_wp2_with fail
  refine HN.out.mono ?_
  rintro e w1 ⟨rfl, hd1, hw1, wm, hbm, ho1⟩
  have hkeep : ∀ k, S ≤ k → k < w0.heap.size → w1.heap[k]? = w0.heap[k]? := fun k h1 h2 => (ho1.out.block k (fun i hi e => by have := H.out.2.1 i hi; omega)).trans (hbm.out.block k h2)
  have hs1 : SelAt w1 s sv ([p].map nb) S := by
    obtain ⟨d, hd⟩ := H.out.1.doc
    have hsl := World.block_lt_of_cell? w0 _ H.out.1.nodes
    refine ⟨(World.cell?_of_block (hkeep s H.out.1.base hsl)).trans H.out.1.nodes, ⟨d, (World.cell?_of_block (hkeep s H.out.1.base hsl)).trans hd⟩, ?_, H.out.1.base⟩
    exact ownsRow_kept H.out.1.own (fun q hq => hkeep q (World.ownsRow.lt H.out.1.own q hq).1 (World.ownsRow.lt H.out.1.own q hq).2)
  have hrm := remove_any hd1.out hw1.out s sv [p] S hs1 H.out.2.1 (by simp only [List.mem_singleton]; rintro i rfl; exact H.out.2.2.1) (by simp)
  have hout := mv_unw H.out.2.2.2.1 H.out.2.2.2.2.1 H.out.2.2.2.2.2 hw1.out
  have HRM := Lib.hid hrm
  have HOUT := Lib.hid hout
  clear hrm hout hs1 hkeep hd1 hw1 HN
  go_wp2_with fail
  refine HRM.out.mono ?_
  rintro e w2 ⟨rfl, hd2, ho2⟩
  have HO := Lib.hid (ho1.out.trans ho2.out)
  clear HRM
  go_wp2
  go_ret
  exact ⟨rfl, _, HOUT, hd2, wm, hbm, HO⟩

end Go.Proofs.YtoleejaabiafcaaGreat

namespace Go.Proofs.YtoleejaabiafcaaGreat
open Go.RowKit
set_option linter.unusedVariables false
set_option linter.unusedSimpArgs false

set_option maxRecDepth 100000 in
set_option maxHeartbeats 1000000 in
theorem replaceSel_any {X : World → Prop} (s s2 : Nat) (na : Option Addr) (nn nc : Nat) (w : World) (c : w.cell? ⟨s2, 0, none⟩ = some (.slice na nn nc))
    (hc : Calls Tryz.prog 56 #[.pointer (some ⟨s, 0, none⟩), .slice na nn nc] w (fun e w' => e = .returned (.pointer (some ⟨s, 0, none⟩)) ∧ Hid (X w'))) :
    Calls Tryz.prog 34 #[.pointer (some ⟨s, 0, none⟩), .pointer (some ⟨s2, 0, none⟩)] w (fun e w' => e = .returned (.pointer (some ⟨s, 0, none⟩)) ∧ Hid (X w')) := by
  have HC := Lib.hid hc
  clear hc
  go_enter Tryz.func34, Tryz.ntmps34
  go_wp2_with fail
  refine HC.out.mono ?_
  rintro e w1 ⟨rfl, hx⟩
  clear HC
  go_wp2
  go_ret
  exact ⟨rfl, hx⟩

end Go.Proofs.YtoleejaabiafcaaGreat

namespace Go.Proofs.YtoleejaabiafcaaGreat
open Go.RowKit
set_option linter.unusedVariables false
set_option linter.unusedSimpArgs false

set_option maxRecDepth 100000 in
set_option maxHeartbeats 1000000 in
theorem clo4_any {B n : Nat} (p box : Nat) (i : Int) (w : World) {nb : Nat → Nat} {v : Nat → Value} {lab : Nat → NodeD} {G : Wd} (h : DomAt B w n nb v lab G) (hG : WOk n G) (hn : n ≤ 600) (hp : p < n) (cb : w.cell? ⟨box, 0, none⟩ = some (.int .i64 4)) :
    Calls Tryz.prog 89 #[.int .i64 i, .pointer (some ⟨nb p, 0, none⟩), .pointer (some ⟨box, 0, none⟩)] w (OwnPtrsPost ((G.kids p).map nb) w) := by
  have hc := children4_any p .nilFunc w h hG (by omega) hp (Nat.le_trans (hG.few p) hn)
  obtain ⟨L, hL⟩ : ∃ L, (G.kids p).map nb = L := ⟨_, rfl⟩
  rw [hL] at hc ⊢
  have HC := Lib.hid hc
  clear hc h hG hp hn hL
  go_enter Tryz.func89, Tryz.ntmps89
  go_wp2_with fail
  refine HC.out.mono ?_
  rintro e w1 ⟨v', rfl, ho, hb⟩
  clear HC
  go_wp2
  go_ret
  exact ⟨_, rfl, ho, hb⟩

set_option maxRecDepth 100000 in
set_option maxHeartbeats 1000000 in
theorem map4_any {B n : Nat} (p box sg : Nat) (w : World) {nb : Nat → Nat} {v : Nat → Value} {lab : Nat → NodeD} {G : Wd} (h : DomAt B w n nb v lab G) (hG : WOk n G) (hn : n ≤ 600) (hp : p < n) (cb : w.cell? ⟨box, 0, none⟩ = some (.int .i64 4)) (cs : w.cell? ⟨sg, 0, none⟩ = some (.pointer (some ⟨nb p, 0, none⟩))) :
    Calls Tryz.prog 88 #[.slice (some ⟨sg, 0, none⟩) 1 1, .func (.func 89) #[] #[.pointer (some ⟨box, 0, none⟩)]] w (OwnPtrsPost ((G.kids p).map nb) w) := by
  have hc := clo4_any p box 0 w h hG hn hp cb
  obtain ⟨L, hL⟩ : ∃ L, (G.kids p).map nb = L := ⟨_, rfl⟩
  rw [hL] at hc ⊢
  have HC := Lib.hid hc
  clear hc h hG hp hn hL
  go_enter Tryz.func88, Tryz.ntmps88
  go_wp2_with fail
  refine HC.out.mono ?_
  rintro e w1 ⟨v', rfl, ho, hb⟩
  clear HC
  go_wp2
  go_ret
  exact ⟨_, rfl, ho, hb⟩

set_option maxRecDepth 100000 in
set_option maxHeartbeats 1000000 in
theorem get4_any {B n : Nat} (p sg : Nat) (w : World) {nb : Nat → Nat} {v : Nat → Value} {lab : Nat → NodeD} {G : Wd} (h : DomAt B w n nb v lab G) (hG : WOk n G) (hn : n ≤ 600) (hp : p < n) (cs : w.cell? ⟨sg, 0, none⟩ = some (.pointer (some ⟨nb p, 0, none⟩))) :
    Calls Tryz.prog 57 #[.slice (some ⟨sg, 0, none⟩) 1 1, .int .i64 4] w (OwnPtrsPost ((G.kids p).map nb) w) := by
  have hc := fun w1 (hb : Below w.heap.size w w1) (cb : w1.cell? ⟨w.heap.size, 0, none⟩ = some (.int .i64 4)) => map4_any p w.heap.size sg w1 (h.below hb) hG hn hp cb (cell_below hb cs)
  obtain ⟨L, hL⟩ : ∃ L, (G.kids p).map nb = L := ⟨_, rfl⟩
  rw [hL] at hc ⊢
  have HC := Lib.hid hc
  have hmf : ∀ (fn : Fn) (first cap : Array Value) (w : World), (Instr.makeFunc fn first cap).run Tryz.prog w = .ok (.func fn first cap) w := fun _ _ _ _ => rfl
  clear hc h hG hp hn hL cs
  go_enter Tryz.func57, Tryz.ntmps57
  go_wp2_with fail
  refine (HC.out _ ((Below.refl _ _).alloc (Nat.le_refl _) _) (cell_alloc_new' _ _ _ rfl rfl)).mono ?_
  rintro e w1 ⟨v', rfl, ho, hb⟩
  have hb1 : Below w.heap.size w w1 := ((Below.refl _ _).alloc (Nat.le_refl _) _).trans (hb.out.mono (by simp))
  have HO : Hid (OwnPtrs w1 w.heap.size v' L) := Lib.hid (ownsRow_base ho.out (by simp))
  have HB := Lib.hid hb1
  clear HC ho hb hb1
  go_wp2
  go_ret
  exact ⟨_, rfl, HO, HB⟩

set_option maxRecDepth 100000 in
set_option maxHeartbeats 1000000 in
theorem contents_any {B n : Nat} (p s sg d : Nat) (w : World) {nb : Nat → Nat} {v : Nat → Value} {lab : Nat → NodeD} {G : Wd} (h : DomAt B w n nb v lab G) (hG : WOk n G) (hn : n ≤ 600) (hp : p < n) (c0 : w.cell? ⟨s, 0, none⟩ = some (.slice (some ⟨sg, 0, none⟩) 1 1)) (c1 : w.cell? ⟨s, 1, none⟩ = some (.pointer (some ⟨d, 0, none⟩))) (cs : w.cell? ⟨sg, 0, none⟩ = some (.pointer (some ⟨nb p, 0, none⟩))) :
    Calls Tryz.prog 35 #[.pointer (some ⟨s, 0, none⟩)] w (SelPost ((G.kids p).map nb) w) := by
  have hc := get4_any p sg w h hG hn hp cs
  obtain ⟨L, hL⟩ : ∃ L, (G.kids p).map nb = L := ⟨_, rfl⟩
  rw [hL] at hc ⊢
  have HC := Lib.hid hc
  have HD := Lib.hid c1
  clear hc h hG hp hn hL c1
  go_enter Tryz.func35, Tryz.ntmps35
  go_wp2_with fail
  refine HC.out.mono ?_
  rintro e w1 ⟨v', rfl, ho, hb⟩
  have c1' := cell_below hb.out HD.out
  have c0' := cell_below hb.out c0
  obtain ⟨a', cap', hv, _⟩ := ho.out.ptrs.nil
  rw [List.length_map] at hv
  subst hv
  clear HC HD
  go_wp2
  go_ret
  refine ⟨w1.heap.size, .slice a' L.length cap', rfl, Lib.hid ⟨?_, ⟨d, ?_⟩, ?_, hb.out.size⟩, Lib.hid ?_⟩
  · exact cell_alloc_new' _ _ _ (by simp) rfl
  · exact cell_alloc_new' _ _ _ (by simp) rfl
  · exact ho.out.alloc _
  · exact hb.out.alloc hb.out.size _

end Go.Proofs.YtoleejaabiafcaaGreat

namespace Go.Proofs.YtoleejaabiafcaaGreat
open Go.RowKit
set_option linter.unusedVariables false
set_option linter.unusedSimpArgs false

set_option maxRecDepth 100000 in
set_option maxHeartbeats 1000000 in
theorem unwClo_any {B n : Nat} (i : Int) (s sg d : Nat) {w : World} {nb : Nat → Nat} {v : Nat → Value} {lab : Nat → NodeD} {G : Wd} (h : DomAt B w n nb v lab G) (hG : WOk n G) (hn : n ≤ 600) {p g : Nat} {A B2 : List Nat} (hO : OneAt w s sg (nb p) d) (S : Nat) (hSg : S ≤ sg) (hSs : S ≤ s) (hS : ∀ i, i < n → nb i < S) (hu : G.up p = some g) (hk : G.kids g = A ++ p :: B2) (htag : ((dataOf (lab p)).toList != [98, 111, 100, 121]) = true) (htag2 : ((dataOf (lab p)).toList == [98, 111, 100, 121]) = false) :
    Calls Tryz.prog 33 #[.int .i64 i, .pointer (some ⟨s, 0, none⟩)] w (fun e w' => e = .returned (.tuple #[]) ∧ Hid (∃ G2, Hid (UnwOut n G p g A B2 G2) ∧ Hid (DomAt B w' n nb v lab G2) ∧ ∃ wm, Hid (Below w.heap.size w wm) ∧ Hid (OnlyN n nb wm w'))) := by
  obtain ⟨hgn, hpn⟩ := hG.lt g p ((hG.iff g p).2 hu)
  have cd := (h.node p hpn).data
  have c0 := hO.nodes
  have cs := hO.one
  have hct := contents_any p s sg d w h hG hn hpn hO.nodes hO.doc hO.one
  have hrp := fun (w1 : World) (nv : Value) (hb : Below w.heap.size w w1) (ho : OwnPtrs w1 w.heap.size nv ((G.kids p).map nb)) => replace_any h hG hn s _ S (hO.sel hSg hSs) hS hu hk nv hb (by
    unfold OwnPtrs at ho
    rwa [List.length_map, List.map_map] at ho)
  obtain ⟨tg, htg⟩ : ∃ tg, dataOf (lab p) = tg := ⟨_, rfl⟩
  have e1 : (linkR G nb (lab p) (v p) p).data = tg := htg
  rw [e1] at cd
  rw [htg] at htag htag2
  have HCT := Lib.hid hct
  have HRP := Lib.hid hrp
  clear hct hrp h hG hO hS hu hk htg e1 hgn hpn hSg hSs
  go_enter Tryz.func33, Tryz.ntmps33
  go_wp2_with fail
  refine HCT.out.mono ?_
  rintro e w1 ⟨s2, nv, rfl, hsel, hb⟩
  have c2 := hsel.out.nodes
  have hr := HRP.out w1 nv hb.out hsel.out.own
  obtain ⟨na, nc, rfl⟩ := ownsRow_slice hsel.out.own
  have hrs := replaceSel_any (X := fun w' => ∃ G2, Hid (UnwOut n G p g A B2 G2) ∧ Hid (DomAt B w' n nb v lab G2) ∧ ∃ wm, Hid (Below w.heap.size w wm) ∧ Hid (OnlyN n nb wm w')) s s2 na _ nc w1 c2 (hr.mono fun e w' hh => ⟨hh.1, Lib.hid hh.2⟩)
  have HRS := Lib.hid hrs
  clear hrs hr HRP HCT c2 hsel hb
  go_wp2_with fail
  refine HRS.out.mono ?_
  rintro e w2 ⟨rfl, hx⟩
  clear HRS
  go_wp2
  go_end0
  exact ⟨rfl, hx⟩

end Go.Proofs.YtoleejaabiafcaaGreat

namespace Go.Proofs.YtoleejaabiafcaaGreat
open Go.RowKit
set_option linter.unusedVariables false
set_option linter.unusedSimpArgs false

theorem UnwMid.step2 {n : Nat} {F : Wd} {ps rest : List Nat} {G : Wd} {p g : Nat} {A B : List Nat} {G2 : Wd} (h : UnwMid n F ps (p :: rest) G) (hu : G.up p = some g) (hk : G.kids g = A ++ p :: B) (ho2 : UnwOut n G p g A B G2) : UnwMid n F ps rest G2 := by
  have hnd := h.nd
  rw [List.nodup_cons] at hnd
  have ho := unwr_out h.ok hu hk
  rw [ho2.eq ho]
  exact ⟨ho.ok, fun q hq => unwr_up h.ok hu hk (fun e => hnd.1 (e ▸ hq)) (h.ups q (List.mem_cons_of_mem _ hq)), hnd.2, fun G2 h2 => h.back G2 (.cons hu hk h2)⟩

def UnwEachPost (s B n : Nat) (nb : Nat → Nat) (v : Nat → Value) (lab : Nat → NodeD) (F : Wd) (ps : List Nat) (w : World) (e : Ending) (w' : World) : Prop :=
  e = .returned (.pointer (some ⟨s, 0, none⟩)) ∧ ∃ G2, Hid (Unws G2 ps F) ∧ Hid (WOk n G2) ∧ Hid (DomAt B w' n nb v lab G2) ∧ Hid (OnlyG n nb w w')

set_option maxRecDepth 100000 in
set_option maxHeartbeats 4000000 in
theorem unwEach_any {B n : Nat} {w : World} {nb : Nat → Nat} {v : Nat → Value} {lab : Nat → NodeD} {F : Wd} (h : DomAt B w n nb v lab F) (hn : n ≤ 600) {ps : List Nat} (hm : UnwMid n F ps ps F) (hpl : ps.length ≤ 600) (htag : ∀ p ∈ ps, ((dataOf (lab p)).toList == [98, 111, 100, 121]) = false) {s sg scap d : Nat} (c0 : w.cell? ⟨s, 0, none⟩ = some (.slice (some ⟨sg, 0, none⟩) ps.length scap)) (c1 : w.cell? ⟨s, 1, none⟩ = some (.pointer (some ⟨d, 0, none⟩))) (crow : ∀ i, i < ps.length → w.cell? ⟨sg, i, none⟩ = some (.pointer (some ⟨nb (ps.getD i 0), 0, none⟩))) (hbn : ∀ i, i < n → s ≠ nb i ∧ sg ≠ nb i) :
    Calls Tryz.prog 32 #[.pointer (some ⟨s, 0, none⟩), .func (.func 33) #[] #[]] w (UnwEachPost s B n nb v lab F ps w) := by
  have hkeep : ∀ (w9 : World), OnlyG n nb w w9 → ∀ (q o : Nat) (u : Value), (∀ i, i < n → q ≠ nb i) → w.cell? ⟨q, o, none⟩ = some u → w9.cell? ⟨q, o, none⟩ = some u := fun w9 ho q o u hq hc => (World.cell?_of_block (ho.block q (World.block_lt_of_cell? w _ hc) hq)).trans hc
  have HK := Lib.hid hkeep
  have HD0 := Lib.hid h
  have HM0 : Hid (UnwMid n F ps (ps.drop 0) F) := Lib.hid hm
  have HOG := Lib.hid (OnlyG.refl n nb w)
  have HC1 := Lib.hid c1
  have HCR := Lib.hid crow
  have HN := Lib.hid hbn
  have HT := Lib.hid htag
  clear h hm crow hbn hkeep c1 htag
  go_enter Tryz.func32, Tryz.ntmps32
  go_wp2
  go_loopw [12] (fun iv wr => ∃ (i : Nat) (G : Wd), iv = .int .i64 (i : Int) ∧ i ≤ ps.length ∧ Hid (UnwMid n F ps (ps.drop i) G) ∧ Hid (DomAt B wr n nb v lab G) ∧ Hid (OnlyG n nb w wr)) (fun iv _ => ps.length - (intOf iv).toNat)
  case atStart => exact ⟨0, F, by go_num, by omega, HM0, HD0, HOG⟩
  case round =>
    obtain ⟨i, G, rfl, hi, HM, HD, HO⟩ := hrel
    by_cases hlt : i < ps.length
    · obtain ⟨p, hpp⟩ : ∃ p, ps.getD i 0 = p := ⟨_, rfl⟩
      have hdrop := drop_at hlt
      rw [hpp] at hdrop
      have hmid := HM.out
      rw [hdrop] at hmid
      obtain ⟨g, hug⟩ := hmid.ups p (by simp)
      obtain ⟨A, B2, hab⟩ := List.append_of_mem ((hmid.ok.iff g p).2 hug)
      have hpm : p ∈ ps := by rw [← hpp]; exact getD_mem' hlt
      have ck := HK.out wr HO.out sg i _ (fun j hj => (HN.out j hj).2) (HCR.out i hlt)
      rw [hpp] at ck
      have cd := HK.out wr HO.out s 1 _ (fun j hj => (HN.out j hj).1) HC1.out
      obtain ⟨X, hX⟩ : ∃ X, nb p = X := ⟨_, rfl⟩
      rw [hX] at ck
      have HONE := Lib.hid (one_any X d wr)
      have HMID := Lib.hid (And.intro hmid (And.intro hug (And.intro hab (And.intro hpm hX))))
      clear hpp hdrop hmid hug hab hpm hX HM
      go_wp2_with fail
      refine HONE.out.mono ?_
      rintro e w1 ⟨rfl, HO1, HB1⟩
      have hoa := HO1.out
      rw [← HMID.out.2.2.2.2] at hoa
      have htg := HT.out p HMID.out.2.2.2.1
      have hcl := unwClo_any (i : Int) (wr.heap.size + 1) wr.heap.size d (HD.out.below HB1.out) HMID.out.1.ok hn hoa wr.heap.size (Nat.le_refl _) (by omega) (fun j hj => World.block_lt_of_cell? wr _ (HD.out.node j hj).par) HMID.out.2.1 HMID.out.2.2.1 (by rw [bne, htg]; rfl) htg
      have HCL := Lib.hid hcl
      clear hcl hoa htg ck cd HONE
      go_wp2_with fail
      refine HCL.out.mono ?_
      rintro e w2 ⟨rfl, hx⟩
      obtain ⟨G2, ho2, hd2, wm, hbm, hon⟩ := hx.out
      have HM2 := Lib.hid (HMID.out.1.step2 HMID.out.2.1 HMID.out.2.2.1 ho2.out)
      have HO2 := Lib.hid (((HO.out.of_below HB1.out).of_below hbm.out).turn hon.out (fun _ _ => rfl) (fun j h1 h2 => by omega))
      clear hx ho2 hbm hon HCL HMID
      go_wp2
      go_roundw
      case rel => exact ⟨i + 1, G2, by go_num, by omega, HM2, hd2, HO2⟩
      case measure => simp [intOf]; omega
    · obtain rfl : i = ps.length := by omega
      have hm9 := HM.out
      rw [List.drop_length] at hm9
      have HFIN := Lib.hid (hm9.back G (.nil rfl))
      have HOK := Lib.hid hm9.ok
      clear hm9 HM hlt
      go_wp2
      go_ret
      exact ⟨rfl, G, HFIN, HOK, HD, HO⟩

end Go.Proofs.YtoleejaabiafcaaGreat

namespace Go.Proofs.YtoleejaabiafcaaGreat
open Go.RowKit
set_option linter.unusedVariables false
set_option linter.unusedSimpArgs false

theorem parList_good {ts : List NodeD} {len : Nat} : ∀ {l : List Nat}, (∀ x ∈ l, x < len) → (∀ x ∈ l, UnwGood (fun i => ts.getD i default) (wd0 (sz ts) len) x) → parList ts l = l.map (parK (wd0 (sz ts) len))
  | [], _, _ => rfl
  | x :: r, hl, hg => by
    obtain ⟨p, g, hu, _, hk, _⟩ := hg x (by simp)
    have hx := hl x (by simp)
    have hp : par (sz ts) x = some p := by rw [wd0_up hx] at hu; exact hu
    have e1 : parEl ts x = some p := by rw [parEl_some hp]; exact if_pos hk
    have e2 : parK (wd0 (sz ts) len) x = p := by unfold parK; rw [hu]; rfl
    have ih := parList_good (fun y hy => hl y (List.mem_cons_of_mem _ hy)) (fun y hy => hg y (List.mem_cons_of_mem _ hy))
    unfold parList at ih ⊢
    rw [List.filterMap_cons_some e1, List.map_cons, e2, ih]

theorem unwGood_par {lab : Nat → NodeD} {F : Wd} {l : List Nat} (hg : ∀ x ∈ l, UnwGood lab F x) {p : Nat} (hp : p ∈ onceF (l.map (parK F))) : (∃ g, F.up p = some g) ∧ ((dataOf (lab p)).toList == [98, 111, 100, 121]) = false := by
  obtain ⟨x, hx, rfl⟩ := List.mem_map.1 (onceF_sub p hp)
  obtain ⟨p, g, hu, hup, hk, ht⟩ := hg x hx
  have e : parK F x = p := by unfold parK; rw [hu]; rfl
  rw [e]
  refine ⟨⟨g, hup⟩, ?_⟩
  have e2 : dataOf (lab p) = (lab p).tag := by unfold dataOf; rw [hk]; rfl
  rw [e2]
  exact ht

set_option maxRecDepth 100000 in
set_option maxHeartbeats 2000000 in
theorem unwrap_any {B B' : Nat} (s : Nat) (v : Value) (l : List Nat) (w : World) (bl len : Nat) (nb : Nat → Nat) (vv : Nat → Value) (ts : List NodeD) (hs : SelAt w s v (l.map nb) B) (hF : Forest B' w bl len nb vv ts) (hR : RightT ts len)
    (hin : ∀ i ∈ l, i < len) (hn : l.length ≤ 600) (hl0 : 0 < l.length) (hg : ∀ x ∈ l, UnwGood (fun i => ts.getD i default) (wd0 (sz ts) len) x) :
    Calls Tryz.prog 18 #[.pointer (some ⟨s, 0, none⟩)] w (UnwEachPost s B' len nb vv (fun i => ts.getD i default) (wd0 (sz ts) len) (onceF (l.map (parK (wd0 (sz ts) len)))) w) := by
  have hlen := hR.le
  have hsp := selParent_any s v l w bl len nb vv ts hs hF hR hin hn
  rw [parList_good hin hg] at hsp
  obtain ⟨ps, hps⟩ : ∃ ps, onceF (l.map (parK (wd0 (sz ts) len))) = ps := ⟨_, rfl⟩
  have hpl : ps.length ≤ 600 := by
    have := onceF_len (l := l.map (parK (wd0 (sz ts) len))) l.length (by simp)
    rw [List.take_of_length_le (by simp), hps] at this
    omega
  have hp0 : 0 < ps.length := by
    have h1 : parK (wd0 (sz ts) len) (l.getD 0 0) ∈ ps := by
      rw [← hps]
      exact onceF_mem.2 (List.mem_map.2 ⟨_, getD_mem' hl0, rfl⟩)
    exact List.length_pos_of_mem h1
  have hgp : ∀ p ∈ ps, (∃ g, (wd0 (sz ts) len).up p = some g) ∧ ((dataOf (ts.getD p default)).toList == [98, 111, 100, 121]) = false := fun p hp => unwGood_par hg (by rw [hps]; exact hp)
  have hm : UnwMid len (wd0 (sz ts) len) ps ps (wd0 (sz ts) len) := ⟨wd0_ok hR.nest, fun p hp => (hgp p hp).1, by rw [← hps]; exact onceF_nd, fun _ h => h⟩
  have hD := hF.dom hR
  have hnb : ∀ i, i < len → nb i < w.heap.size := fun i hi => World.block_lt_of_cell? w _ (hD.node i hi).par
  rw [hps] at hsp ⊢
  have HSP := Lib.hid hsp
  have HH := Lib.hid (And.intro hD (And.intro hm (And.intro (fun p hp => (hgp p hp).2) (And.intro hnb (And.intro hp0 (And.intro hpl hlen))))))
  have hmf : ∀ (fn : Fn) (first cap : Array Value) (w : World), (Instr.makeFunc fn first cap).run Tryz.prog w = .ok (.func fn first cap) w := fun _ _ _ _ => rfl
  clear hsp hps hpl hp0 hgp hm hD hnb hs hF hR hin hn hl0 hg hlen
  go_enter Tryz.func18, Tryz.ntmps18
  go_wp2_with fail
  refine HSP.out.mono ?_
  rintro e w1 ⟨s2, v2, rfl, hsel, hb⟩
  have hown := hsel.out.own
  have c0 := hsel.out.nodes
  obtain ⟨d, c1⟩ := hsel.out.doc
  have hbs := hsel.out.base
  unfold OwnPtrs at hown
  rw [List.length_map, List.map_map] at hown
  obtain ⟨sa, scap, rfl⟩ := ownsRow_slice hown
  obtain ⟨sg, rfl⟩ : ∃ sg, sa = some ⟨sg, 0, none⟩ := by
    rcases hown.2 with ⟨_, h2⟩ | ⟨g0, c0_, cur, hv_, _⟩
    · have := HH.out.2.2.2.2.1
      omega
    · simp at hv_; exact ⟨g0, hv_.1⟩
  have hsg := (World.ownsRow.lt hown sg rfl).1
  have hcr := own_nodes hown
  have hea := unwEach_any (HH.out.1.below hb.out) HH.out.2.2.2.2.2.2 HH.out.2.1 HH.out.2.2.2.2.2.1 HH.out.2.2.1 c0 c1 hcr (fun i hi => by
    have := HH.out.2.2.2.1 i hi
    exact ⟨by omega, by omega⟩)
  have HEA := Lib.hid hea
  have HB := Lib.hid hb.out
  clear hea hcr hsg hown c0 c1 hbs hsel hb HSP HH
  go_wp2_with fail
  refine HEA.out.mono ?_
  rintro e w2 ⟨rfl, G2, h1, h2, h3, h4⟩
  have HO := Lib.hid (((OnlyG.refl len nb w).of_below HB.out).trans h4.out)
  clear h4 HEA
  go_wp2
  go_ret
  exact ⟨rfl, G2, h1, h2, h3, HO⟩

set_option maxRecDepth 100000 in
set_option maxHeartbeats 1000000 in
theorem unwrapOf_any (W : World) (a : Option Addr) (len cap : Nat) (ts : List NodeD) (hR : RightT ts len) (hN : Nodes W a len ts) (v : Value) (l : List Nat) (h : ReadsAs W v (l.map intV)) (hin : ∀ i ∈ l, i < len) (hon : Once l) (hl0 : 0 < l.length) (hn : l.length ≤ 600) (hg : ∀ x ∈ l, UnwGood (fun i => ts.getD i default) (wd0 (sz ts) len) x) {G : Wd} (hU : Unws G (onceF (l.map (parK (wd0 (sz ts) len)))) (wd0 (sz ts) len)) (C : List (Nat × Nat)) (hC : Fs G.kids [0] C) :
    Calls Tryz.prog 9 #[.slice a len cap, v] W (DoneOfPost (fun i => ts.getD i default) len C W) := by
  have hlen := hR.le
  have hpos := hR.pos
  have hsel := selected_any W a len cap ts hR hN v l h hin hon hn
  have HSEL := Lib.hid hsel
  have HR := Lib.hid hR
  have HG := Lib.hid (And.intro hin (And.intro hn (And.intro hl0 (And.intro hg hU))))
  have HC := Lib.hid hC
  clear hsel hR hN h hin hon hC hn hl0 hg hU
  go_enter Tryz.func9, Tryz.ntmps9
  go_wp2_with fail
  refine HSEL.out.mono ?_
  rintro e w1 ⟨g, bl, nb, vv, s0, s, v1, S, rfl, hB, hs, hS, hWS⟩
  have hun := unwrap_any s v1 l w1 bl len nb vv ts hs.out hB.out.forest HR.out HG.out.1 HG.out.2.1 HG.out.2.2.1 HG.out.2.2.2.1
  have HUN := Lib.hid hun
  clear hun HSEL hS hWS
  go_wp2_with fail
  refine HUN.out.mono ?_
  rintro e w2 ⟨rfl, G2, hu2, hw2, hd2, ho2⟩
  obtain rfl : G = G2 := HG.out.2.2.2.2.det (wd0_ok HR.out.nest) hu2.out
  obtain ⟨hg, hrow, hb2⟩ := hB.out.keptG ho2.out
  obtain ⟨o1, o2, o3⟩ := hw2.out.order hpos HC.out
  have hends := ends_any hd2.out hw2.out (fun i hi => ⟨_, _, HR.out.node i hi⟩) hpos hlen g bl hg hrow C HC.out o1 o2 (by omega)
  have HE := Lib.hid hends
  have HB2 := Lib.hid hb2
  clear hends hb2 hg hrow HUN hw2 o1 o2 o3 hu2
  go_wp2_with fail
  refine HE.out.mono ?_
  rintro e w3 ⟨tv, pv, rfl, hot, hz, hb3⟩
  have hbs := HB2.out.size
  have HB3 := Lib.hid (HB2.out.trans (hb3.out.mono hbs))
  have HOT := Lib.hid (hot.out.base hbs)
  have HZ : Hid (OwnZ w3 W.heap.size pv (placesW len C)) := Lib.hid (ownsRow_base hz.out hbs)
  clear hot hz hb3 HE
  go_wp2
  go_ret3
  exact ⟨_, _, rfl, HOT, HZ, HB3⟩

end Go.Proofs.YtoleejaabiafcaaGreat

