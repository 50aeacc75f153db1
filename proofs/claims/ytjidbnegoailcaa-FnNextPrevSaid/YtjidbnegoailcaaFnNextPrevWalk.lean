/- The walk of FnNextPrev. -/
import Derived.Test.YtjidbnegoailcaaSibSel
import Derived.Test.YtjidbnegoailcaaRising3
namespace Go.Proofs.Ytjidbnegoailcaa
open Go.RowKit
set_option linter.unusedVariables false
set_option linter.unusedSimpArgs false

theorem rb_head {P : Nat → Bool} {y : Nat} {r : List Nat} : ∀ {f a : Nat}, rb P a f = y :: r → a ≤ y ∧ P y = true ∧ ∀ k, a ≤ k → k < y → P k = false := by
  intro f
  induction f with
  | zero => intro a h; simp [rb] at h
  | succ f ih =>
    intro a h
    simp only [rb] at h
    split at h
    · rename_i hp
      simp at h
      obtain ⟨rfl, _⟩ := h
      exact ⟨Nat.le_refl _, hp, fun k h1 h2 => by omega⟩
    · rename_i hp
      obtain ⟨h1, h2, h3⟩ := ih h
      refine ⟨by omega, h2, fun k h4 h5 => ?_⟩
      by_cases e : k = a
      · subst e; simpa using hp
      · exact h3 k (by omega) h5

theorem once_single {F : Nat → List Nat} {x : Nat} (h : Once (F x)) : onceF ([x].flatMap F) = F x := by
  simp only [List.flatMap_cons, List.flatMap_nil, List.append_nil]
  exact onceF_of_once h

/-- Ahead of the next one stands the element itself. -/
theorem prev_next {ts : List NodeD} {len x y p : Nat} {r : List Nat} (hx : kd ts x = 3) (hp : par (sz ts) x = some p) (h : nextL ts len x = y :: r) : (prevL ts y).take 1 = [x] := by
  rw [nextL_of hp] at h
  obtain ⟨h1, h2, h3⟩ := rb_head h
  have hpy : par (sz ts) y = some p := by simp [elKid] at h2; exact h2.1
  rw [prevL_of hpy]
  have hex : elKid ts p x = true := by simp [elKid, hp, hx]
  have hg := lb_gap (P := elKid ts p) (a := x + 1) (y - (x + 1)) (fun k h4 h5 => h3 k h4 (by omega))
  rw [show x + 1 + (y - (x + 1)) = y by omega] at hg
  rw [hg]
  simp [lb, hex]

namespace lawFnNextPrev

set_option maxRecDepth 100000 in
set_option maxHeartbeats 4000000 in
theorem walk {W : World} (a : Option Addr) (len cap : Nat) (ts : List NodeD) (h : Nodes W a len ts ∧ len ≤ cap ∧ cap ≤ maxLen) (z : Int) {P : Prop} (_ : P) :
    Calls Try.prog 8 #[.slice a len cap, .int .i64 z] W (YesB W) := by
  have HN := Lib.hid h.1
  clear h
  go_enter Try.func8, Try.ntmps8
  go_wp2_with fail
  refine (fits1_any a len cap ts W HN.out).mono ?_
  rintro e w1 ⟨b1, _, rfl, hb1⟩
  have HB1 := Lib.hid hb1
  clear hb1
  cases b1
  · go_wp2
    go_ret
    exact ⟨rfl, HB1.out⟩
  have hb1' : Below W.heap.size W (w1.alloc (.cells #[.int .i64 z] 3)) := HB1.out.alloc HB1.out.size _
  have HRI := Lib.hid (rising3_any a len cap ts (some ⟨w1.heap.size, 0, none⟩) 1 1 [z] _ (HN.out.below hb1') ⟨ints_one (cell_alloc_new' w1 #[.int .i64 z] 3 rfl rfl), by omega, by unfold maxLen; omega⟩)
  have HB1' := Lib.hid hb1'
  clear hb1' HB1
  go_wp2_with fail
  refine HRI.out.mono ?_
  rintro e w2 ⟨b2, hb2, rfl, hbel2⟩
  have HB2 := Lib.hid (HB1'.out.trans (hbel2.mono HB1'.out.size))
  clear hbel2 HB1' HRI
  cases b2
  · go_wp2
    go_ret
    exact ⟨rfl, HB2.out⟩
  obtain ⟨hR, x, rfl, hx, hk, hpos⟩ := one_place hb2 rfl
  obtain ⟨p, hp⟩ := par_is hR.root hx hpos
  have hl1 : ∀ i ∈ [x], i < len := by simp [hx]
  have hl2 : ∀ i ∈ [x], 0 < i := by simp [hpos]
  have hlen := hR.le
  obtain ⟨A, hA⟩ : ∃ A, nextL ts len x = A := ⟨_, rfl⟩
  obtain ⟨N, hN⟩ : ∃ N, fn_1 ts len x = N := ⟨_, rfl⟩
  have hNg := fn_1_good ts len x hx
  have hNA : N = A.take 1 := by rw [← hN, ← hA]; rfl
  rw [hN] at hNg
  have hNpos : ∀ i ∈ N, 0 < i := fun i hi => by
    rw [hNA, ← hA] at hi
    have := List.mem_of_mem_take hi
    rw [nextL_of hp] at this
    have := (rb_mem.1 this).1
    omega
  obtain ⟨K, hK⟩ : ∃ K, onceF (N.flatMap (fn_m1 ts len)) = K := ⟨_, rfl⟩
  have hcases : (N.length = 0 ∧ A.length = 0 ∧ K.length = 0) ∨ (N.length = 1 ∧ 1 ≤ A.length ∧ K = [x]) := by
    cases hAc : A with
    | nil =>
      rw [hAc] at hNA
      simp at hNA
      subst hNA
      simp [onceF] at hK
      subst hK
      exact .inl ⟨rfl, rfl, rfl⟩
    | cons y r =>
      rw [hAc] at hNA hA
      simp at hNA
      subst hNA
      refine .inr ⟨rfl, by simp, ?_⟩
      rw [← hK, once_single (fn_m1_good ts len y (hNg.lt y (by simp))).once]
      exact prev_next hk hp hA
  have h1 : Hid (∀ w, Below W.heap.size W w → ∀ v, ReadsAs w v ([x].map intV) → Calls Try.prog 22 #[.slice a len cap, v] w (SibPost N w)) := Lib.hid fun w hb v hv => by
    have h := implNextOf w a len cap ts hR (HN.out.below hb) v [x] hv hl1 (once_of_lt (by simp)) (by simp) hl2
    rwa [once_single (fn_1_good ts len x hx).once, hN] at h
  have h2 : Hid (∀ w, Below W.heap.size W w → ∀ v, ReadsAs w v ([x].map intV) → Calls Try.prog 17 #[.slice a len cap, v] w (SibPost A w)) := Lib.hid fun w hb v hv => by
    have h := implNextAllOf w a len cap ts hR (HN.out.below hb) v [x] hv hl1 (once_of_lt (by simp)) (by simp) hl2
    rwa [once_single (fn_2_good ts len x hx).once, show fn_2 ts len x = A from hA] at h
  have h3 : Hid (∀ w, Below W.heap.size W w → ∀ v, ReadsAs w v (N.map intV) → Calls Try.prog 23 #[.slice a len cap, v] w (SibPost K w)) := Lib.hid fun w hb v hv => by
    have h := implPrevOf w a len cap ts hR (HN.out.below hb) v N hv hNg.lt hNg.once (Nat.le_trans hNg.le hlen) hNpos
    rwa [hK] at h
  have hAn : A.length ≤ 200 := by rw [← hA]; exact Nat.le_trans (nextL_good ts len x hx).le hlen
  have HC := Lib.hid hcases
  clear hb2 hR hp hA hN hNg hNA hNpos hK hcases hl1 hl2 hk
  go_wp2_with fail
  refine (h1.out _ (HB2.out.alloc HB2.out.size _) _ (reads_one (cell_alloc_new' w2 #[.int .i64 (x : Int)] 3 rfl rfl) (by omega) (by unfold maxLen; omega))).mono ?_
  rintro e w3 ⟨v3, rfl, ho3, hb3⟩
  have HB3 := Lib.hid ((HB2.out.alloc HB2.out.size (.cells #[.int .i64 (x : Int)] 3)).trans (hb3.out.mono (by have := HB2.out.size; simp; omega)))
  have HR3 := Lib.hid ho3.out.reads
  obtain ⟨a3, c3, hv3, _⟩ := ho3.out.reads.nil
  rw [List.length_map] at hv3
  subst hv3
  clear ho3 hb3 HB2 h1
  go_wp2_with fail
  refine (h2.out _ (HB3.out.alloc HB3.out.size _) _ (reads_one (cell_alloc_new' w3 #[.int .i64 (x : Int)] 3 rfl rfl) (by omega) (by unfold maxLen; omega))).mono ?_
  rintro e w4 ⟨v4, rfl, ho4, hb4⟩
  have hb34 : Below w3.heap.size w3 w4 := ((Below.refl _ _).alloc (Nat.le_refl _) (.cells #[.int .i64 (x : Int)] 3)).trans (hb4.out.mono (by simp))
  have HB4 := Lib.hid (HB3.out.trans (hb34.mono HB3.out.size))
  have HR34 := Lib.hid (HR3.out.below hb34)
  obtain ⟨a4, c4, hv4, _⟩ := ho4.out.reads.nil
  rw [List.length_map] at hv4
  subst hv4
  clear ho4 hb4 HB3 HR3 h2 hb34
  go_wp2_with fail
  refine (h3.out w4 HB4.out _ HR34.out).mono ?_
  rintro e w5 ⟨v5, rfl, ho5, hb5⟩
  have HB5 := Lib.hid (HB4.out.trans (hb5.out.mono HB4.out.size))
  have HR5 := Lib.hid ho5.out.reads
  obtain ⟨a5, c5, hv5, _⟩ := ho5.out.reads.nil
  rw [List.length_map] at hv5
  subst hv5
  clear ho5 hb5 HB4 HR34 h3
  rcases HC.out with ⟨e1, e2, e3⟩ | ⟨e1, e2, e3⟩
  · rw [e1, e2, e3]
    clear e1 e2 e3 HC hAn
    go_wp2
    go_ret
    exact ⟨rfl, HB5.out⟩
  · obtain ⟨n, hn⟩ : ∃ n, A.length = n := ⟨_, rfl⟩
    subst e3
    rw [e1, hn]
    rw [hn] at e2 hAn
    clear hn e1 HC
    have hsl := fun (o : Obj) (h : ReadsAs (w5.alloc o) (.slice (some ⟨w5.heap.size, 0, none⟩) 1 1) ([x].map intV)) => sameList_any _ (.slice (some ⟨w5.heap.size, 0, none⟩) 1 1) [x] (w5.alloc o) (HR5.out.below ((Below.refl _ _).alloc (Nat.le_refl _) o)) h
    have HSL := Lib.hid hsl
    clear hsl
    by_cases hn1 : n = 1
    · subst hn1
      clear e2 hAn
      go_wp2_with fail
      refine (HSL.out _ (reads_one (cell_alloc_new' w5 #[.int .i64 (x : Int)] 3 rfl rfl) (by omega) (by unfold maxLen; omega))).mono ?_
      rintro e w6 ⟨rfl, hb6⟩
      have HB6 := Lib.hid ((HB5.out.alloc HB5.out.size (.cells #[.int .i64 (x : Int)] 3)).trans (hb6.mono (by have := HB5.out.size; simp; omega)))
      clear hb6 HSL
      go_wp2
      go_ret
      exact ⟨rfl, HB6.out⟩
    · have g1 : (1 : Int) < (n : Int) := by omega
      have g2 : decide ((1 : Int) < (n : Int)) = true := decide_eq_true g1
      clear e2 hAn hn1
      go_wp2_with fail
      refine (HSL.out _ (reads_one (cell_alloc_new' w5 #[.int .i64 (x : Int)] 3 rfl rfl) (by omega) (by unfold maxLen; omega))).mono ?_
      rintro e w6 ⟨rfl, hb6⟩
      have HB6 := Lib.hid ((HB5.out.alloc HB5.out.size (.cells #[.int .i64 (x : Int)] 3)).trans (hb6.mono (by have := HB5.out.size; simp; omega)))
      clear hb6 HSL
      go_wp2
      go_ret
      exact ⟨rfl, HB6.out⟩

end lawFnNextPrev
end Go.Proofs.Ytjidbnegoailcaa
