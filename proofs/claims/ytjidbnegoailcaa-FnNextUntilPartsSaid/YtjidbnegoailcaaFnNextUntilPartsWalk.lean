/- The walk of FnNextUntilParts. -/
import Derived.Test.YtjidbnegoailcaaSibEnd
import Derived.Test.YtjidbnegoailcaaRisingAll
import Derived.Test.YtjidbnegoailcaaAppendNone
namespace Go.Proofs.Ytjidbnegoailcaa
open Go.RowKit
set_option linter.unusedVariables false
set_option linter.unusedSimpArgs false

theorem rb_upTo {P : Nat → Bool} {u : Nat} : ∀ {f a : Nat}, a ≤ u → u < a + f → P u = true → upToL (fun y => decide (y ∈ [u])) (rb P a f) ++ u :: rb P (u + 1) (a + f - (u + 1)) = rb P a f := by
  intro f
  induction f with
  | zero => intro a h1 h2; omega
  | succ f ih =>
    intro a h1 h2 h3
    by_cases e : a = u
    · subst e
      simp only [rb, h3, if_true, upToL]
      rw [show a + (f + 1) - (a + 1) = f by omega]
      simp
    · have := ih (a := a + 1) (by omega) (by omega) h3
      rw [show a + 1 + f = a + (f + 1) by omega] at this
      simp only [rb]
      split
      · simp only [upToL]
        rw [if_neg (by simp [e]), List.cons_append, this]
      · exact this

/-- What follows a place: up to another one, this one, and what follows it. -/
theorem next_parts {ts : List NodeD} {len x u p : Nat} (hx : par (sz ts) x = some p) (hu : par (sz ts) u = some p) (hk : kd ts u = 3) (hlt : x < u) (hul : u < len) :
    upToL (fun y => decide (y ∈ [u])) (nextL ts len x) ++ u :: nextL ts len u = nextL ts len x := by
  rw [nextL_of hx, nextL_of hu]
  have h := rb_upTo (P := elKid ts p) (u := u) (f := len - (x + 1)) (a := x + 1) hlt (by omega) (by simp [elKid, hu, hk])
  rwa [show x + 1 + (len - (x + 1)) - (u + 1) = len - (u + 1) by omega] at h

namespace lawFnNextUntilParts

set_option maxRecDepth 100000 in
set_option maxHeartbeats 8000000 in
theorem walk {W : World} (a : Option Addr) (len cap : Nat) (ts : List NodeD) (h : Nodes W a len ts ∧ len ≤ cap ∧ cap ≤ maxLen) (z : Int) {P : Prop} (_ : P) (z2 : Int) {P2 : Prop} (_ : P2) :
    Calls Try.prog 7 #[.slice a len cap, .int .i64 z, .int .i64 z2] W (YesB W) := by
  have HN := Lib.hid h.1
  clear h
  obtain ⟨i0, hi, hz0, hz1, hz2⟩ := info_parts Try.infoInt
  go_enter Try.func7, Try.ntmps7
  go_wp2_with fail
  refine (fits1_any a len cap ts W HN.out).mono ?_
  rintro e w1 ⟨b1, _, rfl, hb1⟩
  have HB1 := Lib.hid hb1
  clear hb1
  cases b1
  · go_wp2
    go_ret
    exact ⟨rfl, HB1.out⟩
  have hb1' : Below W.heap.size W (w1.alloc (.cells #[.int .i64 z] 3)) := HB1.out.alloc HB1.out.size _
  have HRI := Lib.hid (rising3_any a len cap ts (some ⟨w1.heap.size, 0, none⟩) 1 1 [z] _ (HN.out.below hb1') ⟨ints_one (cell_alloc_new' w1 #[.int .i64 z] 3 rfl rfl), by omega, by unfold maxLen; omega⟩)
  have HB1' := Lib.hid hb1'
  clear hb1' HB1
  go_wp2_with fail
  refine HRI.out.mono ?_
  rintro e w2 ⟨b2, hb2, rfl, hbel2⟩
  have HB2 := Lib.hid (HB1'.out.trans (hbel2.mono HB1'.out.size))
  clear hbel2 HB1' HRI
  cases b2
  · go_wp2
    go_ret
    exact ⟨rfl, HB2.out⟩
  obtain ⟨hR, x, rfl, hx, hk, hpos⟩ := one_place hb2 rfl
  have HR := Lib.hid hR
  have HX := Lib.hid (And.intro hk hpos)
  have hlen := hR.le
  clear hb2 hR hk hpos
  have hb2' : Below W.heap.size W (w2.alloc (.cells #[.int .i64 z2] 3)) := HB2.out.alloc HB2.out.size _
  have HRI := Lib.hid (rising3_any a len cap ts (some ⟨w2.heap.size, 0, none⟩) 1 1 [z2] _ (HN.out.below hb2') ⟨ints_one (cell_alloc_new' w2 #[.int .i64 z2] 3 rfl rfl), by omega, by unfold maxLen; omega⟩)
  have HB2' := Lib.hid hb2'
  clear hb2' HB2
  go_wp2_with fail
  refine HRI.out.mono ?_
  rintro e w3 ⟨b3, hb3, rfl, hbel3⟩
  have HB3 := Lib.hid (HB2'.out.trans (hbel3.mono HB2'.out.size))
  clear hbel3 HB2' HRI
  cases b3
  · go_wp2
    go_ret
    exact ⟨rfl, HB3.out⟩
  obtain ⟨-, u, rfl, hu, hku, hupos⟩ := one_place hb3 rfl
  have HU := Lib.hid (And.intro hku hupos)
  clear hb3 hku hupos
  by_cases q1 : (u : Int) < (x : Int)
  · have g1 : decide ((u : Int) < (x : Int)) = true := decide_eq_true q1
    have g1n : decide (u < x) = true := decide_eq_true (by omega)
    go_wp2
    go_ret
    exact ⟨rfl, HB3.out⟩
  have g1 : decide ((u : Int) < (x : Int)) = false := decide_eq_false q1
  have g1n : decide (u < x) = false := decide_eq_false (by omega)
  obtain ⟨p, hp⟩ := par_is HR.out.root hx HX.out.2
  obtain ⟨q, hq⟩ := par_is HR.out.root hu HU.out.2
  have hpar1 := parent_any a len cap ts x w3 (HN.out.below HB3.out) HR.out.sizes (fun j hj => HR.out.nest.fit j hj) hx
  have hpar2 := parent_any a len cap ts u w3 (HN.out.below HB3.out) HR.out.sizes (fun j hj => HR.out.nest.fit j hj) hu
  rw [hp] at hpar1
  rw [hq] at hpar2
  have HP1 := Lib.hid hpar1
  have HP2 := Lib.hid hpar2
  have HPQ := Lib.hid (And.intro hp hq)
  clear hpar1 hpar2 hp hq
  go_wp2_with fail
  refine HP1.out.mono ?_
  rintro e w4 ⟨rfl, rfl⟩
  simp only [parI]
  go_wp2_with fail
  refine HP2.out.mono ?_
  rintro e w5 ⟨rfl, rfl⟩
  simp only [parI]
  clear HP1 HP2
  by_cases q2 : p = q
  rotate_left
  · have g2 : ((p : Int) != (q : Int)) = true := by simp; omega
    have g2n : (p != q) = true := by simp [q2]
    clear q2
    go_wp2
    go_ret
    exact ⟨rfl, HB3.out⟩
  subst q2
  by_cases q3 : x = u
  · have g3 : ((x : Int) == (u : Int)) = true := by simp [q3]
    have g3n : (x == u) = true := by simp [q3]
    clear q3
    go_wp2
    go_ret
    exact ⟨rfl, HB3.out⟩
  have g3 : ((x : Int) == (u : Int)) = false := by simp; omega
  have g3n : (x == u) = false := by simp [q3]
  have g2 : ((p : Int) != (p : Int)) = false := by simp
  have hparts := next_parts (len := len) HPQ.out.1 HPQ.out.2 HU.out.1 (show x < u by omega) hu
  have hl1 : ∀ i ∈ [x], i < len := by simp [hx]
  have hl2 : ∀ i ∈ [x], 0 < i := by simp [HX.out.2]
  have hu1 : ∀ i ∈ [u], i < len := by simp [hu]
  have hu2 : ∀ i ∈ [u], 0 < i := by simp [HU.out.2]
  have h1 : Hid (∀ w, Below W.heap.size W w → ∀ v, ReadsAs w v ([x].map intV) → Calls Try.prog 17 #[.slice a len cap, v] w (SibPost (nextL ts len x) w)) := Lib.hid fun w hb v hv => by
    have h := implNextAllOf w a len cap ts HR.out (HN.out.below hb) v [x] hv hl1 (once_of_lt (by simp)) (by simp) hl2
    rwa [once_single (fn_2_good ts len x hx).once] at h
  have h2 : Hid (∀ w, Below W.heap.size W w → ∀ v v2, ReadsAs w v ([x].map intV) → ReadsAs w v2 ([u].map intV) → Calls Try.prog 21 #[.slice a len cap, v, v2] w (SibPost (upToL (fun y => decide (y ∈ [u])) (nextL ts len x)) w)) := Lib.hid fun w hb v v2 hv hv2 => by
    have h := implNextUntilOf w a len cap ts HR.out (HN.out.below hb) v [x] hv hl1 (once_of_lt (by simp)) (by simp) hl2 v2 [u] hv2 hu1 (by simp)
    rwa [once_single (fn_3_good ts len [u] x hx).once] at h
  have h3 : Hid (∀ w, Below W.heap.size W w → ∀ v, ReadsAs w v ([u].map intV) → Calls Try.prog 17 #[.slice a len cap, v] w (SibPost (nextL ts len u) w)) := Lib.hid fun w hb v hv => by
    have h := implNextAllOf w a len cap ts HR.out (HN.out.below hb) v [u] hv hu1 (once_of_lt (by simp)) (by simp) hu2
    rwa [once_single (fn_2_good ts len u hu).once] at h
  have hAg := nextL_good ts len x hx
  have hAn : (nextL ts len x).length ≤ 200 := Nat.le_trans hAg.le hlen
  obtain ⟨A, hA⟩ : ∃ A, nextL ts len x = A := ⟨_, rfl⟩
  rw [hA] at h1 h2 hparts hAg hAn
  obtain ⟨Q, hQ⟩ : ∃ Q, upToL (fun y => decide (y ∈ [u])) A = Q := ⟨_, rfl⟩
  rw [hQ] at h2 hparts
  obtain ⟨R, hRR⟩ : ∃ R, nextL ts len u = R := ⟨_, rfl⟩
  rw [hRR] at h3 hparts
  have hQn : Q.length + R.length + 1 = A.length := by rw [← hparts]; simp; omega
  have HPA := Lib.hid (And.intro hparts hAg.once)
  clear hparts hAg hA hQ hRR hl1 hl2 hu1 hu2 HPQ HX HU HR q3 q1
  go_wp2_with fail
  refine (h1.out _ (HB3.out.alloc HB3.out.size _) _ (reads_one (cell_alloc_new' _ #[.int .i64 (x : Int)] 3 rfl rfl) (by omega) (by unfold maxLen; omega))).mono ?_
  rintro e w6 ⟨v6, rfl, ho6, hb6⟩
  have HB6 := Lib.hid ((HB3.out.alloc HB3.out.size (.cells #[.int .i64 (x : Int)] 3)).trans (hb6.out.mono (by have := HB3.out.size; simp; omega)))
  have HR6 := Lib.hid ho6.out.reads
  obtain ⟨a6, c6, hv6, _⟩ := ho6.out.reads.nil
  rw [List.length_map] at hv6
  subst hv6
  clear ho6 hb6 HB3 h1
  have hb67 : Below w6.heap.size w6 ((w6.alloc (.cells #[.int .i64 (x : Int)] 3)).alloc (.cells #[.int .i64 (u : Int)] 3)) := ((Below.refl _ _).alloc (Nat.le_refl _) _).alloc (by simp) _
  have HB67 := Lib.hid hb67
  clear hb67
  go_wp2_with fail
  refine (h2.out _ (HB6.out.trans (HB67.out.mono HB6.out.size)) _ _ (reads_one (cell_alloc_old (cell_alloc_new' w6 #[.int .i64 (x : Int)] 3 rfl rfl) _) (by omega) (by unfold maxLen; omega)) (reads_one (cell_alloc_new' _ #[.int .i64 (u : Int)] 3 (by simp) rfl) (by omega) (by unfold maxLen; omega))).mono ?_
  rintro e w7 ⟨v7, rfl, ho7, hb7⟩
  have hb67 : Below w6.heap.size w6 w7 := HB67.out.trans (hb7.out.mono HB67.out.size)
  have HB7 := Lib.hid (HB6.out.trans (hb67.mono HB6.out.size))
  have HR67 := Lib.hid (HR6.out.below hb67)
  have HR7 := Lib.hid ho7.out.reads
  obtain ⟨a7, c7, hv7, _⟩ := ho7.out.reads.nil
  rw [List.length_map] at hv7
  subst hv7
  clear ho7 hb7 HB6 HB67 HR6 hb67 h2
  go_wp2_with fail
  refine (h3.out _ (HB7.out.alloc HB7.out.size _) _ (reads_one (cell_alloc_new' _ #[.int .i64 (u : Int)] 3 rfl rfl) (by omega) (by unfold maxLen; omega))).mono ?_
  rintro e w8 ⟨v8, rfl, ho8, hb8⟩
  have hb78 : Below w7.heap.size w7 w8 := ((Below.refl _ _).alloc (Nat.le_refl _) (.cells #[.int .i64 (u : Int)] 3)).trans (hb8.out.mono (by simp))
  have HB8 := Lib.hid (HB7.out.trans (hb78.mono HB7.out.size))
  have HR68 := Lib.hid (HR67.out.below hb78)
  have HR78 := Lib.hid (HR7.out.below hb78)
  have HR8 := Lib.hid ho8.out.reads
  obtain ⟨a8, c8, hv8, _⟩ := ho8.out.reads.nil
  rw [List.length_map] at hv8
  subst hv8
  clear ho8 hb8 hb78 HB7 HR67 HR7 h3
  have hrQ : Row (w8.alloc (.cells #[] 3)) a7 Q.length (Q.map intV) := (reads_row HR78.out).below ((Below.refl _ _).alloc (Nat.le_refl _) _)
  have hoE := owns_empty w8 w8.heap.size (Nat.le_refl _) 3
  have HQ := Lib.hid (And.intro hrQ hoE)
  clear hrQ hoE
  go_wp2_with (at_builtin; refine wpList_append_reads_g rfl _ _ 23 rfl w8.heap.size 3 i0 (.int .i64 0) 8 Try.underlying23 hi hz0 hz1 hz2 rfl _ _ _ [] rfl HQ.out.2 a7 Q.length c7 (Q.map intV) rfl HQ.out.1 intV_one (by unfold maxLen; omega) (by omega) (by simp) ?_)
  intro b9 c9 w9 hown9 hgrow9
  have hb89 : Below w8.heap.size w8 w9 := ((Below.refl _ _).alloc (Nat.le_refl _) (.cells #[] 3)).grown hgrow9 (by simp) (fun q hq => by simp [Value.ownBlock] at hq; omega)
  have HO9 := Lib.hid (World.ownsRow.alloc hown9 (.cells #[.int .i64 (u : Int)] 3))
  have hr1 : Row (w9.alloc (.cells #[.int .i64 (u : Int)] 3)) (some ⟨w9.heap.size, 0, none⟩) 1 [.int .i64 (u : Int)] := ⟨rfl, by simp [maxLen], fun _ => ⟨w9.heap.size, 0, rfl, fun i hi => by
    obtain rfl : i = 0 := by omega
    exact cell_alloc_new' _ _ _ rfl rfl⟩⟩
  have HR1 := Lib.hid hr1
  have HB89 := Lib.hid hb89
  have hl9 := fun q hq => (World.ownsRow.lt hown9 q hq).1
  have HL9 := Lib.hid hl9
  have hs89 := hb89.size
  clear hown9 hgrow9 hb89 hr1 hl9 HQ
  go_wp2_with (at_builtin; refine wpList_append_reads_g rfl _ _ 23 rfl w8.heap.size 3 i0 (.int .i64 0) 8 Try.underlying23 hi hz0 hz1 hz2 rfl _ _ _ (Q.map intV) rfl HO9.out (some ⟨w9.heap.size, 0, none⟩) 1 1 [.int .i64 (u : Int)] rfl HR1.out (by simp [Value.oneCell']) (by unfold maxLen; omega) (by omega) (by simp; omega) ?_)
  intro b10 c10 w10 hown10 hgrow10
  have hb810 : Below w8.heap.size w8 w10 := (HB89.out.alloc HB89.out.size (.cells #[.int .i64 (u : Int)] 3)).grown hgrow10 (by simp; omega) (fun q hq => HL9.out q hq)
  have hrR : Row w10 a8 R.length (R.map intV) := (reads_row HR8.out).below hb810
  have HO10 := Lib.hid (And.intro hown10 hrR)
  have HB810 := Lib.hid hb810
  have hs810 := hb810.size
  clear hown10 hgrow10 hb810 hrR HB89 HL9 HO9 HR1
  go_wp2_with (at_builtin; refine wpList_append_reads_g rfl _ _ 23 rfl w8.heap.size 3 i0 (.int .i64 0) 8 Try.underlying23 hi hz0 hz1 hz2 rfl _ _ _ (Q.map intV ++ [.int .i64 (u : Int)]) rfl HO10.out.1 a8 R.length c8 (R.map intV) rfl HO10.out.2 intV_one (by unfold maxLen; omega) (by omega) (by omega) ?_)
  intro b11 c11 w11 hown11 hgrow11
  have hb811 : Below w8.heap.size w8 w11 := HB810.out.grown hgrow11 HB810.out.size (fun q hq => (World.ownsRow.lt HO10.out.1 q hq).1)
  have hln : Q.length + 1 + R.length = A.length := by omega
  have hvals : Q.map intV ++ (.int .i64 (u : Int) :: R.map intV) = A.map intV := by rw [← HPA.out.1]; simp [intV]
  rw [hvals, hln] at hown11
  try rw [hln]
  have hr11 : ReadsAs w11 (.slice b11 A.length c11) (A.map intV) := owns_reads (l := A.map intV) (by simpa using hown11)
  have hso := sameOnce_any _ _ A w11 (HR68.out.below hb811) hr11 HPA.out.2 (by omega)
  have HSO := Lib.hid hso
  have HB11 := Lib.hid (HB8.out.trans (hb811.mono HB8.out.size))
  clear hown11 hgrow11 hb811 hln hvals hr11 hso HO10 HB810 HR68 HR78 HR8 HB8
  go_wp2_with fail
  refine HSO.out.mono ?_
  rintro e w12 ⟨rfl, hb12⟩
  have HB12 := Lib.hid (HB11.out.trans (hb12.mono HB11.out.size))
  clear hb12 HSO HB11
  go_wp2
  go_ret
  exact ⟨rfl, HB12.out⟩

end lawFnNextUntilParts
end Go.Proofs.Ytjidbnegoailcaa
