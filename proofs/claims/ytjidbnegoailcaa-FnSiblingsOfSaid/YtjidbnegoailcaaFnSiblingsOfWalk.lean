/- The walk of FnSiblingsOf. (Printed by gen_sibwalk.py.) -/
import Derived.Test.YtjidbnegoailcaaSibEnd
import Derived.Test.YtjidbnegoailcaaRisingAll
import Derived.Test.YtjidbnegoailcaaRelated31
namespace Go.Proofs.Ytjidbnegoailcaa
open Go.RowKit
set_option linter.unusedVariables false
set_option linter.unusedSimpArgs false

theorem sib_mem {ts : List NodeD} {len x p y : Nat} (hx : par (sz ts) x = some p) (hxl : x < len) : y ∈ sibL ts len x ↔ y ∈ prevL ts x ++ nextL ts len x := by
  rw [sibL_of hx, prevL_of hx, nextL_of hx, List.mem_append, List.mem_reverse, lb_mem_iff, rb_mem, rb_mem]
  have hpx := (par_some hx).1
  unfold elSkip elKid
  constructor
  · rintro ⟨h1, h2, h3⟩
    simp at h3
    rcases Nat.lt_trichotomy y x with h | h | h
    · exact .inl ⟨h, by simp [h3]⟩
    · exact absurd h h3.2.2
    · exact .inr ⟨by omega, by omega, by simp [h3]⟩
  · rintro (⟨h1, h2⟩ | ⟨h1, h2, h3⟩)
    · simp at h2
      have := (par_some h2.1).1
      exact ⟨by omega, by omega, by simp [h2]; omega⟩
    · simp at h3
      exact ⟨by omega, by omega, by simp [h3]; omega⟩

theorem results_cell_FnSiblingsOf {fn : Func} {p : Tmp} {ty : TypeId} (h : fn.results = #[.cell p ty]) (tmps : Array Value) (P : Program) (w : World) :
    (results fn tmps).run P w = ((asAddr (tmps.getD p undef)).run P w).andThen fun a w₁ => (loadVar ty a).run P w₁ := by
  simp only [results, h]
  simp [Sem.run_bind, Result.andThen]

set_option maxRecDepth 100000 in
theorem by7_FnSiblingsOf (op : Int) (w : World) : Calls Try.prog 16 #[.int .i64 op] w (Gives (.agg #[.int .i64 op, .string ⟨#[]⟩, .slice none 0 0, .int .i64 0, .int .i64 0]) w) := by
  go_enter Try.func16, Try.ntmps16
  go_wp2
  refine bodyPost_ret (v := .agg #[.int .i64 op, .string ⟨#[]⟩, .slice none 0 0, .int .i64 0, .int .i64 0]) ?_ rfl ?_
  · rw [results_cell_FnSiblingsOf rfl]
    go_simp
    try rfl
  · exact ⟨rfl, (Below.refl _ _).alloc (Nat.le_refl _) _⟩

namespace lawFnSiblingsOf

set_option maxRecDepth 100000 in
set_option maxHeartbeats 4000000 in
theorem walk {W : World} (a : Option Addr) (len cap : Nat) (ts : List NodeD) (h : Nodes W a len ts ∧ len ≤ cap ∧ cap ≤ maxLen) (a1 : Option Addr) (n1 c1 : Nat) (z1 : List Int) (h1 : Ints W a1 n1 z1 ∧ n1 ≤ c1 ∧ c1 ≤ maxLen) :
    Calls Try.prog 6 #[.slice a len cap, .slice a1 n1 c1] W (YesB W) := by
  obtain ⟨hN, hN2⟩ := h
  obtain ⟨h1, hc1⟩ := h1
  have hm1 := h1.open.2.1
  have HN := Lib.hid hN
  have H1 := Lib.hid (And.intro h1 hc1)
  clear hN hN2 h1 hc1
  go_enter Try.func6, Try.ntmps6
  go_wp2_with fail
  refine (fits1_any a len cap ts W HN.out).mono ?_
  rintro e w1 ⟨b1, _, rfl, hb1⟩
  have HB1 := Lib.hid hb1
  clear hb1
  cases b1
  · go_wp2
    go_ret
    exact ⟨rfl, HB1.out⟩
  by_cases q1 : (2147483647 : Int) < (n1 : Int)
  · have g1 : decide ((2147483647 : Int) < (n1 : Int)) = true := by simp [q1]
    clear q1
    go_wp2
    go_ret
    exact ⟨rfl, HB1.out⟩
  have g1 : decide ((2147483647 : Int) < (n1 : Int)) = false := by simp [q1]
  clear q1
  go_wp2_with fail
  refine (rising3_any a len cap ts a1 n1 c1 z1 w1 (HN.out.below HB1.out) ⟨H1.out.1.below HB1.out, H1.out.2⟩).mono ?_
  rintro e w2 ⟨b2, hb2, rfl, hbel2⟩
  have HB2 := Lib.hid (HB1.out.trans (hbel2.mono HB1.out.size))
  clear hbel2 HB1
  cases b2
  · go_wp2
    go_ret
    exact ⟨rfl, HB2.out⟩
  obtain ⟨hR, l, hp, hk⟩ := hb2 rfl
  have hle : l.length ≤ 200 := Nat.le_trans hp.le hR.le
  have hlen := hR.le
  have hpos : ∀ i ∈ l, 0 < i := fun i hi => by
    rcases Nat.eq_zero_or_pos i with h0 | h0
    · have h3 := hk i hi
      rw [h0, hR.kind] at h3
      omega
    · exact h0
  have hrd := fun (w : World) (hb : Below W.heap.size W w) => hp.reads (H1.out.1.below hb) H1.out.2.1 H1.out.2.2
  have hrel := fun (w : World) (hb : Below W.heap.size W w) => related_31 a len cap ts (.slice a1 n1 c1) l w hR (HN.out.below hb) (hrd w hb) hp.lt hle
  have himp := fun (w : World) (hb : Below W.heap.size W w) => implSiblingsOf w a len cap ts hR (HN.out.below hb) (.slice a1 n1 c1) l (hrd w hb) hp.lt hp.once hle hpos
  have hon1 := onceF_once (l.flatMap (fn_0 ts len))
  have hon2 := onceF_once (l.flatMap (fun x => prevL ts x ++ nextL ts len x))
  have hmem : ∀ y, y ∈ onceF (l.flatMap (fn_0 ts len)) ↔ y ∈ onceF (l.flatMap (fun x => prevL ts x ++ nextL ts len x)) := fun y => by
    rw [onceF_mem, onceF_mem, List.mem_flatMap, List.mem_flatMap]
    constructor
    · rintro ⟨x, hx, hy⟩
      obtain ⟨p, hpx⟩ := par_is hR.root (hp.lt x hx) (hpos x hx)
      exact ⟨x, hx, (sib_mem hpx (hp.lt x hx)).1 hy⟩
    · rintro ⟨x, hx, hy⟩
      obtain ⟨p, hpx⟩ := par_is hR.root (hp.lt x hx) (hpos x hx)
      exact ⟨x, hx, (sib_mem hpx (hp.lt x hx)).2 hy⟩
  have hKl : (onceF (l.flatMap (fn_0 ts len))).length ≤ 200 := Nat.le_trans (once_le (onceF_once _) (flat_lt (fun x hx => fn_0_good ts len x (hp.lt x hx)))) hlen
  have hll := once_same_len hon2 hon1 (fun y => (hmem y).symm)
  obtain ⟨K, hK⟩ : ∃ K, onceF (l.flatMap (fn_0 ts len)) = K := ⟨_, rfl⟩
  obtain ⟨M, hM⟩ : ∃ M, onceF (l.flatMap (fun x => prevL ts x ++ nextL ts len x)) = M := ⟨_, rfl⟩
  rw [hK] at himp hmem hon1 hKl hll
  rw [hM] at hrel hmem hon2 hll
  have HREL := Lib.hid hrel
  have HIMP := Lib.hid himp
  have HON := Lib.hid (And.intro hon1 (And.intro hmem hll))
  clear hb2 hR hp hle hrd hrel himp hon1 hon2 hmem hll hK hM hk hpos
  go_wp2_with fail
  refine (by7_FnSiblingsOf 31 w2).mono ?_
  rintro e w3 ⟨rfl, hb3⟩
  have HB3 := Lib.hid (HB2.out.trans (hb3.mono HB2.out.size))
  clear hb3 HB2
  have HRL := Lib.hid (HREL.out w3 HB3.out)
  go_wp2_with fail
  refine HRL.out.mono ?_
  rintro e w4 ⟨v4, rfl, ho4, hb4⟩
  have HB4 := Lib.hid (HB3.out.trans (hb4.out.mono HB3.out.size))
  have hr4 := ho4.out.reads
  obtain ⟨a4, c4, hv4, _⟩ := hr4.nil
  rw [List.length_map, HON.out.2.2] at hv4
  subst hv4
  have HR4 := Lib.hid hr4
  clear hr4 ho4 hb4 HB3
  have HIM := Lib.hid (HIMP.out w4 HB4.out)
  go_wp2_with fail
  refine HIM.out.mono ?_
  rintro e w5 ⟨v5, rfl, ho5, hb5⟩
  have HB5 := Lib.hid (HB4.out.trans (hb5.out.mono HB4.out.size))
  have hr5 := ho5.out.reads
  have hr45 := HR4.out.below hb5.out
  have hso := sameOnce2_any v5 _ K M w5 hr5 hr45 HON.out.1 HON.out.2.2 (fun x hx => (HON.out.2.1 x).1 hx) (by omega)
  obtain ⟨a5, c5, hv5, _⟩ := hr5.nil
  rw [List.length_map] at hv5
  subst hv5
  have HSO := Lib.hid hso
  clear hr5 hr45 ho5 hb5 HIM HB4 hso
  go_wp2_with fail
  refine HSO.out.mono ?_
  rintro e w6 ⟨rfl, hb6⟩
  have HB6 := Lib.hid (HB5.out.trans (hb6.mono HB5.out.size))
  clear hb6 HSO HB5
  go_wp2
  go_ret
  exact ⟨rfl, HB6.out⟩

end lawFnSiblingsOf
end Go.Proofs.Ytjidbnegoailcaa
