/- The reference's Shaped, of nodes whose sizes are right: it says yes; the law's told7. A forest's order as data is the tree of a document, by its sizes and kinds; plain. Where the kids of a node stand in a forest's order; plain. -/
import Derived.Test.YtoleejaabiafcaaSized
import Derived.Test.YtoleejaabiafcaaWoodAll
import Derived.Test.YtoleejaabiafcaaRightAll
namespace Go.Proofs.Ytoleejaabiafcaa
open Go.RowKit
set_option linter.unusedVariables false
set_option linter.unusedSimpArgs false

/-- Nodes as data that are the tree of a document, by their sizes and kinds. -/
structure ShapedT (ts : List NodeD) (len : Nat) : Prop where
  pos : 0 < len
  root : sz ts 0 = len
  size : ∀ j, j < len → (ts.getD j default).size = (sz ts j : Int)
  nest : Nest (sz ts) len
  kinds : ∀ j, j < len → ((ts.getD j default).kind = 1 ∧ j = 0) ∨ ((ts.getD j default).kind = 2 ∧ 0 < j ∧ sz ts j = 1) ∨ ((ts.getD j default).kind = 3 ∧ 0 < j) ∨ ((ts.getD j default).kind = 4 ∧ 0 < j ∧ sz ts j = 1) ∨ ((ts.getD j default).kind = 5 ∧ 0 < j ∧ sz ts j = 1)

theorem ShapedT.rootKind {ts : List NodeD} {len : Nat} (h : ShapedT ts len) : (ts.getD 0 default).kind = 1 := by
  rcases h.kinds 0 h.pos with h | h | h | h | h
  · exact h.1
  all_goals (have := h.2; omega)

set_option maxRecDepth 100000 in
set_option maxHeartbeats 1000000 in
theorem sizedYes_any (a : Option Addr) (len cap : Nat) (ts : List NodeD) (hS : ShapedT ts len) (d : Nat) : ∀ (at_ end_ : Nat) (w : World), Nodes w a len ts → at_ < len → at_ + sz ts at_ ≤ end_ → sz ts at_ ≤ d → end_ ≤ 100000 → d ≤ 100000 →
    Calls Try.prog 69 #[.slice a len cap, .int .i64 at_, .int .i64 end_, .int .i64 d] w (fun e w' => e = .returned (.bool true) ∧ w = w') := by
  induction d with
  | zero =>
    intro at_ end_ w h hat _ h0 _ _
    have := hS.nest.pos at_ hat
    omega
  | succ d ih =>
    intro at_ end_ w h hat hend hd he hdl
    have hm := h.len.2
    have HN := Lib.hid h
    obtain ⟨b, off, rfl, hc⟩ := h.at (by omega)
    have c4 := (hc at_ hat).size
    rw [hS.size at_ hat] at c4
    have hp := hS.nest.pos at_ hat
    have g0 : (((d : Int) + 1) == 0) = false := by simp; omega
    rw [show (((d + 1 : Nat) : Int)) = (d : Int) + 1 from by omega]
    obtain ⟨s, hs⟩ : ∃ s, sz ts at_ = s := ⟨_, rfl⟩
    rw [hs] at c4 hend hd hp
    have HSZ := Lib.hid hs
    have HC := Lib.hid hc
    have IH := Lib.hid ih
    have HS := Lib.hid hS
    have g1 : decide ((s : Int) < (1 : Int)) = false := by simp; omega
    have g2 : decide ((end_ : Int) - (at_ : Int) < (s : Int)) = false := by simp; omega
    clear h hc ih hs hS
    go_enter Try.func69, Try.ntmps69
    go_wp2
    go_loop [10] (fun i => ∃ k : Nat, at_ + 1 ≤ k ∧ k ≤ at_ + s ∧ i = .int .i64 k) (fun i => at_ + s - (intOf i).toNat)
    case atStart => exact ⟨at_ + 1, by omega, by omega, by go_num⟩
    case round =>
      obtain ⟨k, hk1, hk2, rfl⟩ := hrel
      by_cases hlt : k < at_ + s
      · have hfit := HS.out.nest.fit at_ hat
        rw [HSZ.out] at hfit
        have hkl : k < len := by omega
        have c4k := (HC.out k hkl).size
        rw [HS.out.size k hkl] at c4k
        have hlam := HS.out.nest.lam at_ k hat (by omega) (by rw [HSZ.out]; exact hlt)
        rw [HSZ.out] at hlam
        have hkp := HS.out.nest.pos k hkl
        have hcall := IH.out k (at_ + s) w HN.out hkl hlam (by omega) (by omega) (by omega)
        have ecast : (((at_ + s : Nat) : Int)) = (at_ : Int) + (s : Int) := by omega
        rw [ecast] at hcall
        have HCALL := Lib.hid hcall
        have hkI : (k : Int) < (at_ : Int) + (s : Int) := by omega
        obtain ⟨y, hy⟩ : ∃ y, sz ts k = y := ⟨_, rfl⟩
        rw [hy] at c4k hlam hkp
        clear hcall ecast hy
        go_wp2_with fail
        refine HCALL.out.mono ?_
        rintro e w' ⟨rfl, rfl⟩
        go_wp2
        go_round
        case rel => exact ⟨k + y, by omega, by omega, by go_num⟩
        case measure => simp [intOf]; omega
      · obtain rfl : k = at_ + s := by omega
        have hkI : ¬ ((at_ : Int) + (s : Int) < (at_ : Int) + (s : Int)) := by omega
        go_wp2
        go_ret
        exact ⟨rfl, rfl⟩

set_option maxRecDepth 100000 in
set_option maxHeartbeats 4000000 in
theorem shaped_any (a : Option Addr) (len cap : Nat) (ts : List NodeD) (w : World) (hN : Nodes w a len ts) (hS : ShapedT ts len) (hlen : len ≤ 1999) :
    Calls Try.prog 53 #[.slice a len cap] w (YesB w) := by
  have hpos := hS.pos
  have HS := Lib.hid hS
  have HN := Lib.hid hN
  obtain ⟨b, off, rfl, hc⟩ := hN.at hpos
  have c00 := (hc 0 hpos).kind
  have c04 := (hc 0 hpos).size
  rw [hS.rootKind] at c00
  rw [hS.size 0 hpos, hS.root] at c04
  rw [Nat.zero_mul, Nat.add_zero] at c00 c04
  have gl : ((len : Int) == 0) = false := by simp; omega
  have gl2 : ((len : Int) != (len : Int)) = false := by simp
  have HC := Lib.hid hc
  clear hN hS hc
  go_enter Try.func53, Try.ntmps53
  go_wp2
  go_loopw [3] (fun i wr => ∃ k : Nat, k ≤ len ∧ i = .int .i64 (k : Int) ∧ Hid (Below w.heap.size w wr)) (fun i _ => len - (intOf i).toNat)
  case atStart => exact ⟨0, by omega, by go_num, Lib.hid (Below.refl _ _)⟩
  case round =>
    obtain ⟨k, hk, rfl, HB⟩ := hrel
    clear c00 c04
    by_cases hlt : k < len
    · have n1 := (HC.out k hlt).below HB.out
      have hsz := HS.out.size k hlt
      have hkinds := HS.out.kinds k hlt
      have hp := HS.out.nest.pos k hlt
      have hf := HS.out.nest.fit k hlt
      obtain ⟨s, hs⟩ : ∃ s, sz ts k = s := ⟨_, rfl⟩
      rw [hs] at hsz hkinds hp hf
      obtain ⟨m1, hm1⟩ : ∃ m, ts.getD k default = m := ⟨_, rfl⟩
      rw [hm1] at n1 hsz hkinds
      obtain ⟨k1, t1, x1, aa1, al1, ac1, l1, z1⟩ := m1
      simp only at hsz hkinds
      subst hsz
      have p0 := n1.kind
      have p1 := n1.tag
      have p2 := n1.text
      have p3 := n1.attrs
      have p4 := n1.size
      simp only at p0 p1 p2 p3 p4
      have hkI : (k : Int) < (len : Int) := by omega
      have s1 : decide ((s : Int) < 1) = false := by simp; omega
      have s2 : decide ((len : Int) - (k : Int) < (s : Int)) = false := by simp; omega
      have hbs := HB.out.size
      have HB9 := Lib.hid (HB.out.alloc hbs (.cells #[.int .i64 k1, .string t1, .string x1, .slice aa1 al1 ac1, .int .i64 (s : Int)] 39))
      clear n1 hm1 hs
      rcases hkinds with ⟨rfl, rfl⟩ | ⟨rfl, h0, rfl⟩ | ⟨rfl, h0⟩ | ⟨rfl, h0, rfl⟩ | ⟨rfl, h0, rfl⟩
      · have s3 : decide ((0 : Int) < ((0 : Nat) : Int)) = false := by simp
        rw [Nat.zero_mul, Nat.add_zero] at p0 p1 p2 p3 p4
        have s5 : decide (len < s) = false := by simp; omega
        have s6 : ¬ len < s := by omega
        by_cases h2 : (1 : Int) < (s : Int)
        · have s4 : decide ((1 : Int) < (s : Int)) = true := by simpa using h2
          clear h2
          go_wp2
          refine ⟨?rel, ?measure⟩
          case rel => exact ⟨0 + 1, by omega, by go_num, HB9⟩
          case measure => simp [intOf]; omega
        · have s4 : decide ((1 : Int) < (s : Int)) = false := by simpa using h2
          clear h2
          go_wp2
          go_roundw
          case rel => exact ⟨0 + 1, by omega, by go_num, HB9⟩
          case measure => simp [intOf]; omega
      · have s3 : decide ((0 : Int) < (k : Int)) = true := by simp; omega
        have s5 : decide ((len : Int) - (k : Int) < 1) = false := by simp; omega
        have s6 : ¬ ((len : Int) - (k : Int) < 1) := by omega
        go_wp2
        go_roundw
        case rel => exact ⟨k + 1, by omega, by go_num, HB9⟩
        case measure => simp [intOf]; omega
      · have s3 : decide ((0 : Int) < (k : Int)) = true := by simp; omega
        by_cases h2 : (1 : Int) < (s : Int)
        · have s4 : decide ((1 : Int) < (s : Int)) = true := by simpa using h2
          clear h2
          go_wp2
          refine ⟨?rel, ?measure⟩
          case rel => exact ⟨k + 1, by omega, by go_num, HB9⟩
          case measure => simp [intOf]; omega
        · have s4 : decide ((1 : Int) < (s : Int)) = false := by simpa using h2
          clear h2
          go_wp2
          go_roundw
          case rel => exact ⟨k + 1, by omega, by go_num, HB9⟩
          case measure => simp [intOf]; omega
      · have s3 : decide ((0 : Int) < (k : Int)) = true := by simp; omega
        have s5 : decide ((len : Int) - (k : Int) < 1) = false := by simp; omega
        have s6 : ¬ ((len : Int) - (k : Int) < 1) := by omega
        go_wp2
        go_roundw
        case rel => exact ⟨k + 1, by omega, by go_num, HB9⟩
        case measure => simp [intOf]; omega
      · have s3 : decide ((0 : Int) < (k : Int)) = true := by simp; omega
        have s5 : decide ((len : Int) - (k : Int) < 1) = false := by simp; omega
        have s6 : ¬ ((len : Int) - (k : Int) < 1) := by omega
        go_wp2
        go_roundw
        case rel => exact ⟨k + 1, by omega, by go_num, HB9⟩
        case measure => simp [intOf]; omega
    · obtain rfl : k = len := by omega
      have hsz := sizedYes_any (some ⟨b, off, none⟩) k cap ts HS.out 2000 0 k wr (HN.out.below HB.out) hpos (by rw [Nat.zero_add, HS.out.root]; omega) (by rw [HS.out.root]; omega) (by omega) (by omega)
      have HSZ := Lib.hid hsz
      clear hsz
      go_wp2_with fail
      refine HSZ.out.mono ?_
      rintro e w2 ⟨rfl, rfl⟩
      go_wp2
      go_ret
      exact ⟨rfl, HB.out⟩

set_option maxRecDepth 100000 in
set_option maxHeartbeats 1000000 in
theorem told7_any (a : Option Addr) (len cap : Nat) (o : Option Addr) (n ocap : Nat) (ts : List NodeD) (p : Option Addr) (pcap : Nat) (w : World) (hN : Nodes w o n ts) (hS : ShapedT ts n) (hlen : n ≤ 1999) :
    Calls Try.prog 17 #[.slice a len cap, .slice o n ocap, .slice p len pcap, .bool true] w (YesB w) := by
  have hsh := shaped_any o n ocap ts w hN hS hlen
  have HSH := Lib.hid hsh
  have gl : ((len : Int) == (len : Int)) = true := by simp
  clear hsh hN hS
  go_enter Try.func17, Try.ntmps17
  go_wp2_with fail
  refine HSH.out.mono ?_
  rintro e w1 ⟨rfl, hb⟩
  go_wp2
  go_ret
  exact ⟨rfl, hb⟩

end Go.Proofs.Ytoleejaabiafcaa

namespace Go.Proofs.Ytoleejaabiafcaa
set_option linter.unusedVariables false
set_option linter.unusedSimpArgs false

theorem Nest.congr {z z' : Nat → Nat} {n : Nat} (h : Nest z n) (he : ∀ i, i < n → z i = z' i) : Nest z' n := by
  refine ⟨fun i hi => by rw [← he i hi]; exact h.pos i hi, fun i j hi h1 h2 => ?_, fun i hi => by rw [← he i hi]; exact h.fit i hi⟩
  rw [← he i hi] at h2 ⊢
  have h3 := h.fit i hi
  rw [← he j (by omega)]
  exact h.lam i j hi h1 h2

theorem Fs.nest {kids : Nat → List Nat} {xs : List Nat} {C : List (Nat × Nat)} (h : Fs kids xs C) : Nest (fun i => (C.getD i default).2) C.length := by
  induction h with
  | nil => exact ⟨fun i hi => by simp at hi, fun i j hi => by simp at hi, fun i hi => by simp at hi⟩
  | @cons x xs A B h1 h2 ih1 ih2 =>
    have e0 : (((x, A.length + 1) :: (A ++ B)).getD 0 default).2 = A.length + 1 := rfl
    have eA : ∀ i, i < A.length → (((x, A.length + 1) :: (A ++ B)).getD (i + 1) default).2 = (A.getD i default).2 := fun i hi => by
      simp [List.getD_eq_getElem?_getD, List.getElem?_append_left hi]
    have eB : ∀ i, (((x, A.length + 1) :: (A ++ B)).getD (A.length + i + 1) default).2 = (B.getD i default).2 := fun i => by
      simp [List.getD_eq_getElem?_getD, List.getElem?_append_right (show A.length ≤ A.length + i by omega)]
    have cases3 : ∀ i, i < A.length + B.length + 1 → i = 0 ∨ (∃ k, k < A.length ∧ i = k + 1) ∨ ∃ k, k < B.length ∧ i = A.length + k + 1 := fun i hi => by
      by_cases h0 : i = 0
      · exact .inl h0
      · by_cases hA : i ≤ A.length
        · exact .inr (.inl ⟨i - 1, by omega, by omega⟩)
        · exact .inr (.inr ⟨i - 1 - A.length, by omega, by omega⟩)
    have hl : ((x, A.length + 1) :: (A ++ B)).length = A.length + B.length + 1 := by simp
    refine ⟨fun i hi => ?_, fun i j hi hij hj => ?_, fun i hi => ?_⟩
    · rw [hl] at hi
      rcases cases3 i hi with rfl | ⟨k, hk, rfl⟩ | ⟨k, hk, rfl⟩
      · simp only [e0]; omega
      · simp only [eA k hk]; exact ih1.pos k hk
      · simp only [eB k]; exact ih2.pos k hk
    · rw [hl] at hi
      rcases cases3 i hi with rfl | ⟨k, hk, rfl⟩ | ⟨k, hk, rfl⟩
      · simp only [e0] at hj ⊢
        rcases cases3 j (by omega) with rfl | ⟨m, hm, rfl⟩ | ⟨m, hm, rfl⟩
        · simp only [e0]; omega
        · simp only [eA m hm]
          have := ih1.fit m hm
          (try simp only at this)
          omega
        · omega
      · simp only [eA k hk] at hj ⊢
        have hf := ih1.fit k hk
        (try simp only at hf)
        obtain ⟨m, rfl⟩ : ∃ m, j = m + 1 := ⟨j - 1, by omega⟩
        have hm : m < A.length := by omega
        simp only [eA m hm]
        have := ih1.lam k m hk (by omega) (by (try simp only); omega)
        (try simp only at this)
        omega
      · simp only [eB k] at hj ⊢
        have hf := ih2.fit k hk
        (try simp only at hf)
        obtain ⟨m, rfl⟩ : ∃ m, j = A.length + m + 1 := ⟨j - 1 - A.length, by omega⟩
        simp only [eB m]
        have := ih2.lam k m hk (by omega) (by (try simp only); omega)
        (try simp only at this)
        omega
    · rw [hl] at hi ⊢
      rcases cases3 i hi with rfl | ⟨k, hk, rfl⟩ | ⟨k, hk, rfl⟩
      · simp only [e0]; omega
      · simp only [eA k hk]
        have := ih1.fit k hk
        (try simp only at this)
        omega
      · simp only [eB k]
        have := ih2.fit k hk
        (try simp only at this)
        omega

theorem Fs.under {kids : Nat → List Nat} {xs : List Nat} {C : List (Nat × Nat)} (h : Fs kids xs C) : ∀ y ∈ C, ∃ A, Fs kids (kids y.1) A ∧ y.2 = A.length + 1 := by
  induction h with
  | nil => intro y hy; cases hy
  | @cons x xs A B h1 h2 ih1 ih2 =>
    intro y hy
    rcases List.mem_cons.1 hy with rfl | hy
    · exact ⟨A, h1, rfl⟩
    · rcases List.mem_append.1 hy with hy | hy
      · exact ih1 y hy
      · exact ih2 y hy

/-- What an order as data looks like, node for node. -/
def LikeOut (ts' : List NodeD) (lab : Nat → NodeD) (C : List (Nat × Nat)) : Prop := ∀ i, i < C.length → (ts'.getD i default).kind = (lab (C.getD i default).1).kind ∧ (ts'.getD i default).tag = (lab (C.getD i default).1).tag ∧ (ts'.getD i default).text = (lab (C.getD i default).1).text ∧ (ts'.getD i default).attrs = (lab (C.getD i default).1).attrs ∧ (ts'.getD i default).size = ((C.getD i default).2 : Int)

theorem out_shaped {len : Nat} {ts : List NodeD} (hR : RightT ts len) {F : Wd} {C : List (Nat × Nat)} (hC : Fs F.kids [0] C) (hnd : (C.map (·.1)).Nodup) (hlt : ∀ y ∈ C, y.1 < len) (hkk : ∀ x, x < len → F.kids x ≠ [] → (ts.getD x default).kind = 1 ∨ (ts.getD x default).kind = 3) {ts' : List NodeD} (hl : LikeOut ts' (fun i => ts.getD i default) C) : ShapedT ts' C.length := by
  have hsz : ∀ i, i < C.length → sz ts' i = (C.getD i default).2 := fun i hi => by
    unfold sz
    rw [(hl i hi).2.2.2.2]
    simp
  obtain ⟨A, hA, hAk⟩ := hC.one_inv
  have hpos : 0 < C.length := by rw [hA]; simp
  have h0 : C.getD 0 default = (0, A.length + 1) := by rw [hA]; rfl
  have hmem : ∀ i, i < C.length → C.getD i default ∈ C := fun i hi => by rw [List.getD_eq_getElem?_getD, List.getElem?_eq_getElem hi]; exact List.getElem_mem _
  have huniq : ∀ i, i < C.length → (C.getD i default).1 = 0 → i = 0 := fun i hi he => by
    have h1 : i < (C.map (·.1)).length := by simpa using hi
    have h2 : 0 < (C.map (·.1)).length := by simpa using hpos
    refine (List.getElem_inj (h₀ := h1) (h₁ := h2) hnd).1 ?_
    simp only [List.getElem_map]
    have e1 : C[i] = C.getD i default := by rw [List.getD_eq_getElem?_getD, List.getElem?_eq_getElem hi]; rfl
    have e2 : C[0] = C.getD 0 default := by rw [List.getD_eq_getElem?_getD, List.getElem?_eq_getElem hpos]; rfl
    rw [e1, e2, he, h0]
  refine ⟨hpos, ?_, fun j hj => ?_, hC.nest.congr (fun i hi => (hsz i hi).symm), fun j hj => ?_⟩
  · rw [hsz 0 hpos, h0, hA]; simp
  · rw [hsz j hj]; exact (hl j hj).2.2.2.2
  · rw [(hl j hj).1, hsz j hj]
    have hx := hlt _ (hmem j hj)
    obtain ⟨A', hA1, hA2⟩ := hC.under _ (hmem j hj)
    obtain ⟨x, hxx⟩ : ∃ x, (C.getD j default).1 = x := ⟨_, rfl⟩
    rw [hxx] at hx hA1 ⊢
    simp only
    have hone : (ts.getD x default).kind ≠ 1 → (ts.getD x default).kind ≠ 3 → (C.getD j default).2 = 1 := fun h1 h3 => by
      have hk : F.kids x = [] := Classical.byContradiction fun h => by
        rcases hkk x hx h with h | h
        · exact h1 h
        · exact h3 h
      rw [hk] at hA1
      cases hA1
      exact hA2
    have hj0 : (ts.getD x default).kind ≠ 1 → 0 < j := fun h1 => by
      rcases Nat.eq_zero_or_pos j with e | e
      · subst e
        rw [h0] at hxx
        subst hxx
        exact absurd hR.kind h1
      · exact e
    rcases (hR.node x hx).kinds with ⟨h1, h2⟩ | ⟨h1, _⟩ | h1 | ⟨h1, _⟩ | ⟨h1, _⟩
    · subst h2
      exact .inl ⟨h1, huniq j hj hxx⟩
    · exact .inr (.inl ⟨h1, hj0 (by omega), hone (by omega) (by omega)⟩)
    · exact .inr (.inr (.inl ⟨h1, hj0 (by omega)⟩))
    · exact .inr (.inr (.inr (.inl ⟨h1, hj0 (by omega), hone (by omega) (by omega)⟩)))
    · exact .inr (.inr (.inr (.inr ⟨h1, hj0 (by omega), hone (by omega) (by omega)⟩)))

/-- Only documents and elements have kids. -/
theorem wd0_kk {len : Nat} {ts : List NodeD} (hR : RightT ts len) : ∀ x, x < len → (wd0 (sz ts) len).kids x ≠ [] → (ts.getD x default).kind = 1 ∨ (ts.getD x default).kind = 3 := fun x hx h => by
  have hz : 1 < sz ts x := by
    rcases Nat.lt_or_ge 1 (sz ts x) with h1 | h1
    · exact h1
    · have h2 := hR.nest.pos x hx
      have h3 : sz ts x = 1 := by omega
      exfalso
      apply h
      simp only [wd0, if_pos hx, kids, h3]
      exact kidsFrom_end (Nat.le_refl _)
  rcases (hR.node x hx).kinds with ⟨h1, _⟩ | ⟨_, h1⟩ | h1 | ⟨_, h1⟩ | ⟨_, h1⟩
  · exact .inl h1
  · omega
  · exact .inr h1
  · omega
  · omega

theorem cutsW_kids (l : List Nat) : ∀ (F : Wd) (x : Nat), (cutsW F l).kids x ≠ [] → F.kids x ≠ [] := by
  induction l with
  | nil => intro F x h; exact h
  | cons y l ih =>
    intro F x h
    have h1 := ih (F.cut y) x h
    intro h2
    apply h1
    simp only [Wd.cut, h2]
    rfl

end Go.Proofs.Ytoleejaabiafcaa

namespace Go.Proofs.Ytoleejaabiafcaa
set_option linter.unusedVariables false
set_option linter.unusedSimpArgs false

theorem Fs.kidsPos {kids : Nat → List Nat} {xs : List Nat} {D : List (Nat × Nat)} (h : Fs kids xs D) : ∀ (C : List (Nat × Nat)) (o f : Nat), (∀ j, j < D.length → C.getD (o + j) default = D.getD j default) → D.length ≤ f →
    ∃ ps, kidsFrom (fun i => (C.getD i default).2) (o + D.length) f o = ps ∧ ps.length = xs.length ∧ ∀ i, i < xs.length → (C.getD (ps.getD i 0) default).1 = xs.getD i 0 ∧ o ≤ ps.getD i 0 ∧ ps.getD i 0 < o + D.length := by
  induction h with
  | nil =>
    intro C o f _ _
    exact ⟨[], kidsFrom_end (by simp), rfl, fun i hi => by simp at hi⟩
  | @cons x xs A B h1 h2 ih1 ih2 =>
    intro C o f hD hf
    have hl : ((x, A.length + 1) :: (A ++ B)).length = A.length + B.length + 1 := by simp
    rw [hl] at hD hf ⊢
    have h0 := hD 0 (by omega)
    rw [Nat.add_zero] at h0
    have hz : (C.getD o default).2 = A.length + 1 := by rw [h0]; rfl
    have hx : (C.getD o default).1 = x := by rw [h0]; rfl
    have hB : ∀ j, j < B.length → C.getD (o + (A.length + 1) + j) default = B.getD j default := fun j hj => by
      have h3 := hD (A.length + 1 + j) (by omega)
      rw [show o + (A.length + 1) + j = o + (A.length + 1 + j) by omega, h3]
      rw [show A.length + 1 + j = (A.length + j) + 1 by omega]
      simp [List.getD_eq_getElem?_getD, List.getElem?_append_right (show A.length ≤ A.length + j by omega)]
    obtain ⟨g, hg, hst⟩ := kidsFrom_step (z := fun i => (C.getD i default).2) (e := o + (A.length + B.length + 1)) (k := o) (f := f) (by omega) (by omega)
    simp only [hz] at hst
    obtain ⟨ps, p1, p2, p3⟩ := ih2 C (o + (A.length + 1)) g hB (by omega)
    have he : o + (A.length + 1) + B.length = o + (A.length + B.length + 1) := by omega
    rw [he] at p1 p3
    refine ⟨o :: ps, by rw [hst, p1], by simp [p2], fun i hi => ?_⟩
    cases i with
    | zero => exact ⟨by simpa using hx, Nat.le_refl _, by simp⟩
    | succ i =>
      obtain ⟨q1, q2, q3⟩ := p3 i (by simpa using hi)
      refine ⟨by simpa using q1, ?_, by simpa using q3⟩
      have : (o :: ps).getD (i + 1) 0 = ps.getD i 0 := by simp
      rw [this]
      omega

theorem Fs.underAt {kids : Nat → List Nat} {xs : List Nat} {C : List (Nat × Nat)} (h : Fs kids xs C) : ∀ i, i < C.length → ∃ A, Fs kids (kids (C.getD i default).1) A ∧ (C.getD i default).2 = A.length + 1 ∧ (∀ j, j < A.length → C.getD (i + 1 + j) default = A.getD j default) ∧ i + 1 + A.length ≤ C.length := by
  induction h with
  | nil => intro i hi; simp at hi
  | @cons x xs A B h1 h2 ih1 ih2 =>
    intro i hi
    have hl : ((x, A.length + 1) :: (A ++ B)).length = A.length + B.length + 1 := by simp
    have eA : ∀ k, k < A.length → ((x, A.length + 1) :: (A ++ B)).getD (k + 1) default = A.getD k default := fun k hk => by
      simp [List.getD_eq_getElem?_getD, List.getElem?_append_left hk]
    have eB : ∀ k, ((x, A.length + 1) :: (A ++ B)).getD (A.length + k + 1) default = B.getD k default := fun k => by
      simp [List.getD_eq_getElem?_getD, List.getElem?_append_right (show A.length ≤ A.length + k by omega)]
    rw [hl] at hi ⊢
    by_cases h0 : i = 0
    · subst h0
      refine ⟨A, h1, rfl, fun j hj => ?_, by omega⟩
      rw [show 0 + 1 + j = j + 1 by omega]
      exact eA j hj
    · by_cases hA : i ≤ A.length
      · obtain ⟨k, rfl⟩ : ∃ k, i = k + 1 := ⟨i - 1, by omega⟩
        obtain ⟨D, d1, d2, d3, d4⟩ := ih1 k (by omega)
        rw [eA k (by omega)]
        refine ⟨D, d1, d2, fun j hj => ?_, by omega⟩
        rw [show k + 1 + 1 + j = (k + 1 + j) + 1 by omega, eA _ (by omega)]
        exact d3 j hj
      · obtain ⟨k, rfl⟩ : ∃ k, i = A.length + k + 1 := ⟨i - 1 - A.length, by omega⟩
        obtain ⟨D, d1, d2, d3, d4⟩ := ih2 k (by omega)
        rw [eB k]
        refine ⟨D, d1, d2, fun j hj => ?_, by omega⟩
        rw [show A.length + k + 1 + 1 + j = A.length + (k + 1 + j) + 1 by omega, eB]
        exact d3 j hj

theorem kidsFrom_congr {z z' : Nat → Nat} {e n : Nat} (h : ∀ i, i < n → z i = z' i) (he : e ≤ n) : ∀ f k, kidsFrom z e f k = kidsFrom z' e f k := by
  intro f
  induction f with
  | zero => intro k; rfl
  | succ f ih =>
    intro k
    simp only [kidsFrom]
    by_cases hk : k < e
    · simp only [hk, if_true]
      rw [h k (by omega), ih]
    · simp only [hk, if_false]

/-- The kids of a node in the order, by its data. -/
theorem kids_pos {kids0 : Nat → List Nat} {xs : List Nat} {C : List (Nat × Nat)} (h : Fs kids0 xs C) {ts' : List NodeD} (hsz : ∀ i, i < C.length → sz ts' i = (C.getD i default).2) {i : Nat} (hi : i < C.length) :
    (kids (sz ts') i).length = (kids0 (C.getD i default).1).length ∧ ∀ j, j < (kids0 (C.getD i default).1).length → (C.getD ((kids (sz ts') i).getD j 0) default).1 = (kids0 (C.getD i default).1).getD j 0 ∧ (kids (sz ts') i).getD j 0 < C.length := by
  obtain ⟨A, a1, a2, a3, a4⟩ := h.underAt i hi
  obtain ⟨ps, p1, p2, p3⟩ := a1.kidsPos C (i + 1) (A.length + 1) a3 (by omega)
  have he : kids (sz ts') i = ps := by
    unfold kids
    rw [hsz i hi, a2, kidsFrom_congr (n := C.length) hsz (by omega), show i + (A.length + 1) = i + 1 + A.length by omega]
    exact p1
  rw [he]
  refine ⟨p2, fun j hj => ?_⟩
  obtain ⟨q1, _, q3⟩ := p3 j hj
  exact ⟨q1, by omega⟩

theorem posFrom_at {C : List (Nat × Nat)} (hnd : (C.map (·.1)).Nodup) {q : Nat} (hq : q < C.length) : posFrom (C.map (·.1)) 0 (C.getD q default).1 = (q : Int) := by
  have key : ∀ (l : List Nat) (N k : Nat) (hk : k < l.length), l.Nodup → posFrom l N (l[k]) = ((N + k : Nat) : Int) := by
    intro l
    induction l with
    | nil => intro N k hk; simp at hk
    | cons y r ih =>
      intro N k hk hd
      rw [List.nodup_cons] at hd
      cases k with
      | zero => simp [posFrom]
      | succ k =>
        have hk' : k < r.length := by simpa using hk
        have hne : y ≠ r[k] := fun e => hd.1 (by rw [e]; exact List.getElem_mem _)
        simp only [List.getElem_cons_succ, posFrom, if_neg hne]
        rw [ih (N + 1) k hk' hd.2]
        congr 1
        omega
  have h1 := key (C.map (·.1)) 0 q (by simpa using hq) hnd
  rw [List.getElem_map] at h1
  have e1 : C.getD q default = C[q] := by rw [List.getD_eq_getElem?_getD, List.getElem?_eq_getElem hq]; rfl
  rw [e1, h1]
  simp

/-- Where a node of the order stands. -/
theorem pos_of {C : List (Nat × Nat)} (hnd : (C.map (·.1)).Nodup) {y : Nat} (hy : y ∈ C.map (·.1)) : ∃ q, q < C.length ∧ (C.getD q default).1 = y ∧ posFrom (C.map (·.1)) 0 y = (q : Int) := by
  obtain ⟨q, hq, he⟩ := List.getElem_of_mem hy
  have hq' : q < C.length := by simpa using hq
  have e2 : (C.getD q default).1 = y := by
    rw [← he, List.getElem_map, List.getD_eq_getElem?_getD, List.getElem?_eq_getElem hq']
    rfl
  refine ⟨q, hq', e2, ?_⟩
  have := posFrom_at hnd hq'
  rwa [e2] at this

end Go.Proofs.Ytoleejaabiafcaa

