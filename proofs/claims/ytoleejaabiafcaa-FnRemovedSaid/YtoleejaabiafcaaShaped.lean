/- The reference's Shaped, of nodes whose sizes are right: it says yes; the law's told7. -/
import Derived.Test.YtoleejaabiafcaaSized
import Derived.Test.YtoleejaabiafcaaWoodAll
namespace Go.Proofs.Ytoleejaabiafcaa
open Go.RowKit
set_option linter.unusedVariables false
set_option linter.unusedSimpArgs false

/-- Nodes as data that are the tree of a document, by their sizes and kinds. -/
structure ShapedT (ts : List NodeD) (len : Nat) : Prop where
  pos : 0 < len
  root : sz ts 0 = len
  size : ∀ j, j < len → (ts.getD j default).size = (sz ts j : Int)
  nest : Nest (sz ts) len
  kinds : ∀ j, j < len → ((ts.getD j default).kind = 1 ∧ j = 0) ∨ ((ts.getD j default).kind = 2 ∧ 0 < j ∧ sz ts j = 1) ∨ ((ts.getD j default).kind = 3 ∧ 0 < j) ∨ ((ts.getD j default).kind = 4 ∧ 0 < j ∧ sz ts j = 1) ∨ ((ts.getD j default).kind = 5 ∧ 0 < j ∧ sz ts j = 1)

theorem ShapedT.rootKind {ts : List NodeD} {len : Nat} (h : ShapedT ts len) : (ts.getD 0 default).kind = 1 := by
  rcases h.kinds 0 h.pos with h | h | h | h | h
  · exact h.1
  all_goals (have := h.2; omega)

set_option maxRecDepth 100000 in
set_option maxHeartbeats 1000000 in
theorem sizedYes_any (a : Option Addr) (len cap : Nat) (ts : List NodeD) (hS : ShapedT ts len) (d : Nat) : ∀ (at_ end_ : Nat) (w : World), Nodes w a len ts → at_ < len → at_ + sz ts at_ ≤ end_ → sz ts at_ ≤ d → end_ ≤ 100000 → d ≤ 100000 →
    Calls Try.prog 69 #[.slice a len cap, .int .i64 at_, .int .i64 end_, .int .i64 d] w (fun e w' => e = .returned (.bool true) ∧ w = w') := by
  induction d with
  | zero =>
    intro at_ end_ w h hat _ h0 _ _
    have := hS.nest.pos at_ hat
    omega
  | succ d ih =>
    intro at_ end_ w h hat hend hd he hdl
    have hm := h.len.2
    have HN := Lib.hid h
    obtain ⟨b, off, rfl, hc⟩ := h.at (by omega)
    have c4 := (hc at_ hat).size
    rw [hS.size at_ hat] at c4
    have hp := hS.nest.pos at_ hat
    have g0 : (((d : Int) + 1) == 0) = false := by simp; omega
    rw [show (((d + 1 : Nat) : Int)) = (d : Int) + 1 from by omega]
    obtain ⟨s, hs⟩ : ∃ s, sz ts at_ = s := ⟨_, rfl⟩
    rw [hs] at c4 hend hd hp
    have HSZ := Lib.hid hs
    have HC := Lib.hid hc
    have IH := Lib.hid ih
    have HS := Lib.hid hS
    have g1 : decide ((s : Int) < (1 : Int)) = false := by simp; omega
    have g2 : decide ((end_ : Int) - (at_ : Int) < (s : Int)) = false := by simp; omega
    clear h hc ih hs hS
    go_enter Try.func69, Try.ntmps69
    go_wp2
    go_loop [10] (fun i => ∃ k : Nat, at_ + 1 ≤ k ∧ k ≤ at_ + s ∧ i = .int .i64 k) (fun i => at_ + s - (intOf i).toNat)
    case atStart => exact ⟨at_ + 1, by omega, by omega, by go_num⟩
    case round =>
      obtain ⟨k, hk1, hk2, rfl⟩ := hrel
      by_cases hlt : k < at_ + s
      · have hfit := HS.out.nest.fit at_ hat
        rw [HSZ.out] at hfit
        have hkl : k < len := by omega
        have c4k := (HC.out k hkl).size
        rw [HS.out.size k hkl] at c4k
        have hlam := HS.out.nest.lam at_ k hat (by omega) (by rw [HSZ.out]; exact hlt)
        rw [HSZ.out] at hlam
        have hkp := HS.out.nest.pos k hkl
        have hcall := IH.out k (at_ + s) w HN.out hkl hlam (by omega) (by omega) (by omega)
        have ecast : (((at_ + s : Nat) : Int)) = (at_ : Int) + (s : Int) := by omega
        rw [ecast] at hcall
        have HCALL := Lib.hid hcall
        have hkI : (k : Int) < (at_ : Int) + (s : Int) := by omega
        obtain ⟨y, hy⟩ : ∃ y, sz ts k = y := ⟨_, rfl⟩
        rw [hy] at c4k hlam hkp
        clear hcall ecast hy
        go_wp2_with fail
        refine HCALL.out.mono ?_
        rintro e w' ⟨rfl, rfl⟩
        go_wp2
        go_round
        case rel => exact ⟨k + y, by omega, by omega, by go_num⟩
        case measure => simp [intOf]; omega
      · obtain rfl : k = at_ + s := by omega
        have hkI : ¬ ((at_ : Int) + (s : Int) < (at_ : Int) + (s : Int)) := by omega
        go_wp2
        go_ret
        exact ⟨rfl, rfl⟩

set_option maxRecDepth 100000 in
set_option maxHeartbeats 4000000 in
theorem shaped_any (a : Option Addr) (len cap : Nat) (ts : List NodeD) (w : World) (hN : Nodes w a len ts) (hS : ShapedT ts len) (hlen : len ≤ 1999) :
    Calls Try.prog 53 #[.slice a len cap] w (YesB w) := by
  have hpos := hS.pos
  have HS := Lib.hid hS
  have HN := Lib.hid hN
  obtain ⟨b, off, rfl, hc⟩ := hN.at hpos
  have c00 := (hc 0 hpos).kind
  have c04 := (hc 0 hpos).size
  rw [hS.rootKind] at c00
  rw [hS.size 0 hpos, hS.root] at c04
  rw [Nat.zero_mul, Nat.add_zero] at c00 c04
  have gl : ((len : Int) == 0) = false := by simp; omega
  have gl2 : ((len : Int) != (len : Int)) = false := by simp
  have HC := Lib.hid hc
  clear hN hS hc
  go_enter Try.func53, Try.ntmps53
  go_wp2
  go_loopw [3] (fun i wr => ∃ k : Nat, k ≤ len ∧ i = .int .i64 (k : Int) ∧ Hid (Below w.heap.size w wr)) (fun i _ => len - (intOf i).toNat)
  case atStart => exact ⟨0, by omega, by go_num, Lib.hid (Below.refl _ _)⟩
  case round =>
    obtain ⟨k, hk, rfl, HB⟩ := hrel
    clear c00 c04
    by_cases hlt : k < len
    · have n1 := (HC.out k hlt).below HB.out
      have hsz := HS.out.size k hlt
      have hkinds := HS.out.kinds k hlt
      have hp := HS.out.nest.pos k hlt
      have hf := HS.out.nest.fit k hlt
      obtain ⟨s, hs⟩ : ∃ s, sz ts k = s := ⟨_, rfl⟩
      rw [hs] at hsz hkinds hp hf
      obtain ⟨m1, hm1⟩ : ∃ m, ts.getD k default = m := ⟨_, rfl⟩
      rw [hm1] at n1 hsz hkinds
      obtain ⟨k1, t1, x1, aa1, al1, ac1, l1, z1⟩ := m1
      simp only at hsz hkinds
      subst hsz
      have p0 := n1.kind
      have p1 := n1.tag
      have p2 := n1.text
      have p3 := n1.attrs
      have p4 := n1.size
      simp only at p0 p1 p2 p3 p4
      have hkI : (k : Int) < (len : Int) := by omega
      have s1 : decide ((s : Int) < 1) = false := by simp; omega
      have s2 : decide ((len : Int) - (k : Int) < (s : Int)) = false := by simp; omega
      have hbs := HB.out.size
      have HB9 := Lib.hid (HB.out.alloc hbs (.cells #[.int .i64 k1, .string t1, .string x1, .slice aa1 al1 ac1, .int .i64 (s : Int)] 39))
      clear n1 hm1 hs
      rcases hkinds with ⟨rfl, rfl⟩ | ⟨rfl, h0, rfl⟩ | ⟨rfl, h0⟩ | ⟨rfl, h0, rfl⟩ | ⟨rfl, h0, rfl⟩
      · have s3 : decide ((0 : Int) < ((0 : Nat) : Int)) = false := by simp
        rw [Nat.zero_mul, Nat.add_zero] at p0 p1 p2 p3 p4
        have s5 : decide (len < s) = false := by simp; omega
        have s6 : ¬ len < s := by omega
        by_cases h2 : (1 : Int) < (s : Int)
        · have s4 : decide ((1 : Int) < (s : Int)) = true := by simpa using h2
          clear h2
          go_wp2
          refine ⟨?rel, ?measure⟩
          case rel => exact ⟨0 + 1, by omega, by go_num, HB9⟩
          case measure => simp [intOf]; omega
        · have s4 : decide ((1 : Int) < (s : Int)) = false := by simpa using h2
          clear h2
          go_wp2
          go_roundw
          case rel => exact ⟨0 + 1, by omega, by go_num, HB9⟩
          case measure => simp [intOf]; omega
      · have s3 : decide ((0 : Int) < (k : Int)) = true := by simp; omega
        have s5 : decide ((len : Int) - (k : Int) < 1) = false := by simp; omega
        have s6 : ¬ ((len : Int) - (k : Int) < 1) := by omega
        go_wp2
        go_roundw
        case rel => exact ⟨k + 1, by omega, by go_num, HB9⟩
        case measure => simp [intOf]; omega
      · have s3 : decide ((0 : Int) < (k : Int)) = true := by simp; omega
        by_cases h2 : (1 : Int) < (s : Int)
        · have s4 : decide ((1 : Int) < (s : Int)) = true := by simpa using h2
          clear h2
          go_wp2
          refine ⟨?rel, ?measure⟩
          case rel => exact ⟨k + 1, by omega, by go_num, HB9⟩
          case measure => simp [intOf]; omega
        · have s4 : decide ((1 : Int) < (s : Int)) = false := by simpa using h2
          clear h2
          go_wp2
          go_roundw
          case rel => exact ⟨k + 1, by omega, by go_num, HB9⟩
          case measure => simp [intOf]; omega
      · have s3 : decide ((0 : Int) < (k : Int)) = true := by simp; omega
        have s5 : decide ((len : Int) - (k : Int) < 1) = false := by simp; omega
        have s6 : ¬ ((len : Int) - (k : Int) < 1) := by omega
        go_wp2
        go_roundw
        case rel => exact ⟨k + 1, by omega, by go_num, HB9⟩
        case measure => simp [intOf]; omega
      · have s3 : decide ((0 : Int) < (k : Int)) = true := by simp; omega
        have s5 : decide ((len : Int) - (k : Int) < 1) = false := by simp; omega
        have s6 : ¬ ((len : Int) - (k : Int) < 1) := by omega
        go_wp2
        go_roundw
        case rel => exact ⟨k + 1, by omega, by go_num, HB9⟩
        case measure => simp [intOf]; omega
    · obtain rfl : k = len := by omega
      have hsz := sizedYes_any (some ⟨b, off, none⟩) k cap ts HS.out 2000 0 k wr (HN.out.below HB.out) hpos (by rw [Nat.zero_add, HS.out.root]; omega) (by rw [HS.out.root]; omega) (by omega) (by omega)
      have HSZ := Lib.hid hsz
      clear hsz
      go_wp2_with fail
      refine HSZ.out.mono ?_
      rintro e w2 ⟨rfl, rfl⟩
      go_wp2
      go_ret
      exact ⟨rfl, HB.out⟩

set_option maxRecDepth 100000 in
set_option maxHeartbeats 1000000 in
theorem told7_any (a : Option Addr) (len cap : Nat) (o : Option Addr) (n ocap : Nat) (ts : List NodeD) (p : Option Addr) (pcap : Nat) (w : World) (hN : Nodes w o n ts) (hS : ShapedT ts n) (hlen : n ≤ 1999) :
    Calls Try.prog 17 #[.slice a len cap, .slice o n ocap, .slice p len pcap, .bool true] w (YesB w) := by
  have hsh := shaped_any o n ocap ts w hN hS hlen
  have HSH := Lib.hid hsh
  have gl : ((len : Int) == (len : Int)) = true := by simp
  clear hsh hN hS
  go_enter Try.func17, Try.ntmps17
  go_wp2_with fail
  refine HSH.out.mono ?_
  rintro e w1 ⟨rfl, hb⟩
  go_wp2
  go_ret
  exact ⟨rfl, hb⟩

end Go.Proofs.Ytoleejaabiafcaa
