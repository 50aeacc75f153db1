/- spec.Right: where it says yes, the list is a right tree. -/
import Derived.Test.YtikimffifkiinaaRightNode
namespace Go.Proofs.Ytikimffifkiinaa
open Go.RowKit
set_option linter.unusedVariables false
set_option linter.unusedSimpArgs false

/-- How many bytes the texts of the first nodes have. -/
def tsum (ts : List NodeD) : Nat → Nat
  | 0 => 0
  | i + 1 => tsum ts i + (ts.getD i default).text.size

/-- A right tree. -/
structure RightT (ts : List NodeD) (len : Nat) : Prop where
  pos : 0 < len
  le : len ≤ 200
  root : sz ts 0 = len
  kind : kd ts 0 = 1
  sizes : ∀ j, j < len → Sz ts j
  node : ∀ j, j < len → NodeOk (ts.getD j default) (sz ts j) j
  texts : tsum ts len ≤ 4000
  vals : ∀ j, j < len → ∀ x ∈ (ts.getD j default).attrs, x.2.size ≤ 4000

def RightSays (ts : List NodeD) (len : Nat) (b : Bool) : Prop := b = true → RightT ts len
theorem rightSays_false (ts : List NodeD) (len : Nat) : RightSays ts len false := by simp [RightSays]

theorem RightT.nest {ts : List NodeD} {len : Nat} (h : RightT ts len) : Nest (sz ts) len := nest_of h.root h.sizes h.pos

/-- What holds of the first nodes, behind so many rounds. -/
structure Upto (ts : List NodeD) (i : Nat) : Prop where
  node : ∀ j, j < i → NodeOk (ts.getD j default) (sz ts j) j
  vals : ∀ j, j < i → ∀ x ∈ (ts.getD j default).attrs, x.2.size ≤ 4000

theorem Upto.succ {ts : List NodeD} {i : Nat} (h : Upto ts i) (h1 : NodeOk (ts.getD i default) (sz ts i) i) (h2 : ∀ j, j < (ts.getD i default).attrs.length → ((ts.getD i default).attrs.getD j default).2.size ≤ 4000) : Upto ts (i + 1) := by
  refine ⟨fun j hj => ?_, fun j hj x hx => ?_⟩
  · by_cases e : j = i
    · subst e; exact h1
    · exact h.node j (by omega)
  · by_cases e : j = i
    · subst e
      obtain ⟨m, hm, rfl⟩ := List.getElem_of_mem hx
      have := h2 m hm
      rwa [List.getD_eq_getElem?_getD, List.getElem?_eq_getElem hm] at this
    · exact h.vals j (by omega) x hx

/-- What holds in the inner loop. -/
def Inner (ts : List NodeD) (l : List (ByteArray × ByteArray)) (n k : Nat) (v : Int) : Prop := v ≤ 4000 → (tsum ts (n + 1) : Int) ≤ v ∧ ∀ j, j < k → (l.getD j default).2.size ≤ 4000

theorem inner_big (ts : List NodeD) (l : List (ByteArray × ByteArray)) (n k : Nat) {v : Int} (h : 4000 < v) : Inner ts l n k v := fun h' => by omega
theorem inner_start {ts : List NodeD} {l : List (ByteArray × ByteArray)} {n s : Nat} {x : Int} (h : (tsum ts n : Int) ≤ x) (hs : (ts.getD n default).text.size = s) : Inner ts l n 0 (x + s) :=
  fun _ => ⟨by simp only [tsum, hs]; omega, fun j hj => by omega⟩
theorem inner_step {ts : List NodeD} {l : List (ByteArray × ByteArray)} {n k s : Nat} {v : Int} (h : Inner ts l n k v) (hs : (l.getD k default).2.size = s) : Inner ts l n (k + 1) (v + s) := by
  intro h'
  obtain ⟨h1, h2⟩ := h (by omega)
  refine ⟨by omega, fun j hj => ?_⟩
  by_cases e : j = k
  · subst e
    rw [hs]
    have : (0 : Int) ≤ tsum ts (n + 1) := by omega
    omega
  · exact h2 j (by omega)

set_option maxRecDepth 100000 in
set_option maxHeartbeats 4000000 in
theorem right_any (a : Option Addr) (len cap : Nat) (ts : List NodeD) (w : World) (h : Nodes w a len ts) :
    Calls Try.prog 6 #[.slice a len cap] w (SomeBoolB (RightSays ts len) w) := by
  have hm := h.len.2
  by_cases h0 : len = 0
  · subst h0
    go_enter Try.func6, Try.ntmps6
    go_wp2
    go_ret
    exact ⟨_, rightSays_false _ _, rfl, Below.refl _ _⟩
  have g0 : ((len : Int) == 0) = false := by simp; omega
  have hpos : 0 < len := by omega
  by_cases h200 : 200 < len
  · have g200 : decide ((200 : Int) < (len : Int)) = true := by simp; omega
    go_enter Try.func6, Try.ntmps6
    go_wp2
    go_ret
    exact ⟨_, rightSays_false _ _, rfl, Below.refl _ _⟩
  have g200 : decide ((200 : Int) < (len : Int)) = false := by simp; omega
  have hlen : len ≤ 200 := by omega
  clear h0 h200
  have HN := Lib.hid h
  obtain ⟨b, off, rfl, hc⟩ := h.at hpos
  have c0 := (hc 0 hpos).size
  have k0 := (hc 0 hpos).kind
  rw [Nat.zero_mul, Nat.add_zero] at c0 k0
  have HC := Lib.hid hc
  have hsized := sized_any (some ⟨b, off, none⟩) len cap ts 40 0 len w h hpos (Nat.le_refl _) (Nat.zero_le _) (Nat.le_refl _)
  have HSIZED := Lib.hid hsized
  clear h hc hsized
  obtain ⟨z, hz⟩ : ∃ z, (ts.getD 0 default).size = z := ⟨_, rfl⟩
  obtain ⟨q, hq⟩ : ∃ q, (ts.getD 0 default).kind = q := ⟨_, rfl⟩
  rw [hz] at c0
  rw [hq] at k0
  have HZ := Lib.hid hz
  have HQ := Lib.hid hq
  clear hz hq
  by_cases hzl : z = len
  · subst hzl
    have gz : ((len : Int) != (len : Int)) = false := by simp
    by_cases hq1 : q = 1
    · subst hq1
      go_enter Try.func6, Try.ntmps6
      go_wp2_with fail
      refine HSIZED.out.mono ?_
      rintro e w' ⟨r, hr, rfl, hw⟩
      rw [← hw]
      clear hw w'
      cases r
      · go_wp2
        go_ret
        exact ⟨_, rightSays_false _ _, rfl, Below.refl _ _⟩
      have hroot : sz ts 0 = len := by unfold sz; rw [HZ.out]; simp
      have hsz : ∀ j, j < len → Sz ts j := fun j hj => (hr rfl).2.2 j (Nat.zero_le _) (by omega)
      have HS := Lib.hid (And.intro hroot hsz)
      clear hr hroot hsz
      go_wp2
      go_loopw [3, 4, 5] (fun y i k5 wr => ∃ (n : Nat) (x : Int) , n ≤ len ∧ i = .int .i64 n ∧ y = .int .i64 x ∧ 0 ≤ x ∧ x ≤ 4000 ∧ (tsum ts n : Int) ≤ x ∧ Upto ts n ∧ Below w.heap.size w wr) (fun _ i _ _ => len - (intOf i).toNat)
      case atStart => exact ⟨0, 0, by omega, rfl, rfl, by omega, by omega, by simp [tsum], ⟨fun j hj => by omega, fun j hj => by omega⟩, Below.refl _ _⟩
      case round =>
        obtain ⟨n, x, hn, rfl, rfl, hx0, hx1, hsum, hup, hbel⟩ := hrel
        have HUP := Lib.hid hup
        have HB := Lib.hid hbel
        have HSUM := Lib.hid hsum
        have hN1 := Lib.hid (HN.out.below hbel)
        clear hup hbel hsum
        by_cases hlt : n < len
        · obtain ⟨b', off', hbo, hcc⟩ := hN1.out.at hpos
          simp only [Option.some.injEq, Addr.mk.injEq] at hbo
          obtain ⟨rfl, rfl, _⟩ := hbo
          have nc := hcc n hlt
          have ct := nc.text
          have ca := nc.attrs
          have hat := nc.at_
          have hwt := nc.wt.2
          unfold maxLen at hwt
          obtain ⟨text, ht⟩ : ∃ y, (ts.getD n default).text = y := ⟨_, rfl⟩
          obtain ⟨aa, haa⟩ : ∃ y, (ts.getD n default).aa = y := ⟨_, rfl⟩
          obtain ⟨al, hal⟩ : ∃ y, (ts.getD n default).al = y := ⟨_, rfl⟩
          obtain ⟨ac, hac⟩ : ∃ y, (ts.getD n default).ac = y := ⟨_, rfl⟩
          obtain ⟨at_, hatt⟩ : ∃ y, (ts.getD n default).attrs = y := ⟨_, rfl⟩
          rw [ht] at ct hwt
          rw [haa, hal, hac] at ca
          rw [haa, hal, hatt] at hat
          have HT := Lib.hid ht
          have HAT := Lib.hid hat
          have HATT := Lib.hid hatt
          clear ht haa hal hac hatt hat hcc nc
          have hnode := rightNode_any (some ⟨b, off, none⟩) len cap ts n wr hN1.out HS.out.2 HS.out.1 hlen hlt
          have HNODE := Lib.hid hnode
          clear hnode
          go_wp2
          all_goals
            go_loop [3, 5] (fun y i5 => ∃ (k : Nat) (v : Int), k ≤ al ∧ i5 = .int .i64 k ∧ y = .int .i64 v ∧ 0 ≤ v ∧ v ≤ 16002 ∧ Inner ts at_ n k v) (fun _ i5 => al - (intOf i5).toNat)
          case atStart => exact ⟨0, _, Nat.zero_le _, rfl, rfl, by omega, by omega, inner_big _ _ _ _ (by omega)⟩
          case atStart => exact ⟨0, _, Nat.zero_le _, rfl, rfl, by omega, by omega, inner_start HSUM.out (by rw [HT.out])⟩
          all_goals
            obtain ⟨k, v, hk, rfl, rfl, hv0, hv1, hin⟩ := hrel
            have HIN := Lib.hid hin
            have halm : al ≤ 9223372036854775807 := HAT.out.2.1
            clear hin
            by_cases hv4 : v ≤ 4000
            · have gv : decide ((4000 : Int) < v) = false := by simp; omega
              by_cases hka : k < al
              · obtain ⟨q1, q2, q3, q4⟩ := HAT.out
                obtain ⟨ba, oa, rfl, hca⟩ := q4 (by omega)
                have cv := (hca k hka).2
                have hsv : (at_.getD k default).2.size ≤ maxLen := (q3 _ (getD_mem (by omega))).2
                obtain ⟨val, hval⟩ : ∃ y, (at_.getD k default).2 = y := ⟨_, rfl⟩
                rw [hval] at cv hsv
                unfold maxLen at hsv
                have HVAL := Lib.hid hval
                clear q1 q2 q3 q4 hca hval
                by_cases hvs : 4001 < val.size
                · go_wp2
                  go_round
                  case rel => exact ⟨k + 1, _, by omega, by go_num, rfl, by omega, by omega, inner_big _ _ _ _ (by omega)⟩
                  case measure => simp [intOf]; omega
                · go_wp2
                  go_round
                  case rel => exact ⟨k + 1, _, by omega, by go_num, rfl, by omega, by omega, inner_step HIN.out (by rw [HVAL.out])⟩
                  case measure => simp [intOf]; omega
              · obtain rfl : k = al := by omega
                go_wp2_with fail
                refine HNODE.out.mono ?_
                rintro e w2 ⟨r, hr, rfl, hb2⟩
                have HB2 := Lib.hid hb2
                clear hb2
                cases r
                · go_wp2
                  go_ret
                  exact ⟨_, rightSays_false _ _, rfl, HB.out.trans (HB2.out.mono HB.out.size)⟩
                have hup2 : Upto ts (n + 1) := HUP.out.succ (hr rfl) (by rw [HATT.out]; intro j hj; exact (HIN.out hv4).2 j (by have := HAT.out.1; omega))
                have HUP2 := Lib.hid hup2
                clear hup2 hr
                go_wp2
                go_roundw
                case rel => exact ⟨n + 1, v, by omega, by go_num, rfl, hv0, hv4, (HIN.out hv4).1, HUP2.out, HB.out.trans (HB2.out.mono HB.out.size)⟩
                case measure => simp [intOf]; omega
            · have gv : decide ((4000 : Int) < v) = true := by simp; omega
              have gv2 : decide (v ≤ (4000 : Int)) = false := by simp; omega
              by_cases hka : k < al
              · go_wp2
                go_ret
                exact ⟨_, rightSays_false _ _, rfl, HB.out⟩
              · go_wp2
                go_ret
                exact ⟨_, rightSays_false _ _, rfl, HB.out⟩
        · obtain rfl : n = len := by omega
          go_wp2
          go_ret
          exact ⟨true, fun _ => ⟨hpos, hlen, HS.out.1, HQ.out, HS.out.2, HUP.out.node, by have := HSUM.out; omega, HUP.out.vals⟩, rfl, HB.out⟩
    · have gq : (q == 1) = false := by simp [hq1]
      go_enter Try.func6, Try.ntmps6
      go_wp2
      go_ret
      exact ⟨_, rightSays_false _ _, rfl, Below.refl _ _⟩
  · have gz : (z == (len : Int)) = false := by simp [hzl]
    go_enter Try.func6, Try.ntmps6
    go_wp2
    go_ret
    exact ⟨_, rightSays_false _ _, rfl, Below.refl _ _⟩

end Go.Proofs.Ytikimffifkiinaa
