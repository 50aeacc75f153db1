/- brother: one of some elements with one parent. -/
import Derived.Test.YtcnfdakfbglahaaAppendChild
import Derived.Test.YtcnfdakfbglahaaStrings
namespace Go.Proofs.Ytcnfdakfbglahaa
open Go.RowKit
set_option linter.unusedVariables false
set_option linter.unusedSimpArgs false

/-- The parent in block B, behind k rounds. -/
def parR (B k : Nat) : NRec :=
  { par := none, fst := if k = 0 then none else some (B + 1), lst := if k = 0 then none else some (B + k), prv := none, nxt := none, ty := 3, atom := 0, data := ByteArray.empty, ns := ByteArray.empty, attr := .slice none 0 0 }

/-- The element number j, behind k rounds. -/
def kidR (ss : List ByteArray) (B k j : Nat) : NRec :=
  { par := some B, fst := none, lst := none, prv := if j = 0 then none else some (B + j), nxt := if j + 1 < k then some (B + 2 + j) else none, ty := 3, atom := 0, data := ss.getD j ByteArray.empty, ns := ByteArray.empty, attr := .slice none 0 0 }

/-- An element that is not yet anybody's kid. -/
def newR (s : ByteArray) : NRec :=
  { par := none, fst := none, lst := none, prv := none, nxt := none, ty := 3, atom := 0, data := s, ns := ByteArray.empty, attr := .slice none 0 0 }

structure Bro (ss : List ByteArray) (B k : Nat) (wr : World) : Prop where
  size : wr.heap.size = B + 1 + k
  par : World.nodeAt wr B (parR B k)
  kid : ∀ j, j < k → World.nodeAt wr (B + 1 + j) (kidR ss B k j)

theorem nodeAt_alloc_new (w : World) (r : NRec) : World.nodeAt (w.alloc r.obj) w.heap.size r := by
  unfold World.nodeAt World.alloc
  simp

theorem World.nodeAt.alloc {w : World} {b : Nat} {r : NRec} (h : World.nodeAt w b r) (o : Obj) : World.nodeAt (w.alloc o) b r := by
  have := h.lt
  unfold World.nodeAt
  rw [Below.heap_alloc w o b this]
  exact h

theorem bro_first {ss : List ByteArray} {B : Nat} {wr : World} {s : ByteArray} (h : Bro ss B 0 wr) (hs : ss.getD 0 ByteArray.empty = s) :
    Bro ss B 1 (World.putN (World.putN (wr.alloc (newR s).obj) B { parR B 0 with fst := some wr.heap.size, lst := some wr.heap.size }) wr.heap.size { newR s with par := some B }) := by
  obtain ⟨h1, h2, h3⟩ := h
  have e : wr.heap.size = B + 1 := by omega
  rw [e]
  have hp : World.nodeAt (wr.alloc (newR s).obj) B (parR B 0) := h2.alloc _
  have hn : World.nodeAt (wr.alloc (newR s).obj) (B + 1) (newR s) := by have := nodeAt_alloc_new wr (newR s); rwa [e] at this
  refine ⟨by simp [e], ?_, ?_⟩
  · have := (hp.put { parR B 0 with fst := some (B + 1), lst := some (B + 1) }).other (b := B + 1) { newR s with par := some B } (by omega)
    exact this
  · intro j hj
    obtain rfl : j = 0 := by omega
    have := (hn.other (b := B) { parR B 0 with fst := some (B + 1), lst := some (B + 1) } (by omega)).put { newR s with par := some B }
    have e3 : kidR ss B 1 0 = { newR s with par := some B } := by
      unfold kidR newR
      rw [if_pos rfl, if_neg (show ¬ (0 + 1 < 1) by omega), hs]
    rw [e3]; exact this

theorem bro_later {ss : List ByteArray} {B k : Nat} {wr : World} {s : ByteArray} (h : Bro ss B (k + 1) wr) (hs : ss.getD (k + 1) ByteArray.empty = s) :
    Bro ss B (k + 2) (World.putN (World.putN (World.putN (wr.alloc (newR s).obj) (B + 1 + k) { kidR ss B (k + 1) k with nxt := some wr.heap.size }) B { parR B (k + 1) with lst := some wr.heap.size })
      wr.heap.size { newR s with par := some B, prv := some (B + 1 + k) }) := by
  obtain ⟨h1, h2, h3⟩ := h
  have e : wr.heap.size = B + 2 + k := by omega
  rw [e]
  have hp : World.nodeAt (wr.alloc (newR s).obj) B (parR B (k + 1)) := h2.alloc _
  have hk : ∀ j, j < k + 1 → World.nodeAt (wr.alloc (newR s).obj) (B + 1 + j) (kidR ss B (k + 1) j) := fun j hj => (h3 j hj).alloc _
  have hn : World.nodeAt (wr.alloc (newR s).obj) (B + 2 + k) (newR s) := by have := nodeAt_alloc_new wr (newR s); rwa [e] at this
  refine ⟨by simp [e]; omega, ?_, ?_⟩
  · have := ((hp.other (b := B + 1 + k) { kidR ss B (k + 1) k with nxt := some (B + 2 + k) } (by omega)).put { parR B (k + 1) with lst := some (B + 2 + k) }).other (b := B + 2 + k) { newR s with par := some B, prv := some (B + 1 + k) } (by omega)
    have e2 : B + 2 + k = B + (k + 2) := by omega
    simpa [parR, e2] using this
  · intro j hj
    rcases Nat.lt_trichotomy j k with hjk | rfl | hjk
    · have := (((hk j (by omega)).other (b := B + 1 + k) { kidR ss B (k + 1) k with nxt := some (B + 2 + k) } (by omega)).other (b := B) { parR B (k + 1) with lst := some (B + 2 + k) } (by omega)).other (b := B + 2 + k) { newR s with par := some B, prv := some (B + 1 + k) } (by omega)
      have e3 : kidR ss B (k + 2) j = kidR ss B (k + 1) j := by
        unfold kidR
        rw [if_pos (show j + 1 < k + 2 by omega), if_pos (show j + 1 < k + 1 by omega)]
      rw [e3]; exact this
    · have := (((hk j (by omega)).put { kidR ss B (j + 1) j with nxt := some (B + 2 + j) }).other (b := B) { parR B (j + 1) with lst := some (B + 2 + j) } (by omega)).other (b := B + 2 + j) { newR s with par := some B, prv := some (B + 1 + j) } (by omega)
      have e3 : kidR ss B (j + 2) j = { kidR ss B (j + 1) j with nxt := some (B + 2 + j) } := by
        unfold kidR
        rw [if_pos (show j + 1 < j + 2 by omega)]
      rw [e3]; exact this
    · obtain rfl : j = k + 1 := by omega
      have := ((hn.other (b := B + 1 + k) { kidR ss B (k + 1) k with nxt := some (B + 2 + k) } (by omega)).other (b := B) { parR B (k + 1) with lst := some (B + 2 + k) } (by omega)).put { newR s with par := some B, prv := some (B + 1 + k) }
      have e3 : kidR ss B (k + 2) (k + 1) = { newR s with par := some B, prv := some (B + 1 + k) } := by
        unfold kidR newR
        rw [if_neg (show ¬ (k + 1 = 0) by omega), if_neg (show ¬ (k + 1 + 1 < k + 2) by omega), hs, show B + (k + 1) = B + 1 + k by omega]
      rw [e3, show B + 1 + (k + 1) = B + 2 + k by omega]; exact this

/-- What brother leaves. -/
def BroPost (ss : List ByteArray) (len at_ : Nat) (w : World) (e : Ending) (w' : World) : Prop :=
  e = .returned (.pointer (some ⟨w.heap.size + 1 + at_, 0, none⟩)) ∧ Bro ss w.heap.size len w' ∧ Below w.heap.size w w'

set_option maxHeartbeats 1000000 in
theorem brother_any (a : Option Addr) (len cap : Nat) (ss : List ByteArray) (at_ : Nat) (w : World) (h : Strs w a len ss) (hat : at_ < len) :
    Calls Try.prog 22 #[.slice a len cap, .int .i64 at_] w (BroPost ss len at_ w) := by
  have hm := h.len.2
  obtain ⟨b, off, rfl, hc⟩ := h.at (by omega)
  have HC := Lib.hid hc
  clear hc
  go_enter Try.func22, Try.ntmps22
  go_wp2
  go_loopw [6, 14] (fun o i wr => ∃ k : Nat, k ≤ len ∧ i = .int .i64 k ∧ o = lk (if at_ < k then some (w.heap.size + 1 + at_) else none) ∧ Bro ss w.heap.size k wr ∧ Below w.heap.size w wr)
    (fun _ i _ => len - (intOf i).toNat)
  case atStart =>
    refine ⟨0, by omega, rfl, by simp, ⟨by simp, ?_, fun j hj => by omega⟩, (Below.refl _ _).alloc (Nat.le_refl _) _⟩
    exact nodeAt_alloc_new w (parR w.heap.size 0)
  case round =>
    obtain ⟨k, hk, rfl, rfl, hbro, hbel⟩ := hrel
    by_cases hlt : k < len
    · have hck := HC.out k hlt
      have hbb : b < w.heap.size := World.block_lt_of_cell? _ _ hck
      have hck' : wr.cell? ⟨b, off + k, none⟩ = some (.string (ss.getD k ByteArray.empty)) := (hbel.cell (p := ⟨b, off + k, none⟩) hbb).trans hck
      clear hck
      have hsz := hbro.size
      have hsz' : w.heap.size ≠ wr.heap.size := by omega
      obtain ⟨s, hs⟩ : ∃ s, ss.getD k ByteArray.empty = s := ⟨_, rfl⟩
      rw [hs] at hck'
      obtain ⟨o, ho⟩ : ∃ o, lk (if at_ < k then some (w.heap.size + 1 + at_) else none) = .pointer o := ⟨_, (lk_pointer _).choose_spec.1⟩
      rw [ho]
      have HO := Lib.hid ho
      have HS := Lib.hid hs
      have HSZ := Lib.hid hsz
      have HB := Lib.hid hbro
      clear ho hs hsz hbro
      have hnew : World.nodeAt (wr.alloc (newR s).obj) wr.heap.size (newR s) := nodeAt_alloc_new wr _
      cases k with
      | zero =>
        rw [Nat.add_zero] at hck'
        have hpar : World.nodeAt (wr.alloc (newR s).obj) w.heap.size (parR w.heap.size 0) := HB.out.par.alloc _
        have hnext := bro_first HB.out HS.out
        have hb2 : Below w.heap.size w (World.putN (World.putN (wr.alloc (newR s).obj) w.heap.size { parR w.heap.size 0 with fst := some wr.heap.size, lst := some wr.heap.size }) wr.heap.size { newR s with par := some w.heap.size }) :=
          below_putN (below_putN (hbel.alloc hbel.size _) (Nat.le_refl _) _) hbel.size _
        go_wp2_with fail
        refine (appendChild_first w.heap.size wr.heap.size (parR w.heap.size 0) (newR s) _ hpar hnew hsz' rfl rfl rfl rfl).mono ?_
        rintro e w1 ⟨rfl, hw1⟩
        rw [hw1] at hnext hb2
        have HN := Lib.hid (And.intro hnext hb2)
        clear hw1 hpar hnew hnext hb2 hbel hbb hck' hsz'
        by_cases hat0 : 0 = at_
        · have g0 : ((0 : Int) == (at_ : Int)) = true := by simp; omega
          have HA := Lib.hid hat0
          clear hat0
          go_wp2
          go_roundw
          case rel =>
            refine ⟨0 + 1, by omega, by go_num, ?_, HN.out.1, HN.out.2⟩
            have hat0 := HA.out
            rw [if_pos (by omega), HSZ.out, ← hat0, lk_some]
          case measure => simp [intOf]; omega
        · have g0 : ((0 : Int) == (at_ : Int)) = false := by simp; omega
          have HA := Lib.hid hat0
          clear hat0
          go_wp2
          go_roundw
          case rel =>
            refine ⟨0 + 1, by omega, by go_num, ?_, HN.out.1, HN.out.2⟩
            have hat0 := HA.out
            rw [← HO.out]
            congr 1
            by_cases h1 : at_ < 0
            · rw [if_pos h1, if_pos (by omega)]
            · rw [if_neg h1, if_neg (by omega)]
          case measure => simp [intOf]; omega
      | succ k =>
        have hpar : World.nodeAt (wr.alloc (newR s).obj) w.heap.size (parR w.heap.size (k + 1)) := HB.out.par.alloc _
        have hlast : World.nodeAt (wr.alloc (newR s).obj) (w.heap.size + 1 + k) (kidR ss w.heap.size (k + 1) k) := (HB.out.kid k (by omega)).alloc _
        have hnext := bro_later HB.out HS.out
        have hb2 : Below w.heap.size w (World.putN (World.putN (World.putN (wr.alloc (newR s).obj) (w.heap.size + 1 + k) { kidR ss w.heap.size (k + 1) k with nxt := some wr.heap.size }) w.heap.size { parR w.heap.size (k + 1) with lst := some wr.heap.size })
            wr.heap.size { newR s with par := some w.heap.size, prv := some (w.heap.size + 1 + k) }) :=
          below_putN (below_putN (below_putN (hbel.alloc hbel.size _) (by omega) _) (Nat.le_refl _) _) hbel.size _
        have hlc : w.heap.size + 1 + k ≠ wr.heap.size := by have := HSZ.out; omega
        go_wp2_with fail
        refine (appendChild_later w.heap.size wr.heap.size (w.heap.size + 1 + k) (parR w.heap.size (k + 1)) (newR s) (kidR ss w.heap.size (k + 1) k) _ hpar hnew hlast hsz' (by omega) hlc (by simp [parR]; omega) rfl rfl rfl).mono ?_
        rintro e w1 ⟨rfl, hw1⟩
        rw [hw1] at hnext hb2
        have HN := Lib.hid (And.intro hnext hb2)
        clear hw1 hlast hlc hpar hnew hnext hb2 hbel hbb hck' hsz'
        by_cases hat0 : (k + 1) = at_
        · have g0 : ((k : Int) + 1 == (at_ : Int)) = true := by simp; omega
          have HA := Lib.hid hat0
          clear hat0
          go_wp2
          go_roundw
          case rel =>
            refine ⟨(k + 1) + 1, by omega, by go_num, ?_, HN.out.1, HN.out.2⟩
            have hat0 := HA.out
            rw [if_pos (by omega), HSZ.out, ← hat0, lk_some]
          case measure => simp [intOf]; omega
        · have g0 : ((k : Int) + 1 == (at_ : Int)) = false := by simp; omega
          have HA := Lib.hid hat0
          clear hat0
          go_wp2
          go_roundw
          case rel =>
            refine ⟨(k + 1) + 1, by omega, by go_num, ?_, HN.out.1, HN.out.2⟩
            have hat0 := HA.out
            rw [← HO.out]
            congr 1
            by_cases h1 : at_ < (k + 1)
            · rw [if_pos h1, if_pos (by omega)]
            · rw [if_neg h1, if_neg (by omega)]
          case measure => simp [intOf]; omega
    · obtain rfl : len = k := by omega
      clear HC
      have HB := Lib.hid (And.intro hbro hbel)
      clear hbro hbel
      rw [if_pos hat, lk_some]
      go_wp2
      go_ret
      exact ⟨rfl, HB.out.1, HB.out.2⟩

end Go.Proofs.Ytcnfdakfbglahaa
