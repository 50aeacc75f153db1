/- The words of a text (plain). spec.Words, spec.isWord, spec.SimpleClass. -/
import Derived.Test.YtkdomegcacgpnaaGreatBaseAll
import Derived.BigGuardPart
namespace Go.Proofs.YtkdomegcacgpnaaGreat
open Go.RowKit
set_option linter.unusedVariables false
set_option linter.unusedSimpArgs false

/-- White space of HTML. -/
def isSp (n : Int) : Bool := n == 32 || n == 9 || n == 10 || n == 13 || n == 12

/-- Behind the first k bytes: where the word under way begins, the words so far. -/
def wst (s : ByteArray) : Nat → Nat × List ByteArray
  | 0 => (0, [])
  | k + 1 => if h : k < s.size then (if isSp (s[k].toNat : Int) then (k + 1, if (wst s k).1 < k then (wst s k).2 ++ [s.extract (wst s k).1 k] else (wst s k).2) else wst s k) else (k + 1, if (wst s k).1 < k then (wst s k).2 ++ [s.extract (wst s k).1 k] else (wst s k).2)

theorem wst_word {s : ByteArray} {k m : Nat} {ws : List ByteArray} (h : wst s k = (m, ws)) (hk : k < s.size) (hsp : isSp (s[k].toNat : Int) = false) : wst s (k + 1) = (m, ws) := by
  simp only [wst, hk, dif_pos, hsp]; simpa using h
theorem wst_cut {s : ByteArray} {k m : Nat} {ws : List ByteArray} (h : wst s k = (m, ws)) (hk : k < s.size) (hsp : isSp (s[k].toNat : Int) = true) : wst s (k + 1) = (k + 1, if m < k then ws ++ [s.extract m k] else ws) := by
  simp only [wst, hk, dif_pos, hsp, h]; rfl
theorem wst_end {s : ByteArray} {m : Nat} {ws : List ByteArray} (h : wst s s.size = (m, ws)) : wst s (s.size + 1) = (s.size + 1, if m < s.size then ws ++ [s.extract m s.size] else ws) := by
  simp only [wst, Nat.lt_irrefl, dif_neg, not_false_eq_true, h]

/-- The words of a text. -/
def wordsF (s : ByteArray) : List ByteArray := (wst s (s.size + 1)).2

theorem str_info' : (Tryz.prog.info? 9).map (fun i => (i.zero, i.size, i.bytes)) = some (some (.string ByteArray.empty), 1, 16) := by kernel_rfl

/-- A slice of strings, of the call's own. -/
def OwnStrs (w : World) (B : Nat) (v : Value) (l : List ByteArray) : Prop := w.ownsRow B 9 1 v l.length (l.map .string)

def WordsPost (s : ByteArray) (w : World) (e : Ending) (w' : World) : Prop := ∃ v, e = .returned v ∧ Hid (OwnStrs w' w.heap.size v (wordsF s)) ∧ Hid (Below w.heap.size w w')

end Go.Proofs.YtkdomegcacgpnaaGreat

namespace Go.Proofs.YtkdomegcacgpnaaGreat
open Go.RowKit
set_option linter.unusedVariables false
set_option linter.unusedSimpArgs false

/-- The tests of a byte, up to the one that holds. -/
structure Tested (n : Int) (a b c d e : Bool) : Prop where
  e1 : (n != 32) = a
  e2 : (n != 9) = b
  e3 : (n != 10) = c
  e4 : (n != 12) = d
  e5 : (n != 13) = e
theorem isSp_tested {n : Int} (h : isSp n = true) : Tested n false true true true true ∨ Tested n true false true true true ∨ Tested n true true false true true ∨ Tested n true true true false true ∨ Tested n true true true true false := by
  simp [isSp] at h
  rcases h with (((rfl | rfl) | rfl) | rfl) | rfl
  · exact .inl ⟨rfl, rfl, rfl, rfl, rfl⟩
  · exact .inr (.inl ⟨rfl, rfl, rfl, rfl, rfl⟩)
  · exact .inr (.inr (.inl ⟨rfl, rfl, rfl, rfl, rfl⟩))
  · exact .inr (.inr (.inr (.inr ⟨rfl, rfl, rfl, rfl, rfl⟩)))
  · exact .inr (.inr (.inr (.inl ⟨rfl, rfl, rfl, rfl, rfl⟩)))

theorem isSp_no {n : Int} (h : isSp n = false) : (n == 32) = false ∧ (n == 9) = false ∧ (n == 10) = false ∧ (n == 12) = false ∧ (n == 13) = false := by
  simp [isSp] at h ⊢; omega
theorem isSp_yes {n : Int} (h : isSp n = true) : (n == 32) = true ∨ ((n == 32) = false ∧ (n == 9) = true) ∨ ((n == 32) = false ∧ (n == 9) = false ∧ (n == 10) = true) ∨ ((n == 32) = false ∧ (n == 9) = false ∧ (n == 10) = false ∧ (n == 12) = true) ∨ ((n == 32) = false ∧ (n == 9) = false ∧ (n == 10) = false ∧ (n == 12) = false ∧ (n == 13) = true) := by
  simp [isSp] at h ⊢; omega
theorem bne_of {n c : Int} {b : Bool} (h : (n == c) = b) : (n != c) = !b := by simp [bne, h]

set_option maxRecDepth 100000 in
set_option maxHeartbeats 8000000 in
theorem words_any (s : ByteArray) (w : World) (hs : s.size ≤ 10000) : Calls Tryz.prog 52 #[.string s] w (WordsPost s w) := by
  obtain ⟨i0, hi, hz0, hz1, hz2⟩ := info_parts str_info'
  go_enter Tryz.func52, Tryz.ntmps52
  go_wp2
  go_loopw [3, 4, 5] (fun x f i wr => ∃ (k m : Nat) (ws : List ByteArray), i = .int .i64 (k : Int) ∧ f = .int .i64 (m : Int) ∧ k ≤ s.size + 1 ∧ m ≤ k ∧ ws.length ≤ k ∧ wst s k = (m, ws) ∧ OwnStrs wr w.heap.size x ws ∧ Below w.heap.size w wr)
    (fun _ _ i _ => s.size + 1 - (intOf i).toNat)
  case atStart => exact ⟨0, 0, [], by go_num, by go_num, by omega, by omega, by simp, rfl, World.ownsRow_nil _ _ _ _, Below.refl _ _⟩
  case round =>
    obtain ⟨k, m, ws, rfl, rfl, hk, hmk, hwl, hst, hown, hbel⟩ := hrel
    have HST := Lib.hid hst
    clear hst
    have HOWN := Lib.hid hown
    have HBEL := Lib.hid hbel
    clear hown hbel
    by_cases hle : k ≤ s.size
    · by_cases hlt : k < s.size
      · cases hsp : isSp (s[k].toNat : Int)
        · obtain ⟨h1, h2, h3, h4, h5⟩ := isSp_no hsp
          have e1 := bne_of h1
          have e2 := bne_of h2
          have e3 := bne_of h3
          have e4 := bne_of h4
          have e5 := bne_of h5
          simp only [Bool.not_false] at e1 e2 e3 e4 e5
          clear h1 h2 h3 h4 h5
          have HSP := Lib.hid hsp
          clear hsp
          go_wp2
          go_roundw
          case rel => exact ⟨k + 1, m, ws, by go_num, rfl, by omega, by omega, by omega, wst_word HST.out hlt HSP.out, HOWN.out, HBEL.out⟩
          case measure => simp [intOf]; omega
        · have HSP := Lib.hid hsp
          by_cases hfm : m < k
          · have hfI : (m : Int) < (k : Int) := by omega
            have gf : decide ((m : Int) < (k : Int)) = true := decide_eq_true hfI
            have hown' : wr.ownsRow w.heap.size 9 1 u3 ws.length (ws.map .string) := HOWN.out
            rcases isSp_tested hsp with ⟨e1, e2, e3, e4, e5⟩ | ⟨e1, e2, e3, e4, e5⟩ | ⟨e1, e2, e3, e4, e5⟩ | ⟨e1, e2, e3, e4, e5⟩ | ⟨e1, e2, e3, e4, e5⟩
            all_goals
              clear hsp
              go_wp2_with (at_builtin; refine wpList_append_own _ rfl _ _ 24 rfl w.heap.size 9 i0 (.string ByteArray.empty) 1 16 Tryz.underlying24 hi hz0 hz1 hz2 rfl (by decide) _ _ _ rfl (hown'.alloc _) ⟨wr.heap.size, 0, none⟩ 1 1 [.string (s.extract m k)] rfl rfl ?c1A ?c2A ?c3A ?c4A ?c5A ?_)
              case c1A =>
                intro j u hj
                match j, hj with
                | 0, hj => simp at hj; subst hj; simp [Addr.add]
              case c2A => first | rfl | (intro u hu; simp at hu; subst hu; rfl)
              case c3A => unfold maxLen; omega
              case c4A => omega
              case c5A => have := HBEL.out.size; simp; omega
              intro v' w3 hown3 hgrow _
              have hbel3 : Below w.heap.size w w3 := (HBEL.out.alloc HBEL.out.size _).grown hgrow (by have := HBEL.out.size; simp; omega) (fun q hq => (World.ownsRow.lt hown' q hq).1)
              have hsn : OwnStrs w3 w.heap.size v' (ws ++ [s.extract m k]) := by unfold OwnStrs; simpa using hown3
              have H3 := Lib.hid (And.intro hsn hbel3)
              clear hown3 hgrow hbel3 hsn hown'
              go_wp2
              go_roundw
              case rel => exact ⟨k + 1, k + 1, ws ++ [s.extract m k], by go_num, by go_num, by omega, by omega, by simp; omega, by rw [wst_cut HST.out hlt HSP.out, if_pos hfm], H3.out.1, H3.out.2⟩
              case measure => simp [intOf]; omega
          · have gf : decide ((m : Int) < (k : Int)) = false := by simp; omega
            rcases isSp_tested hsp with ⟨e1, e2, e3, e4, e5⟩ | ⟨e1, e2, e3, e4, e5⟩ | ⟨e1, e2, e3, e4, e5⟩ | ⟨e1, e2, e3, e4, e5⟩ | ⟨e1, e2, e3, e4, e5⟩
            all_goals
              clear hsp
              go_wp2
              go_roundw
              case rel => exact ⟨k + 1, k + 1, ws, by go_num, by go_num, by omega, by omega, by omega, by rw [wst_cut HST.out hlt HSP.out, if_neg hfm], HOWN.out, HBEL.out⟩
              case measure => simp [intOf]; omega
      · obtain rfl : k = s.size := by omega
        clear hlt
        by_cases hfm : m < s.size
        · have hfI : (m : Int) < (s.size : Int) := by omega
          have gf : decide ((m : Int) < (s.size : Int)) = true := decide_eq_true hfI
          have hown' : wr.ownsRow w.heap.size 9 1 u3 ws.length (ws.map .string) := HOWN.out
          go_wp2_with (at_builtin; refine wpList_append_own _ rfl _ _ 24 rfl w.heap.size 9 i0 (.string ByteArray.empty) 1 16 Tryz.underlying24 hi hz0 hz1 hz2 rfl (by decide) _ _ _ rfl (hown'.alloc _) ⟨wr.heap.size, 0, none⟩ 1 1 [.string (s.extract m s.size)] rfl rfl ?c1B ?c2B ?c3B ?c4B ?c5B ?_)
          case c1B =>
            intro j u hj
            match j, hj with
            | 0, hj => simp at hj; subst hj; simp [Addr.add]
          case c2B => first | rfl | (intro u hu; simp at hu; subst hu; rfl)
          case c3B => unfold maxLen; omega
          case c4B => omega
          case c5B => have := HBEL.out.size; simp; omega
          intro v' w3 hown3 hgrow _
          have hbel3 : Below w.heap.size w w3 := (HBEL.out.alloc HBEL.out.size _).grown hgrow (by have := HBEL.out.size; simp; omega) (fun q hq => (World.ownsRow.lt hown' q hq).1)
          have hsn : OwnStrs w3 w.heap.size v' (ws ++ [s.extract m s.size]) := by unfold OwnStrs; simpa using hown3
          have H3 := Lib.hid (And.intro hsn hbel3)
          clear hown3 hgrow hbel3 hsn hown'
          go_wp2
          go_roundw
          case rel => exact ⟨s.size + 1, s.size + 1, ws ++ [s.extract m s.size], by go_num, by go_num, by omega, by omega, by simp; omega, by rw [wst_end HST.out, if_pos hfm], H3.out.1, H3.out.2⟩
          case measure => simp [intOf] <;> omega
        · have gf : decide ((m : Int) < (s.size : Int)) = false := by simp; omega
          go_wp2
          go_roundw
          case rel => exact ⟨s.size + 1, s.size + 1, ws, by go_num, by go_num, by omega, by omega, by omega, by rw [wst_end HST.out, if_neg hfm], HOWN.out, HBEL.out⟩
          case measure => simp [intOf] <;> omega
    · obtain rfl : k = s.size + 1 := by omega
      have hw : ws = wordsF s := by unfold wordsF; rw [HST.out]
      have HO : Hid (OwnStrs wr w.heap.size u3 (wordsF s)) := by rw [← hw]; exact HOWN
      clear hw
      go_wp2
      go_ret
      exact ⟨_, rfl, HO, HBEL⟩

theorem wst_len (s : ByteArray) : ∀ k, (wst s k).2.length ≤ k := by
  intro k
  induction k with
  | zero => simp [wst]
  | succ k ih =>
    simp only [wst]
    split
    · split
      · split
        · rw [List.length_append]; simp; omega
        · show (wst s k).2.length ≤ k + 1; omega
      · omega
    · split
      · rw [List.length_append]; simp; omega
      · show (wst s k).2.length ≤ k + 1; omega
theorem wordsF_len (s : ByteArray) : (wordsF s).length ≤ s.size + 1 := wst_len s _

/-- Whether a word is among the first ones. -/
def inW (ws : List ByteArray) (x : ByteArray) : Nat → Bool
  | 0 => false
  | k + 1 => inW ws x k || ((ws.getD k ByteArray.empty).toList == x.toList)

/-- The strings behind a slice's address, the first ones of a list. -/
def StrCells (w : World) (a : Option Addr) (n : Nat) (ss : List ByteArray) : Prop :=
  n ≤ 9223372036854775807 ∧ (0 < n → ∃ b off, a = some ⟨b, off, none⟩ ∧ ∀ i, i < n → w.cell? ⟨b, off + i, none⟩ = some (.string (ss.getD i ByteArray.empty)))

theorem StrCells.below {w w' : World} {a : Option Addr} {n : Nat} {ss : List ByteArray} (h : StrCells w a n ss) (hb : Below w.heap.size w w') : StrCells w' a n ss := by
  refine ⟨h.1, fun h0 => ?_⟩
  obtain ⟨b, off, rfl, hc⟩ := h.2 h0
  exact ⟨b, off, rfl, fun i hi => cell_below hb (hc i hi)⟩

theorem StrCells.part {w : World} {a : Option Addr} {n k : Nat} {ss : List ByteArray} (h : StrCells w a n ss) (hk : k ≤ n) : StrCells w a k ss := by
  refine ⟨by have := h.1; omega, fun h0 => ?_⟩
  obtain ⟨b, off, rfl, hc⟩ := h.2 (by omega)
  exact ⟨b, off, rfl, fun i hi => hc i (by omega)⟩

theorem StrCells.drewN {w : World} {a : Option Addr} {n : Nat} {ss : List ByteArray} (h : StrCells w a n ss) (d : Nat) : StrCells (w.drewN d) a n ss := by
  refine ⟨h.1, fun h0 => ?_⟩
  obtain ⟨b, off, rfl, hc⟩ := h.2 h0
  exact ⟨b, off, rfl, fun i hi => by simpa using hc i hi⟩

theorem OwnStrs.open {w : World} {B : Nat} {v : Value} {l : List ByteArray} (h : OwnStrs w B v l) : ∃ a cap, v = .slice a l.length cap ∧ l.length ≤ cap ∧ StrCells w a l.length l := by
  rcases h.2 with ⟨rfl, h0⟩ | ⟨g, cap, cur, rfl, hb, hg, hn, hm, hcs, ht⟩
  · exact ⟨none, 0, by rw [h0], by omega, by omega, fun h => by omega⟩
  · refine ⟨_, cap, rfl, by simpa using hn, by unfold maxLen at hm; omega, fun hl => ⟨g, 0, rfl, fun i hi => ?_⟩⟩
    have := World.ownsRow.cells (h := h) (g := g) rfl i (.string (l.getD i ByteArray.empty)) (by simp [List.getD, hi])
    have hadd : (⟨g, 0, none⟩ : Addr).add i = ⟨g, 0 + i, none⟩ := by unfold Addr.add; split <;> simp_all
    rw [hadd] at this
    exact this

set_option maxRecDepth 100000 in
set_option maxHeartbeats 1000000 in
theorem isWord_any (a : Option Addr) (len cap : Nat) (ss : List ByteArray) (x : ByteArray) (w : World) (h : StrCells w a len ss) :
    Calls Tryz.prog 53 #[.slice a len cap, .string x] w (SomeBool (fun b => b = inW ss x len) w) := by
  have hm := h.1
  have HS := Lib.hid h.2
  clear h
  go_enter Tryz.func53, Tryz.ntmps53
  go_wp2
  go_loop [5] (fun i => ∃ k : Nat, k ≤ len ∧ i = .int .i64 (k : Int) ∧ inW ss x k = false) (fun i => len - (intOf i).toNat)
  case atStart => exact ⟨0, by omega, by go_num, rfl⟩
  case round =>
    obtain ⟨k, hk, rfl, hno⟩ := hrel
    by_cases hlt : k < len
    · obtain ⟨b, off, rfl, hc⟩ := HS.out (by omega)
      have ck := hc k hlt
      have hst : inW ss x (k + 1) = ((ss.getD k ByteArray.empty).toList == x.toList) := by simp only [inW, hno, Bool.false_or]
      obtain ⟨y, hy⟩ : ∃ y, ss.getD k ByteArray.empty = y := ⟨_, rfl⟩
      rw [hy] at ck hst
      have HST := Lib.hid hst
      have HNO := Lib.hid hno
      clear hc hy hst hno
      cases hq : (y.toList == x.toList)
      · have hf : inW ss x (k + 1) = false := by rw [HST.out, hq]
        have HF := Lib.hid hf
        clear hf
        go_wp2
        go_round
        case rel => exact ⟨k + 1, by omega, by go_num, HF.out⟩
        case measure => simp [intOf]; omega
      · have hall : ∀ d, inW ss x (k + 1 + d) = true := fun d => by
          induction d with
          | zero => rw [Nat.add_zero, HST.out, hq]
          | succ d ih => show inW ss x (k + 1 + d + 1) = true; simp only [inW, ih, Bool.true_or]
        have hfin := hall (len - (k + 1))
        rw [show k + 1 + (len - (k + 1)) = len by omega] at hfin
        have HFIN := Lib.hid hfin
        clear hall hfin
        go_wp2
        go_ret
        exact ⟨true, HFIN.out.symm, rfl, rfl⟩
    · obtain rfl : k = len := by omega
      have HNO := Lib.hid hno
      clear hno
      go_wp2
      go_ret
      exact ⟨false, HNO.out.symm, rfl, rfl⟩

/-- What SimpleClass says with a yes. -/
def SimpleSays (s : ByteArray) (b : Bool) : Prop := b = true → (∀ j (h : j < s.size), s[j].toNat ≠ 12 ∧ s[j].toNat ≠ 11 ∧ s[j].toNat < 128) ∧ (∀ i, i < (wordsF s).length → inW (wordsF s) ((wordsF s).getD i ByteArray.empty) i = false)
theorem simpleSays_false (s : ByteArray) : SimpleSays s false := by simp [SimpleSays]

set_option maxRecDepth 100000 in
set_option maxHeartbeats 2000000 in
theorem simpleClass_any (s : ByteArray) (w : World) (hs : s.size ≤ 10000) :
    Calls Tryz.prog 114 #[.string s] w (SomeBoolB (SimpleSays s) w) := by
  have hwl := wordsF_len s
  go_enter Tryz.func114, Tryz.ntmps114
  go_wp2
  go_loop [3] (fun i => ∃ k : Nat, k ≤ s.size ∧ i = .int .i64 (k : Int) ∧ ∀ j (h : j < s.size), j < k → s[j].toNat ≠ 12 ∧ s[j].toNat ≠ 11 ∧ s[j].toNat < 128) (fun i => s.size - (intOf i).toNat)
  case atStart => exact ⟨0, by omega, by go_num, fun j _ h => by omega⟩
  case round =>
    obtain ⟨k, hk, rfl, hall⟩ := hrel
    have HALL := Lib.hid hall
    clear hall
    by_cases hlt : k < s.size
    · have hkI : (k : Int) < (s.size : Int) := by omega
      cases e1 : ((s[k].toNat : Int) == 12)
      · cases e2 : ((s[k].toNat : Int) == 11)
        · by_cases h3 : s[k].toNat < 128
          · have e3 : decide ((128 : Int) ≤ (s[k].toNat : Int)) = false := by simp; omega
            have e3n : decide (128 ≤ s[k].toNat) = false := by simp; omega
            have hnx : ∀ j (h : j < s.size), j < k + 1 → s[j].toNat ≠ 12 ∧ s[j].toNat ≠ 11 ∧ s[j].toNat < 128 := fun j hj hjk => by
              by_cases e : j = k
              · subst e
                simp at e1 e2
                omega
              · exact HALL.out j hj (by omega)
            have HNX := Lib.hid hnx
            clear hnx h3
            go_wp2
            go_round
            case rel => exact ⟨k + 1, by omega, by go_num, HNX.out⟩
            case measure => simp [intOf]; omega
          · have e3 : decide ((128 : Int) ≤ (s[k].toNat : Int)) = true := by simp; omega
            have e3n : decide (128 ≤ s[k].toNat) = true := by simp; omega
            clear h3
            go_wp2
            go_ret
            exact ⟨false, simpleSays_false s, rfl, Below.refl _ _⟩
        · go_wp2
          go_ret
          exact ⟨false, simpleSays_false s, rfl, Below.refl _ _⟩
      · go_wp2
        go_ret
        exact ⟨false, simpleSays_false s, rfl, Below.refl _ _⟩
    · obtain rfl : k = s.size := by omega
      clear hlt
      have hgood : ∀ j (h : j < s.size), s[j].toNat ≠ 12 ∧ s[j].toNat ≠ 11 ∧ s[j].toNat < 128 := fun j h => HALL.out j h h
      have HG := Lib.hid hgood
      clear HALL hgood
      go_wp2_with fail
      refine (words_any s w hs).mono ?_
      rintro e w1 ⟨v, rfl, ho, hb⟩
      obtain ⟨a, cap, rfl, hcap, hcells⟩ := ho.out.open
      have HC := Lib.hid hcells
      clear ho hcells
      obtain ⟨ws, hws⟩ : ∃ ws, wordsF s = ws := ⟨_, rfl⟩
      rw [hws] at hwl HC hcap ⊢
      have HWS := Lib.hid hws
      clear hws
      go_wp2
      go_loopw [5] (fun i wr => ∃ (k d : Nat), k ≤ ws.length ∧ i = .int .i64 (k : Int) ∧ wr = w1.drewN d ∧ ∀ i, i < k → inW ws (ws.getD i ByteArray.empty) i = false) (fun i _ => ws.length - (intOf i).toNat)
      case atStart => exact ⟨0, 0, by omega, by go_num, rfl, fun j h => by omega⟩
      case round =>
        obtain ⟨k, d, hk, rfl, rfl, hall⟩ := hrel
        have HALL := Lib.hid hall
        clear hall
        by_cases hlt : k < ws.length
        · obtain ⟨b, off, rfl, hc⟩ := HC.out.2 (by omega)
          have ck := hc k hlt
          obtain ⟨wz, hwz⟩ : ∃ wz, w1.drewN d = wz := ⟨_, rfl⟩
          have hcw : StrCells wz (some ⟨b, off, none⟩) ws.length ws := by rw [← hwz]; exact HC.out.drewN d
          have ck' : wz.cell? ⟨b, off + k, none⟩ = some (.string (ws.getD k ByteArray.empty)) := by rw [← hwz]; simpa using ck
          have hcall : ∀ q, Calls Tryz.prog 53 #[.slice (some ⟨b, off, none⟩) k cap, .string (ws.getD k ByteArray.empty)] (wz.drewN q) (fun e w' => e = .returned (.bool (inW ws (ws.getD k ByteArray.empty) k)) ∧ w' = wz.drewN q) := fun q =>
            (isWord_any (some ⟨b, off, none⟩) k cap ws (ws.getD k ByteArray.empty) (wz.drewN q) ((hcw.part hk).drewN q)).mono fun e w' ⟨b, hb, he, hw⟩ => ⟨by rw [he, hb], hw.symm⟩
          obtain ⟨q, hq⟩ : ∃ q, inW ws (ws.getD k ByteArray.empty) k = q := ⟨_, rfl⟩
          rw [hq] at hcall
          obtain ⟨y, hy⟩ : ∃ y, ws.getD k ByteArray.empty = y := ⟨_, rfl⟩
          rw [hy] at ck' hcall
          have HQ := Lib.hid hq
          have HCL := Lib.hid hcall
          have HW := Lib.hid hwz
          rw [hwz]
          have hkI : (k : Int) < (ws.length : Int) := by omega
          have hkc : (k : Int) ≤ (cap : Int) := by omega
          clear hq hy hcall hc hcw hwz ck
          cases q
          · go_wp2
            go_quiet (exact Calls.quiet_of_same (HCL.out _))
            go_wp2
            go_roundw
            case rel => exact ⟨k + 1, d + nq, by omega, by go_num, by rw [← HW.out]; first | rfl | simp [World.drewN_add] | (rw [World.drewN_drewN]), fun i hi => by
              by_cases e : i = k
              · subst e; exact HQ.out
              · exact HALL.out i (by omega)⟩
            case measure => simp [intOf]; omega
          · go_wp2
            go_quiet (exact Calls.quiet_of_same (HCL.out _))
            go_wp2
            go_ret
            exact ⟨false, simpleSays_false s, rfl, below_drewN (by rw [← HW.out]; exact below_drewN hb.out _) _⟩
        · obtain rfl : k = ws.length := by omega
          go_wp2
          go_ret
          exact ⟨true, fun _ => ⟨HG.out, by rw [HWS.out]; exact HALL.out⟩, rfl, below_drewN hb.out _⟩

end Go.Proofs.YtkdomegcacgpnaaGreat

