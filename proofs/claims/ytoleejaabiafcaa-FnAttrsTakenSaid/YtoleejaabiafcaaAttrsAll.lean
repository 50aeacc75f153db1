/- The words of a text (plain). spec.Words, spec.isWord, spec.SimpleClass. laws.attrs7, val7, others7same; spec.Attr. -/
import Derived.Test.YtoleejaabiafcaaBase
import Derived.BigGuardPart
import Derived.Test.YtoleejaabiafcaaNodes
import Derived.Test.YtoleejaabiafcaaAttrPure
namespace Go.Proofs.Ytoleejaabiafcaa
open Go.RowKit
set_option linter.unusedVariables false
set_option linter.unusedSimpArgs false

/-- White space of HTML. -/
def isSp (n : Int) : Bool := n == 32 || n == 9 || n == 10 || n == 13 || n == 12

/-- Behind the first k bytes: where the word under way begins, the words so far. -/
def wst (s : ByteArray) : Nat → Nat × List ByteArray
  | 0 => (0, [])
  | k + 1 => if h : k < s.size then (if isSp (s[k].toNat : Int) then (k + 1, if (wst s k).1 < k then (wst s k).2 ++ [s.extract (wst s k).1 k] else (wst s k).2) else wst s k) else (k + 1, if (wst s k).1 < k then (wst s k).2 ++ [s.extract (wst s k).1 k] else (wst s k).2)

theorem wst_word {s : ByteArray} {k m : Nat} {ws : List ByteArray} (h : wst s k = (m, ws)) (hk : k < s.size) (hsp : isSp (s[k].toNat : Int) = false) : wst s (k + 1) = (m, ws) := by
  simp only [wst, hk, dif_pos, hsp]; simpa using h
theorem wst_cut {s : ByteArray} {k m : Nat} {ws : List ByteArray} (h : wst s k = (m, ws)) (hk : k < s.size) (hsp : isSp (s[k].toNat : Int) = true) : wst s (k + 1) = (k + 1, if m < k then ws ++ [s.extract m k] else ws) := by
  simp only [wst, hk, dif_pos, hsp, h]; rfl
theorem wst_end {s : ByteArray} {m : Nat} {ws : List ByteArray} (h : wst s s.size = (m, ws)) : wst s (s.size + 1) = (s.size + 1, if m < s.size then ws ++ [s.extract m s.size] else ws) := by
  simp only [wst, Nat.lt_irrefl, dif_neg, not_false_eq_true, h]

/-- The words of a text. -/
def wordsF (s : ByteArray) : List ByteArray := (wst s (s.size + 1)).2

theorem str_info' : (Try.prog.info? 9).map (fun i => (i.zero, i.size, i.bytes)) = some (some (.string ByteArray.empty), 1, 16) := by kernel_rfl

/-- A slice of strings, of the call's own. -/
def OwnStrs (w : World) (B : Nat) (v : Value) (l : List ByteArray) : Prop := w.ownsRow B 9 1 v l.length (l.map .string)

def WordsPost (s : ByteArray) (w : World) (e : Ending) (w' : World) : Prop := ∃ v, e = .returned v ∧ Hid (OwnStrs w' w.heap.size v (wordsF s)) ∧ Hid (Below w.heap.size w w')

end Go.Proofs.Ytoleejaabiafcaa

namespace Go.Proofs.Ytoleejaabiafcaa
open Go.RowKit
set_option linter.unusedVariables false
set_option linter.unusedSimpArgs false

/-- The tests of a byte, up to the one that holds. -/
structure Tested (n : Int) (a b c d e : Bool) : Prop where
  e1 : (n != 32) = a
  e2 : (n != 9) = b
  e3 : (n != 10) = c
  e4 : (n != 12) = d
  e5 : (n != 13) = e
theorem isSp_tested {n : Int} (h : isSp n = true) : Tested n false true true true true ∨ Tested n true false true true true ∨ Tested n true true false true true ∨ Tested n true true true false true ∨ Tested n true true true true false := by
  simp [isSp] at h
  rcases h with (((rfl | rfl) | rfl) | rfl) | rfl
  · exact .inl ⟨rfl, rfl, rfl, rfl, rfl⟩
  · exact .inr (.inl ⟨rfl, rfl, rfl, rfl, rfl⟩)
  · exact .inr (.inr (.inl ⟨rfl, rfl, rfl, rfl, rfl⟩))
  · exact .inr (.inr (.inr (.inr ⟨rfl, rfl, rfl, rfl, rfl⟩)))
  · exact .inr (.inr (.inr (.inl ⟨rfl, rfl, rfl, rfl, rfl⟩)))

theorem isSp_no {n : Int} (h : isSp n = false) : (n == 32) = false ∧ (n == 9) = false ∧ (n == 10) = false ∧ (n == 12) = false ∧ (n == 13) = false := by
  simp [isSp] at h ⊢; omega
theorem isSp_yes {n : Int} (h : isSp n = true) : (n == 32) = true ∨ ((n == 32) = false ∧ (n == 9) = true) ∨ ((n == 32) = false ∧ (n == 9) = false ∧ (n == 10) = true) ∨ ((n == 32) = false ∧ (n == 9) = false ∧ (n == 10) = false ∧ (n == 12) = true) ∨ ((n == 32) = false ∧ (n == 9) = false ∧ (n == 10) = false ∧ (n == 12) = false ∧ (n == 13) = true) := by
  simp [isSp] at h ⊢; omega
theorem bne_of {n c : Int} {b : Bool} (h : (n == c) = b) : (n != c) = !b := by simp [bne, h]

set_option maxRecDepth 100000 in
set_option maxHeartbeats 8000000 in
theorem words_any (s : ByteArray) (w : World) (hs : s.size ≤ 10000) : Calls Try.prog 33 #[.string s] w (WordsPost s w) := by
  obtain ⟨i0, hi, hz0, hz1, hz2⟩ := info_parts str_info'
  go_enter Try.func33, Try.ntmps33
  go_wp2
  go_loopw [3, 4, 5] (fun x f i wr => ∃ (k m : Nat) (ws : List ByteArray), i = .int .i64 (k : Int) ∧ f = .int .i64 (m : Int) ∧ k ≤ s.size + 1 ∧ m ≤ k ∧ ws.length ≤ k ∧ wst s k = (m, ws) ∧ OwnStrs wr w.heap.size x ws ∧ Below w.heap.size w wr)
    (fun _ _ i _ => s.size + 1 - (intOf i).toNat)
  case atStart => exact ⟨0, 0, [], by go_num, by go_num, by omega, by omega, by simp, rfl, World.ownsRow_nil _ _ _ _, Below.refl _ _⟩
  case round =>
    obtain ⟨k, m, ws, rfl, rfl, hk, hmk, hwl, hst, hown, hbel⟩ := hrel
    have HST := Lib.hid hst
    clear hst
    have HOWN := Lib.hid hown
    have HBEL := Lib.hid hbel
    clear hown hbel
    by_cases hle : k ≤ s.size
    · by_cases hlt : k < s.size
      · cases hsp : isSp (s[k].toNat : Int)
        · obtain ⟨h1, h2, h3, h4, h5⟩ := isSp_no hsp
          have e1 := bne_of h1
          have e2 := bne_of h2
          have e3 := bne_of h3
          have e4 := bne_of h4
          have e5 := bne_of h5
          simp only [Bool.not_false] at e1 e2 e3 e4 e5
          clear h1 h2 h3 h4 h5
          have HSP := Lib.hid hsp
          clear hsp
          go_wp2
          go_roundw
          case rel => exact ⟨k + 1, m, ws, by go_num, rfl, by omega, by omega, by omega, wst_word HST.out hlt HSP.out, HOWN.out, HBEL.out⟩
          case measure => simp [intOf]; omega
        · have HSP := Lib.hid hsp
          by_cases hfm : m < k
          · have hfI : (m : Int) < (k : Int) := by omega
            have gf : decide ((m : Int) < (k : Int)) = true := decide_eq_true hfI
            have hown' : wr.ownsRow w.heap.size 9 1 u3 ws.length (ws.map .string) := HOWN.out
            rcases isSp_tested hsp with ⟨e1, e2, e3, e4, e5⟩ | ⟨e1, e2, e3, e4, e5⟩ | ⟨e1, e2, e3, e4, e5⟩ | ⟨e1, e2, e3, e4, e5⟩ | ⟨e1, e2, e3, e4, e5⟩
            all_goals
              clear hsp
              go_wp2_with (at_builtin; refine wpList_append_own _ rfl _ _ 25 rfl w.heap.size 9 i0 (.string ByteArray.empty) 1 16 Try.underlying25 hi hz0 hz1 hz2 rfl (by decide) _ _ _ rfl (hown'.alloc _) ⟨wr.heap.size, 0, none⟩ 1 1 [.string (s.extract m k)] rfl rfl ?c1A ?c2A ?c3A ?c4A ?c5A ?_)
              case c1A =>
                intro j u hj
                match j, hj with
                | 0, hj => simp at hj; subst hj; simp [Addr.add]
              case c2A => first | rfl | (intro u hu; simp at hu; subst hu; rfl)
              case c3A => unfold maxLen; omega
              case c4A => omega
              case c5A => have := HBEL.out.size; simp; omega
              intro v' w3 hown3 hgrow _
              have hbel3 : Below w.heap.size w w3 := (HBEL.out.alloc HBEL.out.size _).grown hgrow (by have := HBEL.out.size; simp; omega) (fun q hq => (World.ownsRow.lt hown' q hq).1)
              have hsn : OwnStrs w3 w.heap.size v' (ws ++ [s.extract m k]) := by unfold OwnStrs; simpa using hown3
              have H3 := Lib.hid (And.intro hsn hbel3)
              clear hown3 hgrow hbel3 hsn hown'
              go_wp2
              go_roundw
              case rel => exact ⟨k + 1, k + 1, ws ++ [s.extract m k], by go_num, by go_num, by omega, by omega, by simp; omega, by rw [wst_cut HST.out hlt HSP.out, if_pos hfm], H3.out.1, H3.out.2⟩
              case measure => simp [intOf]; omega
          · have gf : decide ((m : Int) < (k : Int)) = false := by simp; omega
            rcases isSp_tested hsp with ⟨e1, e2, e3, e4, e5⟩ | ⟨e1, e2, e3, e4, e5⟩ | ⟨e1, e2, e3, e4, e5⟩ | ⟨e1, e2, e3, e4, e5⟩ | ⟨e1, e2, e3, e4, e5⟩
            all_goals
              clear hsp
              go_wp2
              go_roundw
              case rel => exact ⟨k + 1, k + 1, ws, by go_num, by go_num, by omega, by omega, by omega, by rw [wst_cut HST.out hlt HSP.out, if_neg hfm], HOWN.out, HBEL.out⟩
              case measure => simp [intOf]; omega
      · obtain rfl : k = s.size := by omega
        clear hlt
        by_cases hfm : m < s.size
        · have hfI : (m : Int) < (s.size : Int) := by omega
          have gf : decide ((m : Int) < (s.size : Int)) = true := decide_eq_true hfI
          have hown' : wr.ownsRow w.heap.size 9 1 u3 ws.length (ws.map .string) := HOWN.out
          go_wp2_with (at_builtin; refine wpList_append_own _ rfl _ _ 25 rfl w.heap.size 9 i0 (.string ByteArray.empty) 1 16 Try.underlying25 hi hz0 hz1 hz2 rfl (by decide) _ _ _ rfl (hown'.alloc _) ⟨wr.heap.size, 0, none⟩ 1 1 [.string (s.extract m s.size)] rfl rfl ?c1B ?c2B ?c3B ?c4B ?c5B ?_)
          case c1B =>
            intro j u hj
            match j, hj with
            | 0, hj => simp at hj; subst hj; simp [Addr.add]
          case c2B => first | rfl | (intro u hu; simp at hu; subst hu; rfl)
          case c3B => unfold maxLen; omega
          case c4B => omega
          case c5B => have := HBEL.out.size; simp; omega
          intro v' w3 hown3 hgrow _
          have hbel3 : Below w.heap.size w w3 := (HBEL.out.alloc HBEL.out.size _).grown hgrow (by have := HBEL.out.size; simp; omega) (fun q hq => (World.ownsRow.lt hown' q hq).1)
          have hsn : OwnStrs w3 w.heap.size v' (ws ++ [s.extract m s.size]) := by unfold OwnStrs; simpa using hown3
          have H3 := Lib.hid (And.intro hsn hbel3)
          clear hown3 hgrow hbel3 hsn hown'
          go_wp2
          go_roundw
          case rel => exact ⟨s.size + 1, s.size + 1, ws ++ [s.extract m s.size], by go_num, by go_num, by omega, by omega, by simp; omega, by rw [wst_end HST.out, if_pos hfm], H3.out.1, H3.out.2⟩
          case measure => simp [intOf] <;> omega
        · have gf : decide ((m : Int) < (s.size : Int)) = false := by simp; omega
          go_wp2
          go_roundw
          case rel => exact ⟨s.size + 1, s.size + 1, ws, by go_num, by go_num, by omega, by omega, by omega, by rw [wst_end HST.out, if_neg hfm], HOWN.out, HBEL.out⟩
          case measure => simp [intOf] <;> omega
    · obtain rfl : k = s.size + 1 := by omega
      have hw : ws = wordsF s := by unfold wordsF; rw [HST.out]
      have HO : Hid (OwnStrs wr w.heap.size u3 (wordsF s)) := by rw [← hw]; exact HOWN
      clear hw
      go_wp2
      go_ret
      exact ⟨_, rfl, HO, HBEL⟩

theorem wst_len (s : ByteArray) : ∀ k, (wst s k).2.length ≤ k := by
  intro k
  induction k with
  | zero => simp [wst]
  | succ k ih =>
    simp only [wst]
    split
    · split
      · split
        · rw [List.length_append]; simp; omega
        · show (wst s k).2.length ≤ k + 1; omega
      · omega
    · split
      · rw [List.length_append]; simp; omega
      · show (wst s k).2.length ≤ k + 1; omega
theorem wordsF_len (s : ByteArray) : (wordsF s).length ≤ s.size + 1 := wst_len s _

/-- Whether a word is among the first ones. -/
def inW (ws : List ByteArray) (x : ByteArray) : Nat → Bool
  | 0 => false
  | k + 1 => inW ws x k || ((ws.getD k ByteArray.empty).toList == x.toList)

/-- The strings behind a slice's address, the first ones of a list. -/
def StrCells (w : World) (a : Option Addr) (n : Nat) (ss : List ByteArray) : Prop :=
  n ≤ 9223372036854775807 ∧ (0 < n → ∃ b off, a = some ⟨b, off, none⟩ ∧ ∀ i, i < n → w.cell? ⟨b, off + i, none⟩ = some (.string (ss.getD i ByteArray.empty)))

theorem StrCells.below {w w' : World} {a : Option Addr} {n : Nat} {ss : List ByteArray} (h : StrCells w a n ss) (hb : Below w.heap.size w w') : StrCells w' a n ss := by
  refine ⟨h.1, fun h0 => ?_⟩
  obtain ⟨b, off, rfl, hc⟩ := h.2 h0
  exact ⟨b, off, rfl, fun i hi => cell_below hb (hc i hi)⟩

theorem StrCells.part {w : World} {a : Option Addr} {n k : Nat} {ss : List ByteArray} (h : StrCells w a n ss) (hk : k ≤ n) : StrCells w a k ss := by
  refine ⟨by have := h.1; omega, fun h0 => ?_⟩
  obtain ⟨b, off, rfl, hc⟩ := h.2 (by omega)
  exact ⟨b, off, rfl, fun i hi => hc i (by omega)⟩

theorem StrCells.drewN {w : World} {a : Option Addr} {n : Nat} {ss : List ByteArray} (h : StrCells w a n ss) (d : Nat) : StrCells (w.drewN d) a n ss := by
  refine ⟨h.1, fun h0 => ?_⟩
  obtain ⟨b, off, rfl, hc⟩ := h.2 h0
  exact ⟨b, off, rfl, fun i hi => by simpa using hc i hi⟩

theorem OwnStrs.open {w : World} {B : Nat} {v : Value} {l : List ByteArray} (h : OwnStrs w B v l) : ∃ a cap, v = .slice a l.length cap ∧ l.length ≤ cap ∧ StrCells w a l.length l := by
  rcases h.2 with ⟨rfl, h0⟩ | ⟨g, cap, cur, rfl, hb, hg, hn, hm, hcs, ht⟩
  · exact ⟨none, 0, by rw [h0], by omega, by omega, fun h => by omega⟩
  · refine ⟨_, cap, rfl, by simpa using hn, by unfold maxLen at hm; omega, fun hl => ⟨g, 0, rfl, fun i hi => ?_⟩⟩
    have := World.ownsRow.cells (h := h) (g := g) rfl i (.string (l.getD i ByteArray.empty)) (by simp [List.getD, hi])
    have hadd : (⟨g, 0, none⟩ : Addr).add i = ⟨g, 0 + i, none⟩ := by unfold Addr.add; split <;> simp_all
    rw [hadd] at this
    exact this

set_option maxRecDepth 100000 in
set_option maxHeartbeats 1000000 in
theorem isWord_any (a : Option Addr) (len cap : Nat) (ss : List ByteArray) (x : ByteArray) (w : World) (h : StrCells w a len ss) :
    Calls Try.prog 88 #[.slice a len cap, .string x] w (SomeBool (fun b => b = inW ss x len) w) := by
  have hm := h.1
  have HS := Lib.hid h.2
  clear h
  go_enter Try.func88, Try.ntmps88
  go_wp2
  go_loop [5] (fun i => ∃ k : Nat, k ≤ len ∧ i = .int .i64 (k : Int) ∧ inW ss x k = false) (fun i => len - (intOf i).toNat)
  case atStart => exact ⟨0, by omega, by go_num, rfl⟩
  case round =>
    obtain ⟨k, hk, rfl, hno⟩ := hrel
    by_cases hlt : k < len
    · obtain ⟨b, off, rfl, hc⟩ := HS.out (by omega)
      have ck := hc k hlt
      have hst : inW ss x (k + 1) = ((ss.getD k ByteArray.empty).toList == x.toList) := by simp only [inW, hno, Bool.false_or]
      obtain ⟨y, hy⟩ : ∃ y, ss.getD k ByteArray.empty = y := ⟨_, rfl⟩
      rw [hy] at ck hst
      have HST := Lib.hid hst
      have HNO := Lib.hid hno
      clear hc hy hst hno
      cases hq : (y.toList == x.toList)
      · have hf : inW ss x (k + 1) = false := by rw [HST.out, hq]
        have HF := Lib.hid hf
        clear hf
        go_wp2
        go_round
        case rel => exact ⟨k + 1, by omega, by go_num, HF.out⟩
        case measure => simp [intOf]; omega
      · have hall : ∀ d, inW ss x (k + 1 + d) = true := fun d => by
          induction d with
          | zero => rw [Nat.add_zero, HST.out, hq]
          | succ d ih => show inW ss x (k + 1 + d + 1) = true; simp only [inW, ih, Bool.true_or]
        have hfin := hall (len - (k + 1))
        rw [show k + 1 + (len - (k + 1)) = len by omega] at hfin
        have HFIN := Lib.hid hfin
        clear hall hfin
        go_wp2
        go_ret
        exact ⟨true, HFIN.out.symm, rfl, rfl⟩
    · obtain rfl : k = len := by omega
      have HNO := Lib.hid hno
      clear hno
      go_wp2
      go_ret
      exact ⟨false, HNO.out.symm, rfl, rfl⟩

/-- What SimpleClass says with a yes. -/
def SimpleSays (s : ByteArray) (b : Bool) : Prop := b = true → (∀ j (h : j < s.size), s[j].toNat ≠ 12 ∧ s[j].toNat ≠ 11 ∧ s[j].toNat < 128) ∧ (∀ i, i < (wordsF s).length → inW (wordsF s) ((wordsF s).getD i ByteArray.empty) i = false)
theorem simpleSays_false (s : ByteArray) : SimpleSays s false := by simp [SimpleSays]

set_option maxRecDepth 100000 in
set_option maxHeartbeats 2000000 in
theorem simpleClass_any (s : ByteArray) (w : World) (hs : s.size ≤ 10000) :
    Calls Try.prog 62 #[.string s] w (SomeBoolB (SimpleSays s) w) := by
  have hwl := wordsF_len s
  go_enter Try.func62, Try.ntmps62
  go_wp2
  go_loop [3] (fun i => ∃ k : Nat, k ≤ s.size ∧ i = .int .i64 (k : Int) ∧ ∀ j (h : j < s.size), j < k → s[j].toNat ≠ 12 ∧ s[j].toNat ≠ 11 ∧ s[j].toNat < 128) (fun i => s.size - (intOf i).toNat)
  case atStart => exact ⟨0, by omega, by go_num, fun j _ h => by omega⟩
  case round =>
    obtain ⟨k, hk, rfl, hall⟩ := hrel
    have HALL := Lib.hid hall
    clear hall
    by_cases hlt : k < s.size
    · have hkI : (k : Int) < (s.size : Int) := by omega
      cases e1 : ((s[k].toNat : Int) == 12)
      · cases e2 : ((s[k].toNat : Int) == 11)
        · by_cases h3 : s[k].toNat < 128
          · have e3 : decide ((128 : Int) ≤ (s[k].toNat : Int)) = false := by simp; omega
            have e3n : decide (128 ≤ s[k].toNat) = false := by simp; omega
            have hnx : ∀ j (h : j < s.size), j < k + 1 → s[j].toNat ≠ 12 ∧ s[j].toNat ≠ 11 ∧ s[j].toNat < 128 := fun j hj hjk => by
              by_cases e : j = k
              · subst e
                simp at e1 e2
                omega
              · exact HALL.out j hj (by omega)
            have HNX := Lib.hid hnx
            clear hnx h3
            go_wp2
            go_round
            case rel => exact ⟨k + 1, by omega, by go_num, HNX.out⟩
            case measure => simp [intOf]; omega
          · have e3 : decide ((128 : Int) ≤ (s[k].toNat : Int)) = true := by simp; omega
            have e3n : decide (128 ≤ s[k].toNat) = true := by simp; omega
            clear h3
            go_wp2
            go_ret
            exact ⟨false, simpleSays_false s, rfl, Below.refl _ _⟩
        · go_wp2
          go_ret
          exact ⟨false, simpleSays_false s, rfl, Below.refl _ _⟩
      · go_wp2
        go_ret
        exact ⟨false, simpleSays_false s, rfl, Below.refl _ _⟩
    · obtain rfl : k = s.size := by omega
      clear hlt
      have hgood : ∀ j (h : j < s.size), s[j].toNat ≠ 12 ∧ s[j].toNat ≠ 11 ∧ s[j].toNat < 128 := fun j h => HALL.out j h h
      have HG := Lib.hid hgood
      clear HALL hgood
      go_wp2_with fail
      refine (words_any s w hs).mono ?_
      rintro e w1 ⟨v, rfl, ho, hb⟩
      obtain ⟨a, cap, rfl, hcap, hcells⟩ := ho.out.open
      have HC := Lib.hid hcells
      clear ho hcells
      obtain ⟨ws, hws⟩ : ∃ ws, wordsF s = ws := ⟨_, rfl⟩
      rw [hws] at hwl HC hcap ⊢
      have HWS := Lib.hid hws
      clear hws
      go_wp2
      go_loopw [5] (fun i wr => ∃ (k d : Nat), k ≤ ws.length ∧ i = .int .i64 (k : Int) ∧ wr = w1.drewN d ∧ ∀ i, i < k → inW ws (ws.getD i ByteArray.empty) i = false) (fun i _ => ws.length - (intOf i).toNat)
      case atStart => exact ⟨0, 0, by omega, by go_num, rfl, fun j h => by omega⟩
      case round =>
        obtain ⟨k, d, hk, rfl, rfl, hall⟩ := hrel
        have HALL := Lib.hid hall
        clear hall
        by_cases hlt : k < ws.length
        · obtain ⟨b, off, rfl, hc⟩ := HC.out.2 (by omega)
          have ck := hc k hlt
          obtain ⟨wz, hwz⟩ : ∃ wz, w1.drewN d = wz := ⟨_, rfl⟩
          have hcw : StrCells wz (some ⟨b, off, none⟩) ws.length ws := by rw [← hwz]; exact HC.out.drewN d
          have ck' : wz.cell? ⟨b, off + k, none⟩ = some (.string (ws.getD k ByteArray.empty)) := by rw [← hwz]; simpa using ck
          have hcall : ∀ q, Calls Try.prog 88 #[.slice (some ⟨b, off, none⟩) k cap, .string (ws.getD k ByteArray.empty)] (wz.drewN q) (fun e w' => e = .returned (.bool (inW ws (ws.getD k ByteArray.empty) k)) ∧ w' = wz.drewN q) := fun q =>
            (isWord_any (some ⟨b, off, none⟩) k cap ws (ws.getD k ByteArray.empty) (wz.drewN q) ((hcw.part hk).drewN q)).mono fun e w' ⟨b, hb, he, hw⟩ => ⟨by rw [he, hb], hw.symm⟩
          obtain ⟨q, hq⟩ : ∃ q, inW ws (ws.getD k ByteArray.empty) k = q := ⟨_, rfl⟩
          rw [hq] at hcall
          obtain ⟨y, hy⟩ : ∃ y, ws.getD k ByteArray.empty = y := ⟨_, rfl⟩
          rw [hy] at ck' hcall
          have HQ := Lib.hid hq
          have HCL := Lib.hid hcall
          have HW := Lib.hid hwz
          rw [hwz]
          have hkI : (k : Int) < (ws.length : Int) := by omega
          have hkc : (k : Int) ≤ (cap : Int) := by omega
          clear hq hy hcall hc hcw hwz ck
          cases q
          · go_wp2
            go_quiet (exact Calls.quiet_of_same (HCL.out _))
            go_wp2
            go_roundw
            case rel => exact ⟨k + 1, d + nq, by omega, by go_num, by rw [← HW.out]; first | rfl | simp [World.drewN_add] | (rw [World.drewN_drewN]), fun i hi => by
              by_cases e : i = k
              · subst e; exact HQ.out
              · exact HALL.out i (by omega)⟩
            case measure => simp [intOf]; omega
          · go_wp2
            go_quiet (exact Calls.quiet_of_same (HCL.out _))
            go_wp2
            go_ret
            exact ⟨false, simpleSays_false s, rfl, below_drewN (by rw [← HW.out]; exact below_drewN hb.out _) _⟩
        · obtain rfl : k = ws.length := by omega
          go_wp2
          go_ret
          exact ⟨true, fun _ => ⟨HG.out, by rw [HWS.out]; exact HALL.out⟩, rfl, below_drewN hb.out _⟩

end Go.Proofs.Ytoleejaabiafcaa

namespace Go.Proofs.Ytoleejaabiafcaa
open Go.RowKit
set_option linter.unusedVariables false
set_option linter.unusedSimpArgs false

/-- What attrs7 says with a yes. -/
def Attrs7Say (l : KVs) (b : Bool) : Prop := b = true → l.length ≤ 12 ∧ (∀ x ∈ l, x.1.size ≤ 200 ∧ x.2.size ≤ 200 ∧ (x.1.toList = [99, 108, 97, 115, 115] → SimpleSays x.2 true)) ∧ DistKV l
theorem attrs7Say_false (l : KVs) : Attrs7Say l false := by simp [Attrs7Say]

def sClass : ByteArray := ⟨#[99, 108, 97, 115, 115]⟩

/-- What is known of the first n. -/
def A7 (l : KVs) (n : Nat) : Prop := (∀ i, i < n → (l.getD i default).1.size ≤ 200 ∧ (l.getD i default).2.size ≤ 200 ∧ ((l.getD i default).1.toList = [99, 108, 97, 115, 115] → SimpleSays (l.getD i default).2 true)) ∧ ∀ i, i < n → NoneBefore l (l.getD i default).1 i

set_option maxRecDepth 100000 in
set_option maxHeartbeats 4000000 in
theorem attrs7_any (a : Option Addr) (len cap : Nat) (l : KVs) (w : World) (h : AttrsAt w a len l) :
    Calls Try.prog 30 #[.slice a len cap] w (SomeBoolB (Attrs7Say l) w) := by
  have hm := h.2.1
  unfold maxLen at hm
  by_cases h12 : 12 < len
  · have g12 : decide ((12 : Int) < (len : Int)) = true := by simp; omega
    go_enter Try.func30, Try.ntmps30
    go_wp2
    go_ret
    exact ⟨_, attrs7Say_false _, rfl, Below.refl _ _⟩
  have h12' : len ≤ 12 := by omega
  have g12 : decide ((12 : Int) < (len : Int)) = false := by simp; omega
  have HA := Lib.hid h
  clear h h12
  go_enter Try.func30, Try.ntmps30
  go_wp2
  go_loopw [3] (fun i wr => ∃ (n : Nat), n ≤ len ∧ i = .int .i64 n ∧ A7 l n ∧ Below w.heap.size w wr) (fun i _ => len - (intOf i).toNat)
  case atStart => exact ⟨0, by omega, rfl, ⟨fun i h => by omega, fun i h => by omega⟩, Below.refl _ _⟩
  case round =>
    obtain ⟨n, hn, rfl, hap, hbel⟩ := hrel
    have HAP := Lib.hid hap
    have HBEL := Lib.hid hbel
    clear hap hbel
    by_cases hlt : n < len
    · obtain ⟨h1, h2, hsz, hcc⟩ := HA.out.below HBEL.out
      obtain ⟨b, off, rfl, hc⟩ := hcc (by omega)
      obtain ⟨ck, cv⟩ := hc n hlt
      have hin : n < l.length := by omega
      have hs := hsz _ (getD_mem' (d := default) hin)
      have HC := Lib.hid hc
      obtain ⟨key, hkey⟩ : ∃ key, (l.getD n default).1 = key := ⟨_, rfl⟩
      obtain ⟨val, hval⟩ : ∃ val, (l.getD n default).2 = val := ⟨_, rfl⟩
      rw [hkey] at ck hs
      rw [hval] at cv hs
      unfold maxLen at hs
      have hs1 := hs.1
      have hs2 := hs.2
      have HK := Lib.hid (And.intro hkey hval)
      have hnI : (n : Int) < (len : Int) := by omega
      clear h1 h2 hsz hcc hc hin hkey hval hs
      by_cases q1 : 200 < key.size
      · have g1 : decide ((200 : Int) < (key.size : Int)) = true := by simp; omega
        have g1n : decide (200 < key.size) = true := by simp; omega
        clear q1
        go_wp2
        go_ret
        exact ⟨_, attrs7Say_false _, rfl, HBEL.out⟩
      have g1 : decide ((200 : Int) < (key.size : Int)) = false := by simp; omega
      have g1n : decide (200 < key.size) = false := by simp; omega
      by_cases q2 : 200 < val.size
      · have g2 : decide ((200 : Int) < (val.size : Int)) = true := by simp; omega
        have g2n : decide (200 < val.size) = true := by simp; omega
        clear q1 q2
        go_wp2
        go_ret
        exact ⟨_, attrs7Say_false _, rfl, HBEL.out⟩
      have g2 : decide ((200 : Int) < (val.size : Int)) = false := by simp; omega
      have g2n : decide (200 < val.size) = false := by simp; omega
      have HQ := Lib.hid (And.intro q1 q2)
      have hcall := fun wr' => simpleClass_any val wr' (by omega)
      have HCL := Lib.hid hcall
      clear q1 q2 hcall
      by_cases hcl : key.toList = [99, 108, 97, 115, 115]
      rotate_left
      · have hcb : (key.toList == [99, 108, 97, 115, 115]) = false := by simpa using hcl
        have HSM := Lib.hid (show key.toList = [99, 108, 97, 115, 115] → SimpleSays val true from fun e => absurd e hcl)
        go_wp2
        clear hcl hcb
        go_loopw [4] (fun i wr2 => ∃ (k : Nat), k ≤ n ∧ i = .int .i64 k ∧ NoneBefore l key k ∧ Below w.heap.size w wr2) (fun i _ => n - (intOf i).toNat)
        case atStart => exact ⟨0, by omega, rfl, fun j hj => by omega, HBEL.out⟩
        case round =>
          obtain ⟨k, hkn, rfl, hne, hbel2⟩ := hrel
          have HNE := Lib.hid hne
          have HBE2 := Lib.hid hbel2
          clear hne hbel2
          by_cases hlk : k < n
          · obtain ⟨_, _, _, hcc⟩ := HA.out.below HBE2.out
            obtain ⟨b2, off2, hbe, hc⟩ := hcc (by omega)
            simp at hbe
            obtain ⟨rfl, rfl⟩ := hbe
            have ck2 := (hc k (by omega)).1
            have ck3 := (hc n hlt).1
            obtain ⟨y, hy⟩ : ∃ y, (l.getD k default).1 = y := ⟨_, rfl⟩
            rw [hy] at ck2
            rw [HK.out.1] at ck3
            have HY := Lib.hid hy
            have hkI : (k : Int) < (n : Int) := by omega
            have hkL : (k : Int) < (len : Int) := by omega
            have hnL : (n : Int) < (len : Int) := by omega
            clear hy hcc hc
            cases heq : (y.toList == key.toList)
            · go_wp2
              go_quiet (fail)
              go_wp2
              go_roundw
              case rel => exact ⟨k + 1, by omega, by go_num, HNE.out.succ HY.out heq, by first | exact below_drewN HBE2.out _ | exact below_drewN (below_drewN HBE2.out _) _⟩
              case measure => simp [intOf]; omega
            · go_wp2
              go_quiet (fail)
              go_wp2
              go_ret
              exact ⟨_, attrs7Say_false _, rfl, by first | exact below_drewN HBE2.out _ | exact below_drewN (below_drewN HBE2.out _) _⟩
          · obtain rfl : k = n := by omega
            have hap2 : A7 l (k + 1) := ⟨fun i hi => by
              by_cases e : i = k
              · subst e; rw [HK.out.1, HK.out.2]; have := HQ.out; exact ⟨by omega, by omega, HSM.out⟩
              · exact HAP.out.1 i (by omega), fun i hi => by
              by_cases e : i = k
              · subst e; rw [HK.out.1]; exact HNE.out
              · exact HAP.out.2 i (by omega)⟩
            have HAP2 := Lib.hid hap2
            clear hap2
            go_wp2
            go_roundw
            case rel => exact ⟨k + 1, by omega, by go_num, HAP2.out, HBE2.out⟩
            case measure => simp [intOf]; omega
      · have hcb : (key.toList == [99, 108, 97, 115, 115]) = true := by simpa using hcl
        go_wp2_with fail
        refine (HCL.out _).mono ?_
        rintro e w1 ⟨c, hsm, rfl, hb1⟩
        have HB1 := Lib.hid (HBEL.out.trans (hb1.mono HBEL.out.size))
        have HSM0 := Lib.hid hsm
        clear hb1 hcl hcb hsm
        cases c
        · go_wp2
          go_ret
          exact ⟨_, attrs7Say_false _, rfl, HB1.out⟩
        have HSM := Lib.hid (show key.toList = [99, 108, 97, 115, 115] → SimpleSays val true from fun _ => HSM0.out)
        clear HSM0
        go_wp2
        go_loopw [4] (fun i wr2 => ∃ (k : Nat), k ≤ n ∧ i = .int .i64 k ∧ NoneBefore l key k ∧ Below w.heap.size w wr2) (fun i _ => n - (intOf i).toNat)
        case atStart => exact ⟨0, by omega, rfl, fun j hj => by omega, HB1.out⟩
        case round =>
          obtain ⟨k, hkn, rfl, hne, hbel2⟩ := hrel
          have HNE := Lib.hid hne
          have HBE2 := Lib.hid hbel2
          clear hne hbel2
          by_cases hlk : k < n
          · obtain ⟨_, _, _, hcc⟩ := HA.out.below HBE2.out
            obtain ⟨b2, off2, hbe, hc⟩ := hcc (by omega)
            simp at hbe
            obtain ⟨rfl, rfl⟩ := hbe
            have ck2 := (hc k (by omega)).1
            have ck3 := (hc n hlt).1
            obtain ⟨y, hy⟩ : ∃ y, (l.getD k default).1 = y := ⟨_, rfl⟩
            rw [hy] at ck2
            rw [HK.out.1] at ck3
            have HY := Lib.hid hy
            have hkI : (k : Int) < (n : Int) := by omega
            have hkL : (k : Int) < (len : Int) := by omega
            have hnL : (n : Int) < (len : Int) := by omega
            clear hy hcc hc
            cases heq : (y.toList == key.toList)
            · go_wp2
              go_quiet (fail)
              go_wp2
              go_roundw
              case rel => exact ⟨k + 1, by omega, by go_num, HNE.out.succ HY.out heq, by first | exact below_drewN HBE2.out _ | exact below_drewN (below_drewN HBE2.out _) _⟩
              case measure => simp [intOf]; omega
            · go_wp2
              go_quiet (fail)
              go_wp2
              go_ret
              exact ⟨_, attrs7Say_false _, rfl, by first | exact below_drewN HBE2.out _ | exact below_drewN (below_drewN HBE2.out _) _⟩
          · obtain rfl : k = n := by omega
            have hap2 : A7 l (k + 1) := ⟨fun i hi => by
              by_cases e : i = k
              · subst e; rw [HK.out.1, HK.out.2]; have := HQ.out; exact ⟨by omega, by omega, HSM.out⟩
              · exact HAP.out.1 i (by omega), fun i hi => by
              by_cases e : i = k
              · subst e; rw [HK.out.1]; exact HNE.out
              · exact HAP.out.2 i (by omega)⟩
            have HAP2 := Lib.hid hap2
            clear hap2
            go_wp2
            go_roundw
            case rel => exact ⟨k + 1, by omega, by go_num, HAP2.out, HBE2.out⟩
            case measure => simp [intOf]; omega
    · obtain rfl : n = len := by omega
      go_wp2
      go_ret
      refine ⟨true, fun _ => ⟨by rw [HA.out.1]; exact h12', fun x hx => ?_, dist_of fun i hi j hj => ?_⟩, rfl, HBEL.out⟩
      · obtain ⟨i, hi, rfl⟩ := List.mem_iff_getElem.mp hx
        have := HAP.out.1 i (by rw [← HA.out.1]; exact hi)
        rwa [List.getD_eq_getElem?_getD, List.getElem?_eq_getElem hi] at this
      · exact HAP.out.2 i (by rw [← HA.out.1]; exact hi) j hj

def LookPost (l : KVs) (key : ByteArray) (w : World) (e : Ending) (w' : World) : Prop := e = .returned (.tuple #[.string ((lookKV l key).getD ByteArray.empty), .bool (lookKV l key).isSome]) ∧ Hid (Below w.heap.size w w')

set_option maxRecDepth 100000 in
set_option maxHeartbeats 1000000 in
theorem look_any (k z : Int) (tag text : ByteArray) (aa : Option Addr) (al ac : Nat) (l : KVs) (key : ByteArray) (w : World) (h : AttrsAt w aa al l) :
    Calls Try.prog 44 #[.agg #[.int .i64 k, .string tag, .string text, .slice aa al ac, .int .i64 z], .string key] w (LookPost l key w) := by
  have hm := h.2.1
  unfold maxLen at hm
  have hll := h.1
  have hb0 : Below w.heap.size w (w.alloc (.cells #[.int .i64 k, .string tag, .string text, .slice aa al ac, .int .i64 z] 39)) := (Below.refl _ _).alloc (Nat.le_refl _) _
  have cb : (w.alloc (.cells #[.int .i64 k, .string tag, .string text, .slice aa al ac, .int .i64 z] 39)).cell? ⟨w.heap.size, 3, none⟩ = some (.slice aa al ac) := cell_alloc_new' _ _ _ rfl rfl
  have h0 := h.below hb0
  have HA := Lib.hid h0
  have HB := Lib.hid hb0
  clear h hb0 h0
  subst hll
  go_enter Try.func44, Try.ntmps44
  go_wp2
  go_loop [6] (fun i => ∃ n : Nat, n ≤ l.length ∧ i = .int .i64 (n : Int) ∧ NoneBefore l key n) (fun i => l.length - (intOf i).toNat)
  case atStart => exact ⟨0, by omega, by go_num, fun j hj => by omega⟩
  case round =>
    obtain ⟨n, hn, rfl, hno⟩ := hrel
    have HNO := Lib.hid hno
    clear hno
    by_cases hlt : n < l.length
    · obtain ⟨_, _, _, hcc⟩ := HA.out
      obtain ⟨b, off, rfl, hc⟩ := hcc (by omega)
      obtain ⟨c1, c2⟩ := hc n hlt
      have hnI : (n : Int) < (l.length : Int) := by omega
      obtain ⟨x, hx⟩ : ∃ x, (l.getD n default).1 = x := ⟨_, rfl⟩
      obtain ⟨y, hy⟩ : ∃ y, (l.getD n default).2 = y := ⟨_, rfl⟩
      rw [hx] at c1
      rw [hy] at c2
      have HX := Lib.hid (And.intro hx hy)
      clear hx hy hcc hc
      cases hke : (x.toList == key.toList)
      · have HKE := Lib.hid (HNO.out.succ HX.out.1 hke)
        go_wp2
        go_round
        case rel => exact ⟨n + 1, by omega, by go_num, HKE.out⟩
        case measure => simp [intOf]; omega
      · have hfin : lookKV l key = some y := by rw [look_at hlt HNO.out (by rw [HX.out.1]; exact hke), HX.out.2]
        have HFIN := Lib.hid hfin
        clear hfin
        go_wp2
        go_ret2
        exact ⟨by rw [HFIN.out]; rfl, HB⟩
    · obtain rfl : n = l.length := by omega
      have hfin : lookKV l key = none := look_none HNO.out
      have HFIN := Lib.hid hfin
      clear hfin
      go_wp2
      go_ret2
      exact ⟨by rw [HFIN.out]; rfl, HB⟩

set_option maxRecDepth 100000 in
set_option maxHeartbeats 1000000 in
theorem val7_any (aa : Option Addr) (al ac : Nat) (l : KVs) (key : ByteArray) (w : World) (h : AttrsAt w aa al l) :
    Calls Try.prog 32 #[.slice aa al ac, .string key] w (LookPost l key w) := by
  have hl := fun (o : Obj) => look_any 0 0 ⟨#[]⟩ ⟨#[]⟩ aa al ac l key (w.alloc o) (h.below ((Below.refl _ _).alloc (Nat.le_refl _) o))
  have hl0 := look_any 0 0 ⟨#[]⟩ ⟨#[]⟩ aa al ac l key w h
  have HL := Lib.hid hl
  have HL0 := Lib.hid hl0
  clear hl hl0 h
  go_enter Try.func32, Try.ntmps32
  go_wp2_with fail
  first | (refine (HL.out _).mono ?_) | (refine HL0.out.mono ?_)
  rintro e w1 ⟨rfl, hb⟩
  have hb1 : Below w.heap.size w w1 := by first | exact hb.out | exact ((Below.refl _ _).alloc (Nat.le_refl _) _).trans (hb.out.mono (by simp))
  have HB := Lib.hid hb1
  clear HL HL0 hb hb1
  obtain ⟨o, ho⟩ : ∃ o, lookKV l key = o := ⟨_, rfl⟩
  rw [ho]
  have HO := Lib.hid ho
  clear ho
  go_wp2
  go_ret2
  exact ⟨by rw [HO.out]; rfl, HB⟩

set_option maxRecDepth 100000 in
set_option maxHeartbeats 4000000 in
theorem others_any (a1 a2 : Option Addr) (n1 c1 n2 c2 : Nat) (l1 l2 : KVs) (key : ByteArray) (w : World) (h1 : AttrsAt w a1 n1 l1) (h2 : AttrsAt w a2 n2 l2) (f12 : Found l1 l2) (f21 : Found l2 l1) :
    Calls Try.prog 39 #[.slice a1 n1 c1, .slice a2 n2 c2, .string key] w (YesB w) := by
  have hm1 := h1.2.1
  have hm2 := h2.2.1
  unfold maxLen at hm1 hm2
  have H1 := Lib.hid h1
  have H2 := Lib.hid h2
  have F12 := Lib.hid f12
  have F21 := Lib.hid f21
  clear h1 h2 f12 f21
  go_enter Try.func39, Try.ntmps39
  go_wp2
  go_loopw [7] (fun i wr => ∃ (n : Nat), n ≤ n1 ∧ i = .int .i64 n ∧ Below w.heap.size w wr) (fun i _ => n1 - (intOf i).toNat)
  case atStart => exact ⟨0, by omega, rfl, Below.refl _ _⟩
  case round =>
    obtain ⟨n, hn, rfl, hbel⟩ := hrel
    have HBEL := Lib.hid hbel
    clear hbel
    by_cases hlt : n < n1
    · obtain ⟨e1, _, _, hcc⟩ := H1.out.below HBEL.out
      obtain ⟨b, off, rfl, hc⟩ := hcc (by omega)
      obtain ⟨ck, cv⟩ := hc n hlt
      have hfd := F12.out _ (getD_mem' (d := default) (show n < l1.length by omega))
      have hv := val7_any a2 n2 c2 l2 (l1.getD n default).1 wr (H2.out.below HBEL.out)
      unfold LookPost at hv
      rw [hfd] at hv
      obtain ⟨x, hx⟩ : ∃ x, (l1.getD n default).1 = x := ⟨_, rfl⟩
      obtain ⟨y, hy⟩ : ∃ y, (l1.getD n default).2 = y := ⟨_, rfl⟩
      rw [hx] at ck hv
      rw [hy] at cv hv
      have HV := Lib.hid hv
      have hnI : (n : Int) < (n1 : Int) := by omega
      have hyy : (y.toList != y.toList) = false := by simp
      have hyy2 : (y.toList == y.toList) = true := by simp
      clear e1 hcc hc hfd hv hx hy
      go_wp2_with fail
      refine HV.out.mono ?_
      rintro e w1 ⟨rfl, hb⟩
      have ck1 := cell_below hb.out ck
      have cv1 := cell_below hb.out cv
      have HB1 := Lib.hid (HBEL.out.trans (hb.out.mono HBEL.out.size))
      clear HV hb ck cv
      cases hk : (x.toList == key.toList)
      all_goals
        go_wp2
        go_roundw
        case rel => exact ⟨n + 1, by omega, by go_num, HB1.out⟩
        case measure => simp [intOf]; omega
    · obtain rfl : n = n1 := by omega
      go_wp2
      go_loopw [10] (fun i wr => ∃ (n : Nat), n ≤ n2 ∧ i = .int .i64 n ∧ Below w.heap.size w wr) (fun i _ => n2 - (intOf i).toNat)
      case atStart => exact ⟨0, by omega, rfl, HBEL.out⟩
      case round =>
        obtain ⟨m, hm, rfl, hbel⟩ := hrel
        have HBE := Lib.hid hbel
        clear hbel
        by_cases hlt2 : m < n2
        · obtain ⟨e1, _, _, hcc⟩ := H2.out.below HBE.out
          obtain ⟨b, off, rfl, hc⟩ := hcc (by omega)
          obtain ⟨ck, cv⟩ := hc m hlt2
          have hfd := F21.out _ (getD_mem' (d := default) (show m < l2.length by omega))
          have hv := val7_any a1 n c1 l1 (l2.getD m default).1 _ (H1.out.below HBE.out)
          unfold LookPost at hv
          rw [hfd] at hv
          obtain ⟨x, hx⟩ : ∃ x, (l2.getD m default).1 = x := ⟨_, rfl⟩
          obtain ⟨y, hy⟩ : ∃ y, (l2.getD m default).2 = y := ⟨_, rfl⟩
          rw [hx] at ck hv
          rw [hy] at cv hv
          have HV := Lib.hid hv
          have hnI : (m : Int) < (n2 : Int) := by omega
          clear e1 hcc hc hfd hv hx hy
          go_wp2_with fail
          refine HV.out.mono ?_
          rintro e w1 ⟨rfl, hb⟩
          have ck1 := cell_below hb.out ck
          have HB1 := Lib.hid (HBE.out.trans (hb.out.mono HBE.out.size))
          clear HV hb ck cv
          cases hk : (x.toList == key.toList)
          all_goals
            go_wp2
            go_roundw
            case rel => exact ⟨m + 1, by omega, by go_num, HB1.out⟩
            case measure => simp [intOf]; omega
        · obtain rfl : m = n2 := by omega
          go_wp2
          go_ret
          exact ⟨rfl, HBE.out⟩

end Go.Proofs.Ytoleejaabiafcaa

