/- The words of a text (plain). -/
import Derived.Test.YtikimffifkiinaaBase
import Derived.BigGuardPart
namespace Go.Proofs.Ytikimffifkiinaa
open Go.RowKit
set_option linter.unusedVariables false
set_option linter.unusedSimpArgs false

/-- White space of HTML. -/
def isSp (n : Int) : Bool := n == 32 || n == 9 || n == 10 || n == 13 || n == 12

/-- Behind the first k bytes: where the word under way begins, the words so far. -/
def wst (s : ByteArray) : Nat → Nat × List ByteArray
  | 0 => (0, [])
  | k + 1 => if h : k < s.size then (if isSp (s[k].toNat : Int) then (k + 1, if (wst s k).1 < k then (wst s k).2 ++ [s.extract (wst s k).1 k] else (wst s k).2) else wst s k) else (k + 1, if (wst s k).1 < k then (wst s k).2 ++ [s.extract (wst s k).1 k] else (wst s k).2)

theorem wst_word {s : ByteArray} {k m : Nat} {ws : List ByteArray} (h : wst s k = (m, ws)) (hk : k < s.size) (hsp : isSp (s[k].toNat : Int) = false) : wst s (k + 1) = (m, ws) := by
  simp only [wst, hk, dif_pos, hsp]; simpa using h
theorem wst_cut {s : ByteArray} {k m : Nat} {ws : List ByteArray} (h : wst s k = (m, ws)) (hk : k < s.size) (hsp : isSp (s[k].toNat : Int) = true) : wst s (k + 1) = (k + 1, if m < k then ws ++ [s.extract m k] else ws) := by
  simp only [wst, hk, dif_pos, hsp, h]; rfl
theorem wst_end {s : ByteArray} {m : Nat} {ws : List ByteArray} (h : wst s s.size = (m, ws)) : wst s (s.size + 1) = (s.size + 1, if m < s.size then ws ++ [s.extract m s.size] else ws) := by
  simp only [wst, Nat.lt_irrefl, dif_neg, not_false_eq_true, h]

/-- The words of a text. -/
def wordsF (s : ByteArray) : List ByteArray := (wst s (s.size + 1)).2

theorem str_info' : (Try.prog.info? 9).map (fun i => (i.zero, i.size, i.bytes)) = some (some (.string ByteArray.empty), 1, 16) := by kernel_rfl

/-- A slice of strings, of the call's own. -/
def OwnStrs (w : World) (B : Nat) (v : Value) (l : List ByteArray) : Prop := w.ownsRow B 9 1 v l.length (l.map .string)

def WordsPost (s : ByteArray) (w : World) (e : Ending) (w' : World) : Prop := ∃ v, e = .returned v ∧ Hid (OwnStrs w' w.heap.size v (wordsF s)) ∧ Hid (Below w.heap.size w w')

end Go.Proofs.Ytikimffifkiinaa
