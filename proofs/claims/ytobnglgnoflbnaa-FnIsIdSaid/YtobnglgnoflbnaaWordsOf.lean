/- spec.space, spec.WordsOf: they return. -/
import Derived.Test.YtobnglgnoflbnaaBase
import Derived.BigGuardPart
namespace Go.Proofs.Ytobnglgnoflbnaa
open Go.RowKit
set_option linter.unusedVariables false
set_option linter.unusedSimpArgs false

/-- White space of HTML. -/
def isSp (n : Int) : Bool := n == 32 || n == 9 || n == 10 || n == 13 || n == 12

/-- Behind the first k bytes: where the word under way begins, the words so far. -/
def wst (s : ByteArray) : Nat → Nat × List ByteArray
  | 0 => (0, [])
  | k + 1 => if h : k < s.size then (if isSp (s[k].toNat : Int) then (k + 1, if (wst s k).1 < k then (wst s k).2 ++ [s.extract (wst s k).1 k] else (wst s k).2) else wst s k) else (k + 1, if (wst s k).1 < k then (wst s k).2 ++ [s.extract (wst s k).1 k] else (wst s k).2)

theorem wst_word {s : ByteArray} {k m : Nat} {ws : List ByteArray} (h : wst s k = (m, ws)) (hk : k < s.size) (hsp : isSp (s[k].toNat : Int) = false) : wst s (k + 1) = (m, ws) := by
  simp only [wst, hk, dif_pos, hsp]; simpa using h
theorem wst_cut {s : ByteArray} {k m : Nat} {ws : List ByteArray} (h : wst s k = (m, ws)) (hk : k < s.size) (hsp : isSp (s[k].toNat : Int) = true) : wst s (k + 1) = (k + 1, if m < k then ws ++ [s.extract m k] else ws) := by
  simp only [wst, hk, dif_pos, hsp, h]; rfl
theorem wst_end {s : ByteArray} {m : Nat} {ws : List ByteArray} (h : wst s s.size = (m, ws)) : wst s (s.size + 1) = (s.size + 1, if m < s.size then ws ++ [s.extract m s.size] else ws) := by
  simp only [wst, Nat.lt_irrefl, dif_neg, not_false_eq_true, h]

/-- The words of a text. -/
def wordsF (s : ByteArray) : List ByteArray := (wst s (s.size + 1)).2

set_option maxRecDepth 100000 in
set_option maxHeartbeats 1000000 in
theorem space_any (n : Int) (w : World) : Calls Try.prog 113 #[.int .u8 n] w (SomeBool (fun b => b = isSp n) w) := by
  cases g1 : (n == 32)
  · cases g2 : (n == 9)
    · cases g3 : (n == 10)
      · cases g4 : (n == 13)
        · go_enter Try.func113, Try.ntmps113
          go_wp2
          go_ret
          exact ⟨_, by simp_all [isSp], rfl, rfl⟩
        · go_enter Try.func113, Try.ntmps113
          go_wp2
          go_ret
          exact ⟨_, by simp_all [isSp], rfl, rfl⟩
      · go_enter Try.func113, Try.ntmps113
        go_wp2
        go_ret
        exact ⟨_, by simp_all [isSp], rfl, rfl⟩
    · go_enter Try.func113, Try.ntmps113
      go_wp2
      go_ret
      exact ⟨_, by simp_all [isSp], rfl, rfl⟩
  · go_enter Try.func113, Try.ntmps113
    go_wp2
    go_ret
    exact ⟨_, by simp_all [isSp], rfl, rfl⟩

theorem str_info' : (Try.prog.info? 9).map (fun i => (i.zero, i.size, i.bytes)) = some (some (.string ByteArray.empty), 1, 16) := by kernel_rfl

/-- A slice of strings, of the call's own. -/
def OwnStrs (w : World) (B : Nat) (v : Value) (l : List ByteArray) : Prop := w.ownsRow B 9 1 v l.length (l.map .string)

def WordsPost (s : ByteArray) (w : World) (e : Ending) (w' : World) : Prop := ∃ v, e = .returned v ∧ Hid (OwnStrs w' w.heap.size v (wordsF s)) ∧ Hid (Below w.heap.size w w')

set_option maxRecDepth 100000 in
set_option maxHeartbeats 2000000 in
theorem wordsOf_any (s : ByteArray) (w : World) (hs : s.size ≤ 100) : Calls Try.prog 119 #[.string s] w (WordsPost s w) := by
  obtain ⟨i0, hi, hz0, hz1, hz2⟩ := info_parts str_info'
  go_enter Try.func119, Try.ntmps119
  go_wp2
  go_loopw [3, 4, 5] (fun x f i wr => ∃ (k m : Nat) (ws : List ByteArray), i = .int .i64 (k : Int) ∧ f = .int .i64 (m : Int) ∧ k ≤ s.size + 1 ∧ m ≤ k ∧ ws.length ≤ k ∧ wst s k = (m, ws) ∧ OwnStrs wr w.heap.size x ws ∧ Below w.heap.size w wr)
    (fun _ _ i _ => s.size + 1 - (intOf i).toNat)
  case atStart => exact ⟨0, 0, [], by go_num, by go_num, by omega, by omega, by simp, rfl, World.ownsRow_nil _ _ _ _, Below.refl _ _⟩
  case round =>
    obtain ⟨k, m, ws, rfl, rfl, hk, hmk, hwl, hst, hown, hbel⟩ := hrel
    have HST := Lib.hid hst
    clear hst
    have HOWN := Lib.hid hown
    have HBEL := Lib.hid hbel
    clear hown hbel
    by_cases hle : k ≤ s.size
    · by_cases hlt : k < s.size
      · go_wp2_with fail
        refine (space_any _ _).mono ?_
        rintro e w2 ⟨b, hbs, rfl, rfl⟩
        have HBS := Lib.hid hbs
        clear hbs
        cases b
        · go_wp2
          go_roundw
          case rel => exact ⟨k + 1, m, ws, by go_num, rfl, by omega, by omega, by omega, wst_word HST.out hlt HBS.out.symm, HOWN.out, HBEL.out⟩
          case measure => simp [intOf]; omega
        · skip
          by_cases hfm : m < k
          · have hfI : (m : Int) < (k : Int) := by omega
            have gf : decide ((m : Int) < (k : Int)) = true := decide_eq_true hfI
            have hown' : wr.ownsRow w.heap.size 9 1 u3 ws.length (ws.map .string) := HOWN.out
            go_wp2_with (at_builtin; refine wpList_append_own _ rfl _ _ 40 rfl w.heap.size 9 i0 (.string ByteArray.empty) 1 16 Try.underlying40 hi hz0 hz1 hz2 rfl (by decide) _ _ _ rfl (hown'.alloc _) ⟨wr.heap.size, 0, none⟩ 1 1 [.string (s.extract m k)] rfl rfl ?c1A ?c2A ?c3A ?c4A ?c5A ?_)
            case c1A =>
              intro j u hj
              match j, hj with
              | 0, hj => simp at hj; subst hj; simp [Addr.add]
            case c2A => first | rfl | (intro u hu; simp at hu; subst hu; rfl)
            case c3A => unfold maxLen; omega
            case c4A => omega
            case c5A => have := HBEL.out.size; simp; omega
            intro v' w3 hown3 hgrow _
            have hbel3 : Below w.heap.size w w3 := (HBEL.out.alloc HBEL.out.size _).grown hgrow (by have := HBEL.out.size; simp; omega) (fun q hq => (World.ownsRow.lt hown' q hq).1)
            have hsn : OwnStrs w3 w.heap.size v' (ws ++ [s.extract m k]) := by unfold OwnStrs; simpa using hown3
            have H3 := Lib.hid (And.intro hsn hbel3)
            clear hown3 hgrow hbel3 hsn hown'
            go_wp2
            go_roundw
            case rel => exact ⟨k + 1, k + 1, ws ++ [s.extract m k], by go_num, by go_num, by omega, by omega, by simp; omega, by rw [wst_cut HST.out hlt HBS.out.symm, if_pos hfm], H3.out.1, H3.out.2⟩
            case measure => simp [intOf]; omega
          · have gf : decide ((m : Int) < (k : Int)) = false := by simp; omega
            go_wp2
            go_roundw
            case rel => exact ⟨k + 1, k + 1, ws, by go_num, by go_num, by omega, by omega, by omega, by rw [wst_cut HST.out hlt HBS.out.symm, if_neg hfm], HOWN.out, HBEL.out⟩
            case measure => simp [intOf]; omega
      · obtain rfl : k = s.size := by omega
        clear hlt
        by_cases hfm : m < s.size
        · have hfI : (m : Int) < (s.size : Int) := by omega
          have gf : decide ((m : Int) < (s.size : Int)) = true := decide_eq_true hfI
          have hown' : wr.ownsRow w.heap.size 9 1 u3 ws.length (ws.map .string) := HOWN.out
          go_wp2_with (at_builtin; refine wpList_append_own _ rfl _ _ 40 rfl w.heap.size 9 i0 (.string ByteArray.empty) 1 16 Try.underlying40 hi hz0 hz1 hz2 rfl (by decide) _ _ _ rfl (hown'.alloc _) ⟨wr.heap.size, 0, none⟩ 1 1 [.string (s.extract m s.size)] rfl rfl ?c1B ?c2B ?c3B ?c4B ?c5B ?_)
          case c1B =>
            intro j u hj
            match j, hj with
            | 0, hj => simp at hj; subst hj; simp [Addr.add]
          case c2B => first | rfl | (intro u hu; simp at hu; subst hu; rfl)
          case c3B => unfold maxLen; omega
          case c4B => omega
          case c5B => have := HBEL.out.size; simp; omega
          intro v' w3 hown3 hgrow _
          have hbel3 : Below w.heap.size w w3 := (HBEL.out.alloc HBEL.out.size _).grown hgrow (by have := HBEL.out.size; simp; omega) (fun q hq => (World.ownsRow.lt hown' q hq).1)
          have hsn : OwnStrs w3 w.heap.size v' (ws ++ [s.extract m s.size]) := by unfold OwnStrs; simpa using hown3
          have H3 := Lib.hid (And.intro hsn hbel3)
          clear hown3 hgrow hbel3 hsn hown'
          go_wp2
          go_roundw
          case rel => exact ⟨s.size + 1, s.size + 1, ws ++ [s.extract m s.size], by go_num, by go_num, by omega, by omega, by simp; omega, by rw [wst_end HST.out, if_pos hfm], H3.out.1, H3.out.2⟩
          case measure => simp [intOf] <;> omega
        · have gf : decide ((m : Int) < (s.size : Int)) = false := by simp; omega
          go_wp2
          go_roundw
          case rel => exact ⟨s.size + 1, s.size + 1, ws, by go_num, by go_num, by omega, by omega, by omega, by rw [wst_end HST.out, if_neg hfm], HOWN.out, HBEL.out⟩
          case measure => simp [intOf] <;> omega
    · obtain rfl : k = s.size + 1 := by omega
      have hw : ws = wordsF s := by unfold wordsF; rw [HST.out]
      have HO : Hid (OwnStrs wr w.heap.size u3 (wordsF s)) := by rw [← hw]; exact HOWN
      clear hw
      go_wp2
      go_ret
      exact ⟨_, rfl, HO, HBEL⟩

end Go.Proofs.Ytobnglgnoflbnaa
