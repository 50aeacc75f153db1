/- spec.Words, of a long text. (Printed by gen_u.py.) -/
import Derived.Test.YtkdomegcacgpnaaGreatAttrsAll
namespace Go.Proofs.YtkdomegcacgpnaaGreat
open Go.RowKit
set_option linter.unusedVariables false
set_option linter.unusedSimpArgs false

set_option maxRecDepth 100000 in
set_option maxHeartbeats 8000000 in
theorem words_long (s : ByteArray) (w : World) (hs : s.size ≤ 8000000000000) : Calls Tryz.prog 52 #[.string s] w (WordsPost s w) := by
  obtain ⟨i0, hi, hz0, hz1, hz2⟩ := info_parts str_info'
  go_enter Tryz.func52, Tryz.ntmps52
  go_wp2
  go_loopw [3, 4, 5] (fun x f i wr => ∃ (k m : Nat) (ws : List ByteArray), i = .int .i64 (k : Int) ∧ f = .int .i64 (m : Int) ∧ k ≤ s.size + 1 ∧ m ≤ k ∧ ws.length ≤ k ∧ wst s k = (m, ws) ∧ OwnStrs wr w.heap.size x ws ∧ Below w.heap.size w wr)
    (fun _ _ i _ => s.size + 1 - (intOf i).toNat)
  case atStart => exact ⟨0, 0, [], by go_num, by go_num, by omega, by omega, by simp, rfl, World.ownsRow_nil _ _ _ _, Below.refl _ _⟩
  case round =>
    obtain ⟨k, m, ws, rfl, rfl, hk, hmk, hwl, hst, hown, hbel⟩ := hrel
    have HST := Lib.hid hst
    clear hst
    have HOWN := Lib.hid hown
    have HBEL := Lib.hid hbel
    clear hown hbel
    by_cases hle : k ≤ s.size
    · by_cases hlt : k < s.size
      · cases hsp : isSp (s[k].toNat : Int)
        · obtain ⟨h1, h2, h3, h4, h5⟩ := isSp_no hsp
          have e1 := bne_of h1
          have e2 := bne_of h2
          have e3 := bne_of h3
          have e4 := bne_of h4
          have e5 := bne_of h5
          simp only [Bool.not_false] at e1 e2 e3 e4 e5
          clear h1 h2 h3 h4 h5
          have HSP := Lib.hid hsp
          clear hsp
          go_wp2
          go_roundw
          case rel => exact ⟨k + 1, m, ws, by go_num, rfl, by omega, by omega, by omega, wst_word HST.out hlt HSP.out, HOWN.out, HBEL.out⟩
          case measure => simp [intOf]; omega
        · have HSP := Lib.hid hsp
          by_cases hfm : m < k
          · have hfI : (m : Int) < (k : Int) := by omega
            have gf : decide ((m : Int) < (k : Int)) = true := decide_eq_true hfI
            have hown' : wr.ownsRow w.heap.size 9 1 u3 ws.length (ws.map .string) := HOWN.out
            rcases isSp_tested hsp with ⟨e1, e2, e3, e4, e5⟩ | ⟨e1, e2, e3, e4, e5⟩ | ⟨e1, e2, e3, e4, e5⟩ | ⟨e1, e2, e3, e4, e5⟩ | ⟨e1, e2, e3, e4, e5⟩
            all_goals
              clear hsp
              go_wp2_with (at_builtin; refine wpList_append_own _ rfl _ _ 24 rfl w.heap.size 9 i0 (.string ByteArray.empty) 1 16 Tryz.underlying24 hi hz0 hz1 hz2 rfl (by decide) _ _ _ rfl (hown'.alloc _) ⟨wr.heap.size, 0, none⟩ 1 1 [.string (s.extract m k)] rfl rfl ?c1A ?c2A ?c3A ?c4A ?c5A ?_)
              case c1A =>
                intro j u hj
                match j, hj with
                | 0, hj => simp at hj; subst hj; simp [Addr.add]
              case c2A => first | rfl | (intro u hu; simp at hu; subst hu; rfl)
              case c3A => unfold maxLen; omega
              case c4A => omega
              case c5A => have := HBEL.out.size; simp; omega
              intro v' w3 hown3 hgrow _
              have hbel3 : Below w.heap.size w w3 := (HBEL.out.alloc HBEL.out.size _).grown hgrow (by have := HBEL.out.size; simp; omega) (fun q hq => (World.ownsRow.lt hown' q hq).1)
              have hsn : OwnStrs w3 w.heap.size v' (ws ++ [s.extract m k]) := by unfold OwnStrs; simpa using hown3
              have H3 := Lib.hid (And.intro hsn hbel3)
              clear hown3 hgrow hbel3 hsn hown'
              go_wp2
              go_roundw
              case rel => exact ⟨k + 1, k + 1, ws ++ [s.extract m k], by go_num, by go_num, by omega, by omega, by simp; omega, by rw [wst_cut HST.out hlt HSP.out, if_pos hfm], H3.out.1, H3.out.2⟩
              case measure => simp [intOf]; omega
          · have gf : decide ((m : Int) < (k : Int)) = false := by simp; omega
            rcases isSp_tested hsp with ⟨e1, e2, e3, e4, e5⟩ | ⟨e1, e2, e3, e4, e5⟩ | ⟨e1, e2, e3, e4, e5⟩ | ⟨e1, e2, e3, e4, e5⟩ | ⟨e1, e2, e3, e4, e5⟩
            all_goals
              clear hsp
              go_wp2
              go_roundw
              case rel => exact ⟨k + 1, k + 1, ws, by go_num, by go_num, by omega, by omega, by omega, by rw [wst_cut HST.out hlt HSP.out, if_neg hfm], HOWN.out, HBEL.out⟩
              case measure => simp [intOf]; omega
      · obtain rfl : k = s.size := by omega
        clear hlt
        by_cases hfm : m < s.size
        · have hfI : (m : Int) < (s.size : Int) := by omega
          have gf : decide ((m : Int) < (s.size : Int)) = true := decide_eq_true hfI
          have hown' : wr.ownsRow w.heap.size 9 1 u3 ws.length (ws.map .string) := HOWN.out
          go_wp2_with (at_builtin; refine wpList_append_own _ rfl _ _ 24 rfl w.heap.size 9 i0 (.string ByteArray.empty) 1 16 Tryz.underlying24 hi hz0 hz1 hz2 rfl (by decide) _ _ _ rfl (hown'.alloc _) ⟨wr.heap.size, 0, none⟩ 1 1 [.string (s.extract m s.size)] rfl rfl ?c1B ?c2B ?c3B ?c4B ?c5B ?_)
          case c1B =>
            intro j u hj
            match j, hj with
            | 0, hj => simp at hj; subst hj; simp [Addr.add]
          case c2B => first | rfl | (intro u hu; simp at hu; subst hu; rfl)
          case c3B => unfold maxLen; omega
          case c4B => omega
          case c5B => have := HBEL.out.size; simp; omega
          intro v' w3 hown3 hgrow _
          have hbel3 : Below w.heap.size w w3 := (HBEL.out.alloc HBEL.out.size _).grown hgrow (by have := HBEL.out.size; simp; omega) (fun q hq => (World.ownsRow.lt hown' q hq).1)
          have hsn : OwnStrs w3 w.heap.size v' (ws ++ [s.extract m s.size]) := by unfold OwnStrs; simpa using hown3
          have H3 := Lib.hid (And.intro hsn hbel3)
          clear hown3 hgrow hbel3 hsn hown'
          go_wp2
          go_roundw
          case rel => exact ⟨s.size + 1, s.size + 1, ws ++ [s.extract m s.size], by go_num, by go_num, by omega, by omega, by simp; omega, by rw [wst_end HST.out, if_pos hfm], H3.out.1, H3.out.2⟩
          case measure => simp [intOf] <;> omega
        · have gf : decide ((m : Int) < (s.size : Int)) = false := by simp; omega
          go_wp2
          go_roundw
          case rel => exact ⟨s.size + 1, s.size + 1, ws, by go_num, by go_num, by omega, by omega, by omega, by rw [wst_end HST.out, if_neg hfm], HOWN.out, HBEL.out⟩
          case measure => simp [intOf] <;> omega
    · obtain rfl : k = s.size + 1 := by omega
      have hw : ws = wordsF s := by unfold wordsF; rw [HST.out]
      have HO : Hid (OwnStrs wr w.heap.size u3 (wordsF s)) := by rw [← hw]; exact HOWN
      clear hw
      go_wp2
      go_ret
      exact ⟨_, rfl, HO, HBEL⟩

end Go.Proofs.YtkdomegcacgpnaaGreat
