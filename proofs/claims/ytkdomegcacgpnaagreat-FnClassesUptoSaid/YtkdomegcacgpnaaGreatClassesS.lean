/- spec.classes: the words of a class behind a step. -/
import Derived.Test.YtkdomegcacgpnaaGreatClsDom
namespace Go.Proofs.YtkdomegcacgpnaaGreat
open Go.RowKit
set_option linter.unusedVariables false
set_option linter.unusedSimpArgs false

theorem inW_iff (ws : List ByteArray) (x : ByteArray) : ∀ n, n ≤ ws.length → (inW ws x n = true ↔ x.data.toList ∈ (ws.take n).map (·.data.toList))
  | 0, _ => by simp [inW]
  | n + 1, h => by
    have ih := inW_iff ws x n (by omega)
    rw [List.map_take, take_name (by omega), ← List.map_take]
    simp only [inW, Bool.or_eq_true, ih, List.mem_append, List.mem_singleton, beq_iff_eq, ByteArray.toList_eq]
    exact ⟨fun h => h.imp id (fun e => e.symm), fun h => h.imp id (fun e => e.symm)⟩

theorem inW_all (ws : List ByteArray) (x : ByteArray) : inW ws x ws.length = decide (x.data.toList ∈ ws.map (·.data.toList)) := by
  have h := inW_iff ws x ws.length (Nat.le_refl _)
  rw [List.take_length] at h
  by_cases e : x.data.toList ∈ ws.map (·.data.toList)
  · rw [h.2 e, decide_eq_true e]
  · rw [decide_eq_false e]
    cases hq : inW ws x ws.length
    · rfl
    · exact absurd (h.1 hq) e

/-- What is kept of the words that were there. -/
def keep1 (o : Int) (xs : List ByteArray) (x : ByteArray) : Bool := (o == 14) || !inW xs x xs.length
/-- What is new of the names. -/
def keep2 (o : Int) (ws : List ByteArray) (x : ByteArray) : Bool := (o != 15) && !inW ws x ws.length

def flatS (l : List ByteArray) : List UInt8 := l.flatMap fun x => 32 :: x.data.toList

theorem flat_snoc (l : List ByteArray) (x : ByteArray) : flatS (l ++ [x]) = flatS l ++ 32 :: x.data.toList := by simp [flatS]

theorem kept_step (p : ByteArray → Bool) {ws : List ByteArray} {k : Nat} (hk : k < ws.length) : (ws.take (k + 1)).filter p = if p (ws.getD k ByteArray.empty) then (ws.take k).filter p ++ [ws.getD k ByteArray.empty] else (ws.take k).filter p := by
  have e : ws.take (k + 1) = ws.take k ++ [ws.getD k ByteArray.empty] := by
    rw [List.take_add_one, List.getD_eq_getElem?_getD, List.getElem?_eq_getElem hk]
    rfl
  rw [e, List.filter_append]
  generalize ws.getD k ByteArray.empty = y
  cases hq : p y <;> simp [hq]

/-- The words of a class behind a step, as the reference has them. -/
def classesF (o : Int) (had : ByteArray) (xs : List ByteArray) : List ByteArray := (wordsF had).filter (keep1 o xs) ++ xs.filter (keep2 o (wordsF had))

theorem wst_size (s : ByteArray) : ∀ k, ∀ x ∈ (wst s k).2, x.size ≤ s.size := by
  intro k
  induction k with
  | zero => intro x hx; simp [wst] at hx
  | succ k ih =>
    intro x hx
    simp only [wst] at hx
    split at hx
    · split at hx
      · split at hx
        · rcases List.mem_append.1 hx with h | h
          · exact ih x h
          · simp at h
            subst h
            simp
            omega
        · exact ih x hx
      · exact ih x hx
    · split at hx
      · rcases List.mem_append.1 hx with h | h
        · exact ih x h
        · simp at h
          subst h
          simp
          omega
      · exact ih x hx

def ClassesPost (o : Int) (had : ByteArray) (xs : List ByteArray) (w : World) (e : Ending) (w' : World) : Prop := ∃ r : ByteArray, e = .returned (.string r) ∧ Hid (r.data.toList = (flatS (classesF o had xs)).drop 1) ∧ r.size ≤ 1200000000000 ∧ Hid (Below w.heap.size w w')

set_option maxRecDepth 100000 in
set_option maxHeartbeats 2000000 in
theorem classes_any (o : Int) (had : ByteArray) (xs : List ByteArray) (a : Option Addr) (c : Nat) (w : World) (hs : had.size ≤ 10000) (h : StrCells w a xs.length xs) (hn : xs.length ≤ 1048576) (hz : ∀ x ∈ xs, x.size ≤ 1048576) :
    Calls Tryz.prog 115 #[.int .i64 o, .string had, .slice a xs.length c] w (ClassesPost o had xs w) := by
  have hwl := wordsF_len had
  have hwz : ∀ x ∈ wordsF had, x.size ≤ 10000 := fun x hx => Nat.le_trans (wst_size had _ x hx) hs
  have hX := h
  have HX := Lib.hid hX
  have HZ := Lib.hid hz
  have HWZ := Lib.hid hwz
  have HSZ := Lib.hid hs
  clear hX h hz hwz
  go_enter Tryz.func115, Tryz.ntmps115
  go_wp2_with fail
  refine (words_any had w HSZ.out).mono ?_
  rintro e w1 ⟨wv, rfl, hown, hb⟩
  obtain ⟨wa, wc, rfl, hcap, hcells⟩ := hown.out.open
  obtain ⟨ws, hws⟩ : ∃ ws, wordsF had = ws := ⟨_, rfl⟩
  rw [hws] at hwl hcells hcap
  have HWS := Lib.hid hws
  have HC := Lib.hid hcells
  have HX1 := Lib.hid (HX.out.below hb.out)
  have hwlen : ws.length ≤ 10001 := by have := HSZ.out; omega
  rw [hws] at HWZ
  rw [hws]
  clear hown hws hcells HX
  go_wp2
  go_loop [8, 9] (fun ov i => ∃ (k : Nat) (r : ByteArray), k ≤ ws.length ∧ ov = .string r ∧ i = .int .i64 (k : Int) ∧ Hid (r.data.toList = flatS ((ws.take k).filter (keep1 o xs))) ∧ r.size ≤ 10001 * k) (fun _ i => ws.length - (intOf i).toNat)
  case atStart => exact ⟨0, ⟨#[]⟩, by omega, rfl, by go_num, Lib.hid rfl, by decide⟩
  case round =>
    obtain ⟨k, r, hk, rfl, rfl, hr, hrz⟩ := hrel
    by_cases hlt : k < ws.length
    · obtain ⟨b, off, rfl, hc⟩ := HC.out.2 (by omega)
      have ck := hc k hlt
      have hstep := kept_step (keep1 o xs) hlt
      have hyz : (ws.getD k ByteArray.empty).size ≤ 10000 := HWZ.out _ (by rw [List.getD_eq_getElem?_getD, List.getElem?_eq_getElem hlt]; exact List.getElem_mem _)
      obtain ⟨y, hy⟩ : ∃ y, ws.getD k ByteArray.empty = y := ⟨_, rfl⟩
      rw [hy] at ck hstep hyz
      have hkI : (k : Int) < (ws.length : Int) := by omega
      have hkp : keep1 o xs y = ((o == 14) || !inW xs y xs.length) := rfl
      obtain ⟨b14, h14⟩ : ∃ b14, (o == 14) = b14 := ⟨_, rfl⟩
      obtain ⟨q, hq⟩ : ∃ q, inW xs y xs.length = q := ⟨_, rfl⟩
      rw [h14, hq] at hkp
      have HIW := Lib.hid (isWord_any a xs.length c xs y w1 HX1.out)
      have HQ := Lib.hid hq
      have hno : keep1 o xs y = false → r.data.toList = flatS ((ws.take (k + 1)).filter (keep1 o xs)) := fun e => by rw [hstep, e]; exact hr.out
      have hyes : keep1 o xs y = true → (r ++ ((ByteArray.mk #[32]) ++ y)).data.toList = flatS ((ws.take (k + 1)).filter (keep1 o xs)) := fun e => by
        rw [hstep, e, if_pos rfl, flat_snoc, cat_list, cat_list, hr.out]; rfl
      have z1 : ¬ 9223372036854775807 < (ByteArray.mk #[32]).size + y.size := by have : (ByteArray.mk #[32]).size = 1 := rfl; omega
      have z2 : ¬ 9223372036854775807 < r.size + ((ByteArray.mk #[32]) ++ y).size := by
        have : (ByteArray.mk #[32]).size = 1 := rfl
        rw [ByteArray.size_append]; omega
      have HSZ2 := Lib.hid (show (r ++ ((ByteArray.mk #[32]) ++ y)).size ≤ 10001 * (k + 1) by
        have : (ByteArray.mk #[32]).size = 1 := rfl
        rw [ByteArray.size_append, ByteArray.size_append]; omega)
      have HNO := Lib.hid hno
      have HYES := Lib.hid hyes
      have HKP := Lib.hid hkp
      clear hc hy hr hstep hq hno hyes hkp
      cases b14
      · go_wp2_with fail
        refine HIW.out.mono ?_
        rintro e w9 ⟨bb, hbb, rfl, rfl⟩
        rw [HQ.out] at hbb
        subst hbb
        cases bb
        · have HYY := Lib.hid (HYES.out (by rw [HKP.out]; rfl))
          clear HNO HYES HKP HQ HIW
          go_wp2
          go_round
          case rel => exact ⟨k + 1, _, by omega, rfl, by go_num, HYY, HSZ2.out⟩
          case measure => simp [intOf]; omega
        · have HYY := Lib.hid (HNO.out (by rw [HKP.out]; rfl))
          clear HNO HYES HKP HQ HIW z1 z2
          go_wp2
          go_round
          case rel => exact ⟨k + 1, _, by omega, rfl, by go_num, HYY, by omega⟩
          case measure => simp [intOf]; omega
      · have HYY := Lib.hid (HYES.out (by rw [HKP.out]; rfl))
        clear HNO HYES HKP HQ HIW
        go_wp2
        go_round
        case rel => exact ⟨k + 1, _, by omega, rfl, by go_num, HYY, HSZ2.out⟩
        case measure => simp [intOf]; omega
    · obtain rfl : k = ws.length := by omega
      rw [List.take_length] at hr
      have hr1 : r.size ≤ 110000000 := by omega
      clear hlt hrz
      go_wp2
      go_loop [8, 10] (fun ov i => ∃ (k : Nat) (r : ByteArray), k ≤ xs.length ∧ ov = .string r ∧ i = .int .i64 (k : Int) ∧ Hid (r.data.toList = flatS (ws.filter (keep1 o xs) ++ (xs.take k).filter (keep2 o ws))) ∧ r.size ≤ 110000000 + 1048577 * k) (fun _ i => xs.length - (intOf i).toNat)
      case atStart => exact ⟨0, r, by omega, rfl, by go_num, Lib.hid (by rw [hr.out]; simp), by omega⟩
      case round =>
        clear hr hr1 hk
        obtain ⟨k, r, hk, rfl, rfl, hr, hrz⟩ := hrel
        by_cases hlt : k < xs.length
        · obtain ⟨b, off, rfl, hc⟩ := HX1.out.2 (by omega)
          have ck := hc k hlt
          have hstep := kept_step (keep2 o ws) hlt
          have hyz : (xs.getD k ByteArray.empty).size ≤ 1048576 := HZ.out _ (by rw [List.getD_eq_getElem?_getD, List.getElem?_eq_getElem hlt]; exact List.getElem_mem _)
          obtain ⟨y, hy⟩ : ∃ y, xs.getD k ByteArray.empty = y := ⟨_, rfl⟩
          rw [hy] at ck hstep hyz
          have hkI : (k : Int) < (xs.length : Int) := by omega
          have hkp : keep2 o ws y = ((o != 15) && !inW ws y ws.length) := rfl
          obtain ⟨b15, h15⟩ : ∃ b15, (o != 15) = b15 := ⟨_, rfl⟩
          obtain ⟨q, hq⟩ : ∃ q, inW ws y ws.length = q := ⟨_, rfl⟩
          rw [h15, hq] at hkp
          have HIW := Lib.hid (isWord_any wa ws.length wc ws y w1 HC.out)
          have HQ := Lib.hid hq
          have hno : keep2 o ws y = false → r.data.toList = flatS (ws.filter (keep1 o xs) ++ (xs.take (k + 1)).filter (keep2 o ws)) := fun e => by rw [hstep, e]; exact hr.out
          have hyes : keep2 o ws y = true → (r ++ ((ByteArray.mk #[32]) ++ y)).data.toList = flatS (ws.filter (keep1 o xs) ++ (xs.take (k + 1)).filter (keep2 o ws)) := fun e => by
            rw [hstep, e, if_pos rfl, ← List.append_assoc, flat_snoc, cat_list, cat_list, hr.out]; rfl
          have z1 : ¬ 9223372036854775807 < (ByteArray.mk #[32]).size + y.size := by have : (ByteArray.mk #[32]).size = 1 := rfl; omega
          have z2 : ¬ 9223372036854775807 < r.size + ((ByteArray.mk #[32]) ++ y).size := by
            have : (ByteArray.mk #[32]).size = 1 := rfl
            rw [ByteArray.size_append]; omega
          have HSZ2 := Lib.hid (show (r ++ ((ByteArray.mk #[32]) ++ y)).size ≤ 110000000 + 1048577 * (k + 1) by
            have : (ByteArray.mk #[32]).size = 1 := rfl
            rw [ByteArray.size_append, ByteArray.size_append]; omega)
          have HNO := Lib.hid hno
          have HYES := Lib.hid hyes
          have HKP := Lib.hid hkp
          clear hc hy hr hstep hq hno hyes hkp
          cases b15
          · have HYY := Lib.hid (HNO.out (by rw [HKP.out]; rfl))
            clear HNO HYES HKP HQ HIW z1 z2
            go_wp2
            go_round
            case rel => exact ⟨k + 1, _, by omega, rfl, by go_num, HYY, by omega⟩
            case measure => simp [intOf]; omega
          · go_wp2_with fail
            refine HIW.out.mono ?_
            rintro e w9 ⟨bb, hbb, rfl, rfl⟩
            rw [HQ.out] at hbb
            subst hbb
            cases bb
            · have HYY := Lib.hid (HYES.out (by rw [HKP.out]; rfl))
              clear HNO HYES HKP HQ HIW
              go_wp2
              go_round
              case rel => exact ⟨k + 1, _, by omega, rfl, by go_num, HYY, HSZ2.out⟩
              case measure => simp [intOf]; omega
            · have HYY := Lib.hid (HNO.out (by rw [HKP.out]; rfl))
              clear HNO HYES HKP HQ HIW z1 z2
              go_wp2
              go_round
              case rel => exact ⟨k + 1, _, by omega, rfl, by go_num, HYY, by omega⟩
              case measure => simp [intOf]; omega
        · obtain rfl : k = xs.length := by omega
          rw [List.take_length] at hr
          have hfin := hr.out
          have hcf : classesF o had xs = ws.filter (keep1 o xs) ++ xs.filter (keep2 o ws) := by unfold classesF; rw [HWS.out]
          have HCF := Lib.hid hcf
          have hr1 : r.size ≤ 1200000000000 := by omega
          have hl : r.data.toList.length = r.size := by simp
          by_cases h0 : r.size = 0
          · have hnil : r = ⟨#[]⟩ := by
              cases r with
              | mk d =>
                have : d = #[] := Array.eq_empty_of_size_eq_zero h0
                rw [this]
            subst hnil
            have HFIN := Lib.hid hfin
            clear hfin hcf hl h0 hr hlt hrz
            go_wp2
            go_ret
            exact ⟨_, rfl, Lib.hid (by rw [HCF.out, ← HFIN.out]; rfl), by decide, hb⟩
          · have he : r.toList.isEmpty = false := by
              rw [ByteArray.toList_eq]
              cases hq : r.data.toList with
              | nil => rw [hq] at hl; simp at hl; omega
              | cons x l => rfl
            have h1 : (1 : Int) ≤ (r.size : Int) := by omega
            have HFIN := Lib.hid hfin
            clear hfin hcf hl h0 hr hlt hrz
            go_wp2
            go_ret
            exact ⟨_, rfl, Lib.hid (by rw [HCF.out, ← HFIN.out]; simp; exact List.take_of_length_le (by simp)), by simp; omega, hb⟩

end Go.Proofs.YtkdomegcacgpnaaGreat
