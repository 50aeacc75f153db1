/- goquery.zzFields, of ASCII without vertical tabs. -/
import Derived.Test.YtoleejaabiafcaaWl
import Derived.Test.YtoleejaabiafcaaTrimAll
import Derived.Test.YtoleejaabiafcaaSegAll
namespace Go.Proofs.Ytoleejaabiafcaa
open Go.RowKit
set_option linter.unusedVariables false
set_option linter.unusedSimpArgs false

def FieldsPost (s : ByteArray) (w : World) (e : Ending) (w' : World) : Prop := ∃ v ws, e = .returned v ∧ Hid (OwnStrs w' w.heap.size v ws) ∧ Hid (ws.map (·.data.toList) = wl s.data.toList) ∧ Hid (Below w.heap.size w w')

/-- Where the word under way begins. -/
def fromI : Option Nat → Int
  | none => -1
  | some f => (f : Int)

/-- The words so far. -/
structure FldAt (s : ByteArray) (pos : Nat) (o : Option Nat) (ws : List ByteArray) : Prop where
  len : ws.length ≤ pos
  lt : ∀ f, o = some f → f < pos
  eq : wl s.data.toList = ws.map (·.data.toList) ++ wgo (match o with | none => [] | some f => (s.data.toList.drop f).take (pos - f)) (s.data.toList.drop pos)

theorem FldAt.start (s : ByteArray) : FldAt s 0 none [] := ⟨by simp, (fun f h => by cases h), by simp [wl]⟩

theorem drop_step {s : ByteArray} {pos : Nat} (hp : pos < s.size) : s.data.toList.drop pos = s[pos] :: s.data.toList.drop (pos + 1) := by
  have hkl : pos < s.data.toList.length := by rw [← size_list]; exact hp
  rw [List.drop_eq_getElem_cons hkl]
  rfl

theorem FldAt.word {s : ByteArray} {pos : Nat} {ws : List ByteArray} (h : FldAt s pos none ws) (hp : pos < s.size) (hb : spaceB s[pos] = false) : FldAt s (pos + 1) (some pos) ws := by
  refine ⟨Nat.le_trans h.len (by omega), (fun f hf => by cases hf; omega), ?_⟩
  have := h.eq
  rw [drop_step hp] at this
  simp only [wgo, hb, Bool.false_eq_true, if_false] at this
  rw [this]
  simp only
  rw [drop_step hp, show pos + 1 - pos = 1 by omega]
  rfl

theorem FldAt.more {s : ByteArray} {pos f : Nat} {ws : List ByteArray} (h : FldAt s pos (some f) ws) (hp : pos < s.size) (hb : spaceB s[pos] = false) : FldAt s (pos + 1) (some f) ws := by
  have hlt := h.lt f rfl
  refine ⟨Nat.le_trans h.len (by omega), (fun g hf => by cases hf; omega), ?_⟩
  have := h.eq
  rw [drop_step hp] at this
  simp only [wgo, hb, Bool.false_eq_true, if_false] at this
  rw [this]
  simp only
  congr 2
  have hkl : pos < s.data.toList.length := by rw [← size_list]; exact hp
  rw [show pos + 1 - f = (pos - f) + 1 by omega, List.take_add_one]
  congr 1
  rw [List.getElem?_drop, show f + (pos - f) = pos by omega, List.getElem?_eq_getElem hkl]
  rfl

theorem FldAt.skip_ {s : ByteArray} {pos : Nat} {ws : List ByteArray} (h : FldAt s pos none ws) (hp : pos < s.size) (hb : spaceB s[pos] = true) : FldAt s (pos + 1) none ws := by
  refine ⟨Nat.le_trans h.len (by omega), (fun f hf => by cases hf), ?_⟩
  have := h.eq
  rw [drop_step hp] at this
  simp only [wgo, hb, if_true] at this
  exact this

theorem cut_ne {s : ByteArray} {f pos : Nat} (h1 : f < pos) (h2 : pos ≤ s.size) : (s.data.toList.drop f).take (pos - f) ≠ [] := fun e => by
  have := congrArg List.length e
  rw [List.length_take, List.length_drop, ← size_list] at this
  simp at this
  omega

theorem FldAt.cut {s : ByteArray} {pos f : Nat} {ws : List ByteArray} (h : FldAt s pos (some f) ws) (hp : pos < s.size) (hb : spaceB s[pos] = true) : FldAt s (pos + 1) none (ws ++ [s.extract f pos]) := by
  have hlt := h.lt f rfl
  refine ⟨(by have := h.len; simp; omega), (fun f hf => by cases hf), ?_⟩
  have := h.eq
  rw [drop_step hp] at this
  simp only [wgo, hb, if_true, if_neg (cut_ne hlt (Nat.le_of_lt hp))] at this
  rw [this, List.map_append, List.map_singleton, extract_list]
  simp

def fldEnd (s : ByteArray) (ws : List ByteArray) : Option Nat → List ByteArray
  | Option.none => ws
  | some f => ws ++ [s.extract f s.size]

theorem FldAt.fin {s : ByteArray} {o : Option Nat} {ws : List ByteArray} (h : FldAt s s.size o ws) : wl s.data.toList = (fldEnd s ws o).map (·.data.toList) := by
  have hd : s.data.toList.drop s.size = [] := List.drop_eq_nil_of_le (by rw [← size_list]; exact Nat.le_refl _)
  have := h.eq
  rw [hd] at this
  cases o with
  | none => simpa [wgo, fldEnd] using this
  | some f =>
    have hlt := h.lt f rfl
    simp only [wgo, if_neg (cut_ne hlt (Nat.le_refl _))] at this
    rw [this]
    simp only [fldEnd]
    rw [List.map_append, List.map_singleton, extract_list]

set_option maxRecDepth 100000 in
set_option maxHeartbeats 4000000 in
theorem fields_any (s : ByteArray) (w : World) (hs : s.size ≤ 100000) (ha : ∀ i (h : i < s.size), (s[i]'h).toNat < 128 ∧ (s[i]'h).toNat ≠ 11) :
    Calls Try.prog 125 #[.string s] w (FieldsPost s w) := by
  obtain ⟨i0, hi, hz0, hz1, hz2⟩ := info_parts str_info'
  have hk0 : (w.iter s 0).heap[w.heap.size]? = some (.stringIter s 0) := World.iter_heap w s 0
  have hb0 : Below w.heap.size w (w.iter s 0) := (Below.refl _ w).alloc (Nat.le_refl _) _
  have HA := Lib.hid ha
  clear ha
  go_enter Try.func125, Try.ntmps125
  go_wp2
  go_loopw [3, 4] (fun ov fv wr => ∃ (pos : Nat) (o : Option Nat) (ws : List ByteArray) (z : Int), pos ≤ s.size ∧ fv = .int .i64 z ∧ Hid (z = fromI o) ∧ Hid (FldAt s pos o ws) ∧ Hid (OwnStrs wr (w.heap.size + 1) ov ws) ∧ wr.heap[w.heap.size]? = some (.stringIter s pos) ∧ Below w.heap.size w wr)
    (fun _ _ wr => s.size - wr.iterPos w.heap.size)
  case atStart => exact ⟨0, none, [], -1, by omega, rfl, Lib.hid rfl, Lib.hid (FldAt.start s), Lib.hid (World.ownsRow_nil _ _ _ _), hk0, hb0⟩
  case round =>
    obtain ⟨pos, o, ws, z, hps, rfl, HZ, HF, HO, hk, hbel⟩ := hrel
    clear hk0 hb0
    have hmu : wr.iterPos w.heap.size = pos := by simp [World.iterPos, hk]
    have hwl := HF.out.len
    by_cases hp : pos < s.size
    · have h128 := (HA.out pos hp).1
      have hnext : ∀ ty, (Instr.next (.pointer (some ⟨w.heap.size, 0, none⟩)) true ty).run Try.prog wr = _ := fun ty => Lib.run_next_ascii_at wr w.heap.size s pos ty hk hp h128
      have hk1 := Lib.iterAt_heap wr w.heap.size s pos (pos + 1) hk
      have hb1 : Below w.heap.size w (wr.iterAt w.heap.size s (pos + 1)) := Lib.below_iterAt hbel (by omega) s (pos + 1)
      have hown1 : (wr.iterAt w.heap.size s (pos + 1)).ownsRow (w.heap.size + 1) 9 1 u3 ws.length (ws.map .string) := ownsRow_kept HO.out (fun q hq => Lib.iterAt_other wr w.heap.size q s (pos + 1) (by have := (World.ownsRow.lt HO.out q hq).1; omega))
      generalize wr.iterAt w.heap.size s (pos + 1) = W1 at hnext hk1 hb1 hown1
      have hsp := isSpace_any (s[pos].toNat : Int) W1 (by omega) (by omega) (by have := (HA.out pos hp).2; omega)
      rw [show spaceI (s[pos].toNat : Int) = spaceB s[pos] from rfl] at hsp
      have hmu2 : W1.iterPos w.heap.size = pos + 1 := by simp [World.iterPos, hk1]
      have hW1 : w.heap.size + 1 ≤ W1.heap.size := by have := (Array.getElem?_eq_some_iff.1 hk1).1; omega
      have HSP := Lib.hid hsp
      have HK := Lib.hid (And.intro hk1 hb1)
      have HO1 : Hid (OwnStrs W1 (w.heap.size + 1) u3 ws) := Lib.hid hown1
      have HMU := Lib.hid (And.intro hmu hmu2)
      cases hb : spaceB s[pos]
      · rw [hb] at HSP
        cases o with
        | none =>
          have HF2 := Lib.hid (HF.out.word hp hb)
          obtain rfl : z = -1 := HZ.out
          clear hk1 hb1 hsp hmu hmu2 hb hk hbel h128 hown1 HO HF HZ
          go_wp2_with fail
          refine HSP.out.mono ?_
          rintro e w2 ⟨rfl, rfl⟩
          go_wp2
          refine ⟨?rel, ?measure⟩
          case rel => exact ⟨pos + 1, some pos, ws, (pos : Int), by omega, rfl, Lib.hid rfl, HF2, HO1, HK.out.1, HK.out.2⟩
          case measure => rw [HMU.out.1, HMU.out.2]; omega
        | some f =>
          have HF2 := Lib.hid (HF.out.more hp hb)
          obtain rfl : z = (f : Int) := HZ.out
          have g : decide ((f : Int) < 0) = false := by simp
          clear hk1 hb1 hsp hmu hmu2 hb hk hbel h128 hown1 HO HF HZ
          go_wp2_with fail
          refine HSP.out.mono ?_
          rintro e w2 ⟨rfl, rfl⟩
          go_wp2
          refine ⟨?rel, ?measure⟩
          case rel => exact ⟨pos + 1, some f, ws, (f : Int), by omega, rfl, Lib.hid rfl, HF2, HO1, HK.out.1, HK.out.2⟩
          case measure => rw [HMU.out.1, HMU.out.2]; omega
      · rw [hb] at HSP
        cases o with
        | none =>
          have HF2 := Lib.hid (HF.out.skip_ hp hb)
          obtain rfl : z = -1 := HZ.out
          clear hk1 hb1 hsp hmu hmu2 hb hk hbel h128 hown1 HO HF HZ
          go_wp2_with fail
          refine HSP.out.mono ?_
          rintro e w2 ⟨rfl, rfl⟩
          go_wp2
          refine ⟨?rel, ?measure⟩
          case rel => exact ⟨pos + 1, none, ws, -1, by omega, rfl, Lib.hid rfl, HF2, HO1, HK.out.1, HK.out.2⟩
          case measure => rw [HMU.out.1, HMU.out.2]; omega
        | some f =>
          have HF2 := Lib.hid (HF.out.cut hp hb)
          have hfp := HF.out.lt f rfl
          obtain rfl : z = (f : Int) := HZ.out
          have g : decide ((0 : Int) ≤ (f : Int)) = true := by simp
          have hfI : (f : Int) ≤ (pos : Int) := by omega
          have hpI : (pos : Int) ≤ (s.size : Int) := by omega
          clear hk1 hb1 hsp hmu hmu2 hb hk hbel h128 HO HF HZ
          go_wp2_with fail
          refine HSP.out.mono ?_
          rintro e w2 ⟨rfl, rfl⟩
          go_wp2_with (at_builtin; refine wpList_append_own _ rfl _ _ 25 rfl (w.heap.size + 1) 9 i0 (.string ByteArray.empty) 1 16 Try.underlying25 hi hz0 hz1 hz2 rfl (by decide) _ _ _ rfl (hown1.alloc _) ⟨W1.heap.size, 0, none⟩ 1 1 [.string (s.extract f pos)] rfl rfl ?c1A ?c2A ?c3A ?c4A ?c5A ?_)
          case c1A =>
            intro j u hj
            match j, hj with
            | 0, hj => simp at hj; subst hj; simp [Addr.add]
          case c2A => first | rfl | (intro u hu; simp at hu; subst hu; rfl)
          case c3A => unfold maxLen; omega
          case c4A => omega
          case c5A => simp; omega
          intro v2 w3 hown3 hgrow _
          have hbl : Below (w.heap.size + 1) W1 w3 := ((Below.refl _ _).alloc hW1 _).grown hgrow (by simp; omega) (fun q hq => (World.ownsRow.lt hown1 q hq).1)
          have hit := (hbl.block w.heap.size (by omega)).trans HK.out.1
          have hsn : OwnStrs w3 (w.heap.size + 1) v2 (ws ++ [s.extract f pos]) := by unfold OwnStrs; simpa using hown3
          have hit2 : w3.iterPos w.heap.size = pos + 1 := by simp [World.iterPos, hit]
          have H3 := Lib.hid (And.intro hit (And.intro (HK.out.2.trans (hbl.mono (by omega))) hit2))
          have HS3 := Lib.hid hsn
          clear hown3 hgrow hbl hit hsn hown1 hit2
          go_wp2
          refine ⟨?rel, ?measure⟩
          case rel => exact ⟨pos + 1, none, _, -1, by omega, rfl, Lib.hid rfl, HF2, HS3, H3.out.1, H3.out.2.1⟩
          case measure => rw [HMU.out.1, H3.out.2.2]; omega
    · have hnext : ∀ ty, (Instr.next (.pointer (some ⟨w.heap.size, 0, none⟩)) true ty).run Try.prog wr = _ := fun ty => Lib.run_next_end_at wr w.heap.size s pos ty hk hp
      obtain rfl : pos = s.size := by omega
      have HB := Lib.hid hbel
      have hwr : w.heap.size + 1 ≤ wr.heap.size := by have := (Array.getElem?_eq_some_iff.1 hk).1; omega
      clear hbel hmu hk hp
      cases o with
      | none =>
        have HE := Lib.hid HF.out.fin
        obtain rfl : z = -1 := HZ.out
        clear HF HZ
        go_wp2
        go_ret
        exact ⟨_, ws, rfl, Lib.hid (ownsRow_base HO.out (by omega)), Lib.hid HE.out.symm, HB⟩
      | some f =>
        have HE := Lib.hid HF.out.fin
        have hfp := HF.out.lt f rfl
        obtain rfl : z = (f : Int) := HZ.out
        have g : decide ((0 : Int) ≤ (f : Int)) = true := by simp
        have hfI : (f : Int) ≤ (s.size : Int) := by omega
        have hown : wr.ownsRow (w.heap.size + 1) 9 1 u3 ws.length (ws.map .string) := HO.out
        clear HF HZ HO
        go_wp2_with (at_builtin; refine wpList_append_own _ rfl _ _ 25 rfl (w.heap.size + 1) 9 i0 (.string ByteArray.empty) 1 16 Try.underlying25 hi hz0 hz1 hz2 rfl (by decide) _ _ _ rfl (hown.alloc _) ⟨wr.heap.size, 0, none⟩ 1 1 [.string (s.extract f s.size)] rfl rfl ?c1B ?c2B ?c3B ?c4B ?c5B ?_)
        case c1B =>
          intro j u hj
          match j, hj with
          | 0, hj => simp at hj; subst hj; simp [Addr.add]
        case c2B => first | rfl | (intro u hu; simp at hu; subst hu; rfl)
        case c3B => unfold maxLen; omega
        case c4B => omega
        case c5B => simp; omega
        intro v2 w3 hown3 hgrow _
        have hbl : Below w.heap.size w w3 := (HB.out.alloc (by omega) _).grown hgrow (by simp; omega) (fun q hq => by have := (World.ownsRow.lt hown q hq).1; omega)
        have hsn : OwnStrs w3 (w.heap.size + 1) v2 (ws ++ [s.extract f s.size]) := by unfold OwnStrs; simpa using hown3
        have HS3 : Hid (OwnStrs w3 w.heap.size v2 (ws ++ [s.extract f s.size])) := Lib.hid (ownsRow_base hsn (by omega))
        have HB3 := Lib.hid hbl
        clear hown3 hgrow hbl hsn hown
        go_wp2
        go_ret
        exact ⟨_, _, rfl, HS3, Lib.hid HE.out.symm, HB3⟩

end Go.Proofs.Ytoleejaabiafcaa
