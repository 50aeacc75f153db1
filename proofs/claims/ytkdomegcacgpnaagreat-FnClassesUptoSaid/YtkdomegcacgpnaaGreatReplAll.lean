/- goquery.zzFields, of ASCII without vertical tabs. goquery.zzReplaceAll, of a text that stands in another at most once. -/
import Derived.Test.YtkdomegcacgpnaaGreatWl
import Derived.Test.YtkdomegcacgpnaaGreatTrimAll
import Derived.Test.YtkdomegcacgpnaaGreatSegAll
import Derived.Test.YtkdomegcacgpnaaGreatGoIndex
import Derived.Test.YtkdomegcacgpnaaGreatClassTrim
import Derived.Test.YtkdomegcacgpnaaGreatKnotAll
import Derived.Lib.AppendStr
import Derived.Lib.BufferRead
namespace Go.Proofs.YtkdomegcacgpnaaGreat
open Go.RowKit
set_option linter.unusedVariables false
set_option linter.unusedSimpArgs false

def FieldsPost (s : ByteArray) (w : World) (e : Ending) (w' : World) : Prop := ∃ v ws, e = .returned v ∧ Hid (OwnStrs w' w.heap.size v ws) ∧ Hid (ws.map (·.data.toList) = wl s.data.toList) ∧ Hid (Below w.heap.size w w')

/-- Where the word under way begins. -/
def fromI : Option Nat → Int
  | none => -1
  | some f => (f : Int)

/-- The words so far. -/
structure FldAt (s : ByteArray) (pos : Nat) (o : Option Nat) (ws : List ByteArray) : Prop where
  len : ws.length ≤ pos
  lt : ∀ f, o = some f → f < pos
  eq : wl s.data.toList = ws.map (·.data.toList) ++ wgo (match o with | none => [] | some f => (s.data.toList.drop f).take (pos - f)) (s.data.toList.drop pos)

theorem FldAt.start (s : ByteArray) : FldAt s 0 none [] := ⟨by simp, (fun f h => by cases h), by simp [wl]⟩

theorem drop_step {s : ByteArray} {pos : Nat} (hp : pos < s.size) : s.data.toList.drop pos = s[pos] :: s.data.toList.drop (pos + 1) := by
  have hkl : pos < s.data.toList.length := by rw [← size_list]; exact hp
  rw [List.drop_eq_getElem_cons hkl]
  rfl

theorem FldAt.word {s : ByteArray} {pos : Nat} {ws : List ByteArray} (h : FldAt s pos none ws) (hp : pos < s.size) (hb : spaceB s[pos] = false) : FldAt s (pos + 1) (some pos) ws := by
  refine ⟨Nat.le_trans h.len (by omega), (fun f hf => by cases hf; omega), ?_⟩
  have := h.eq
  rw [drop_step hp] at this
  simp only [wgo, hb, Bool.false_eq_true, if_false] at this
  rw [this]
  simp only
  rw [drop_step hp, show pos + 1 - pos = 1 by omega]
  rfl

theorem FldAt.more {s : ByteArray} {pos f : Nat} {ws : List ByteArray} (h : FldAt s pos (some f) ws) (hp : pos < s.size) (hb : spaceB s[pos] = false) : FldAt s (pos + 1) (some f) ws := by
  have hlt := h.lt f rfl
  refine ⟨Nat.le_trans h.len (by omega), (fun g hf => by cases hf; omega), ?_⟩
  have := h.eq
  rw [drop_step hp] at this
  simp only [wgo, hb, Bool.false_eq_true, if_false] at this
  rw [this]
  simp only
  congr 2
  have hkl : pos < s.data.toList.length := by rw [← size_list]; exact hp
  rw [show pos + 1 - f = (pos - f) + 1 by omega, List.take_add_one]
  congr 1
  rw [List.getElem?_drop, show f + (pos - f) = pos by omega, List.getElem?_eq_getElem hkl]
  rfl

theorem FldAt.skip_ {s : ByteArray} {pos : Nat} {ws : List ByteArray} (h : FldAt s pos none ws) (hp : pos < s.size) (hb : spaceB s[pos] = true) : FldAt s (pos + 1) none ws := by
  refine ⟨Nat.le_trans h.len (by omega), (fun f hf => by cases hf), ?_⟩
  have := h.eq
  rw [drop_step hp] at this
  simp only [wgo, hb, if_true] at this
  exact this

theorem cut_ne {s : ByteArray} {f pos : Nat} (h1 : f < pos) (h2 : pos ≤ s.size) : (s.data.toList.drop f).take (pos - f) ≠ [] := fun e => by
  have := congrArg List.length e
  rw [List.length_take, List.length_drop, ← size_list] at this
  simp at this
  omega

theorem FldAt.cut {s : ByteArray} {pos f : Nat} {ws : List ByteArray} (h : FldAt s pos (some f) ws) (hp : pos < s.size) (hb : spaceB s[pos] = true) : FldAt s (pos + 1) none (ws ++ [s.extract f pos]) := by
  have hlt := h.lt f rfl
  refine ⟨(by have := h.len; simp; omega), (fun f hf => by cases hf), ?_⟩
  have := h.eq
  rw [drop_step hp] at this
  simp only [wgo, hb, if_true, if_neg (cut_ne hlt (Nat.le_of_lt hp))] at this
  rw [this, List.map_append, List.map_singleton, extract_list]
  simp

def fldEnd (s : ByteArray) (ws : List ByteArray) : Option Nat → List ByteArray
  | Option.none => ws
  | some f => ws ++ [s.extract f s.size]

theorem FldAt.fin {s : ByteArray} {o : Option Nat} {ws : List ByteArray} (h : FldAt s s.size o ws) : wl s.data.toList = (fldEnd s ws o).map (·.data.toList) := by
  have hd : s.data.toList.drop s.size = [] := List.drop_eq_nil_of_le (by rw [← size_list]; exact Nat.le_refl _)
  have := h.eq
  rw [hd] at this
  cases o with
  | none => simpa [wgo, fldEnd] using this
  | some f =>
    have hlt := h.lt f rfl
    simp only [wgo, if_neg (cut_ne hlt (Nat.le_refl _))] at this
    rw [this]
    simp only [fldEnd]
    rw [List.map_append, List.map_singleton, extract_list]

set_option maxRecDepth 100000 in
set_option maxHeartbeats 4000000 in
theorem fields_any (s : ByteArray) (w : World) (hs : s.size ≤ 2000000000000) (ha : ∀ i (h : i < s.size), (s[i]'h).toNat < 128 ∧ (s[i]'h).toNat ≠ 11) :
    Calls Tryz.prog 124 #[.string s] w (FieldsPost s w) := by
  obtain ⟨i0, hi, hz0, hz1, hz2⟩ := info_parts str_info'
  have hk0 : (w.iter s 0).heap[w.heap.size]? = some (.stringIter s 0) := World.iter_heap w s 0
  have hb0 : Below w.heap.size w (w.iter s 0) := (Below.refl _ w).alloc (Nat.le_refl _) _
  have HA := Lib.hid ha
  clear ha
  go_enter Tryz.func124, Tryz.ntmps124
  go_wp2
  go_loopw [3, 4] (fun ov fv wr => ∃ (pos : Nat) (o : Option Nat) (ws : List ByteArray) (z : Int), pos ≤ s.size ∧ fv = .int .i64 z ∧ Hid (z = fromI o) ∧ Hid (FldAt s pos o ws) ∧ Hid (OwnStrs wr (w.heap.size + 1) ov ws) ∧ wr.heap[w.heap.size]? = some (.stringIter s pos) ∧ Below w.heap.size w wr)
    (fun _ _ wr => s.size - wr.iterPos w.heap.size)
  case atStart => exact ⟨0, none, [], -1, by omega, rfl, Lib.hid rfl, Lib.hid (FldAt.start s), Lib.hid (World.ownsRow_nil _ _ _ _), hk0, hb0⟩
  case round =>
    obtain ⟨pos, o, ws, z, hps, rfl, HZ, HF, HO, hk, hbel⟩ := hrel
    clear hk0 hb0
    have hmu : wr.iterPos w.heap.size = pos := by simp [World.iterPos, hk]
    have hwl := HF.out.len
    by_cases hp : pos < s.size
    · have h128 := (HA.out pos hp).1
      have hnext : ∀ ty, (Instr.next (.pointer (some ⟨w.heap.size, 0, none⟩)) true ty).run Tryz.prog wr = _ := fun ty => Lib.run_next_ascii_at wr w.heap.size s pos ty hk hp h128
      have hk1 := Lib.iterAt_heap wr w.heap.size s pos (pos + 1) hk
      have hb1 : Below w.heap.size w (wr.iterAt w.heap.size s (pos + 1)) := Lib.below_iterAt hbel (by omega) s (pos + 1)
      have hown1 : (wr.iterAt w.heap.size s (pos + 1)).ownsRow (w.heap.size + 1) 9 1 u3 ws.length (ws.map .string) := ownsRow_kept HO.out (fun q hq => Lib.iterAt_other wr w.heap.size q s (pos + 1) (by have := (World.ownsRow.lt HO.out q hq).1; omega))
      generalize wr.iterAt w.heap.size s (pos + 1) = W1 at hnext hk1 hb1 hown1
      have hsp := isSpace_any (s[pos].toNat : Int) W1 (by omega) (by omega) (by have := (HA.out pos hp).2; omega)
      rw [show spaceI (s[pos].toNat : Int) = spaceB s[pos] from rfl] at hsp
      have hmu2 : W1.iterPos w.heap.size = pos + 1 := by simp [World.iterPos, hk1]
      have hW1 : w.heap.size + 1 ≤ W1.heap.size := by have := (Array.getElem?_eq_some_iff.1 hk1).1; omega
      have HSP := Lib.hid hsp
      have HK := Lib.hid (And.intro hk1 hb1)
      have HO1 : Hid (OwnStrs W1 (w.heap.size + 1) u3 ws) := Lib.hid hown1
      have HMU := Lib.hid (And.intro hmu hmu2)
      cases hb : spaceB s[pos]
      · rw [hb] at HSP
        cases o with
        | none =>
          have HF2 := Lib.hid (HF.out.word hp hb)
          obtain rfl : z = -1 := HZ.out
          clear hk1 hb1 hsp hmu hmu2 hb hk hbel h128 hown1 HO HF HZ
          go_wp2_with fail
          refine HSP.out.mono ?_
          rintro e w2 ⟨rfl, rfl⟩
          go_wp2
          refine ⟨?rel, ?measure⟩
          case rel => exact ⟨pos + 1, some pos, ws, (pos : Int), by omega, rfl, Lib.hid rfl, HF2, HO1, HK.out.1, HK.out.2⟩
          case measure => rw [HMU.out.1, HMU.out.2]; omega
        | some f =>
          have HF2 := Lib.hid (HF.out.more hp hb)
          obtain rfl : z = (f : Int) := HZ.out
          have g : decide ((f : Int) < 0) = false := by simp
          clear hk1 hb1 hsp hmu hmu2 hb hk hbel h128 hown1 HO HF HZ
          go_wp2_with fail
          refine HSP.out.mono ?_
          rintro e w2 ⟨rfl, rfl⟩
          go_wp2
          refine ⟨?rel, ?measure⟩
          case rel => exact ⟨pos + 1, some f, ws, (f : Int), by omega, rfl, Lib.hid rfl, HF2, HO1, HK.out.1, HK.out.2⟩
          case measure => rw [HMU.out.1, HMU.out.2]; omega
      · rw [hb] at HSP
        cases o with
        | none =>
          have HF2 := Lib.hid (HF.out.skip_ hp hb)
          obtain rfl : z = -1 := HZ.out
          clear hk1 hb1 hsp hmu hmu2 hb hk hbel h128 hown1 HO HF HZ
          go_wp2_with fail
          refine HSP.out.mono ?_
          rintro e w2 ⟨rfl, rfl⟩
          go_wp2
          refine ⟨?rel, ?measure⟩
          case rel => exact ⟨pos + 1, none, ws, -1, by omega, rfl, Lib.hid rfl, HF2, HO1, HK.out.1, HK.out.2⟩
          case measure => rw [HMU.out.1, HMU.out.2]; omega
        | some f =>
          have HF2 := Lib.hid (HF.out.cut hp hb)
          have hfp := HF.out.lt f rfl
          obtain rfl : z = (f : Int) := HZ.out
          have g : decide ((0 : Int) ≤ (f : Int)) = true := by simp
          have hfI : (f : Int) ≤ (pos : Int) := by omega
          have hpI : (pos : Int) ≤ (s.size : Int) := by omega
          clear hk1 hb1 hsp hmu hmu2 hb hk hbel h128 HO HF HZ
          go_wp2_with fail
          refine HSP.out.mono ?_
          rintro e w2 ⟨rfl, rfl⟩
          go_wp2_with (at_builtin; refine wpList_append_own _ rfl _ _ 24 rfl (w.heap.size + 1) 9 i0 (.string ByteArray.empty) 1 16 Tryz.underlying24 hi hz0 hz1 hz2 rfl (by decide) _ _ _ rfl (hown1.alloc _) ⟨W1.heap.size, 0, none⟩ 1 1 [.string (s.extract f pos)] rfl rfl ?c1A ?c2A ?c3A ?c4A ?c5A ?_)
          case c1A =>
            intro j u hj
            match j, hj with
            | 0, hj => simp at hj; subst hj; simp [Addr.add]
          case c2A => first | rfl | (intro u hu; simp at hu; subst hu; rfl)
          case c3A => unfold maxLen; omega
          case c4A => omega
          case c5A => simp; omega
          intro v2 w3 hown3 hgrow _
          have hbl : Below (w.heap.size + 1) W1 w3 := ((Below.refl _ _).alloc hW1 _).grown hgrow (by simp; omega) (fun q hq => (World.ownsRow.lt hown1 q hq).1)
          have hit := (hbl.block w.heap.size (by omega)).trans HK.out.1
          have hsn : OwnStrs w3 (w.heap.size + 1) v2 (ws ++ [s.extract f pos]) := by unfold OwnStrs; simpa using hown3
          have hit2 : w3.iterPos w.heap.size = pos + 1 := by simp [World.iterPos, hit]
          have H3 := Lib.hid (And.intro hit (And.intro (HK.out.2.trans (hbl.mono (by omega))) hit2))
          have HS3 := Lib.hid hsn
          clear hown3 hgrow hbl hit hsn hown1 hit2
          go_wp2
          refine ⟨?rel, ?measure⟩
          case rel => exact ⟨pos + 1, none, _, -1, by omega, rfl, Lib.hid rfl, HF2, HS3, H3.out.1, H3.out.2.1⟩
          case measure => rw [HMU.out.1, H3.out.2.2]; omega
    · have hnext : ∀ ty, (Instr.next (.pointer (some ⟨w.heap.size, 0, none⟩)) true ty).run Tryz.prog wr = _ := fun ty => Lib.run_next_end_at wr w.heap.size s pos ty hk hp
      obtain rfl : pos = s.size := by omega
      have HB := Lib.hid hbel
      have hwr : w.heap.size + 1 ≤ wr.heap.size := by have := (Array.getElem?_eq_some_iff.1 hk).1; omega
      clear hbel hmu hk hp
      cases o with
      | none =>
        have HE := Lib.hid HF.out.fin
        obtain rfl : z = -1 := HZ.out
        clear HF HZ
        go_wp2
        go_ret
        exact ⟨_, ws, rfl, Lib.hid (ownsRow_base HO.out (by omega)), Lib.hid HE.out.symm, HB⟩
      | some f =>
        have HE := Lib.hid HF.out.fin
        have hfp := HF.out.lt f rfl
        obtain rfl : z = (f : Int) := HZ.out
        have g : decide ((0 : Int) ≤ (f : Int)) = true := by simp
        have hfI : (f : Int) ≤ (s.size : Int) := by omega
        have hown : wr.ownsRow (w.heap.size + 1) 9 1 u3 ws.length (ws.map .string) := HO.out
        clear HF HZ HO
        go_wp2_with (at_builtin; refine wpList_append_own _ rfl _ _ 24 rfl (w.heap.size + 1) 9 i0 (.string ByteArray.empty) 1 16 Tryz.underlying24 hi hz0 hz1 hz2 rfl (by decide) _ _ _ rfl (hown.alloc _) ⟨wr.heap.size, 0, none⟩ 1 1 [.string (s.extract f s.size)] rfl rfl ?c1B ?c2B ?c3B ?c4B ?c5B ?_)
        case c1B =>
          intro j u hj
          match j, hj with
          | 0, hj => simp at hj; subst hj; simp [Addr.add]
        case c2B => first | rfl | (intro u hu; simp at hu; subst hu; rfl)
        case c3B => unfold maxLen; omega
        case c4B => omega
        case c5B => simp; omega
        intro v2 w3 hown3 hgrow _
        have hbl : Below w.heap.size w w3 := (HB.out.alloc (by omega) _).grown hgrow (by simp; omega) (fun q hq => by have := (World.ownsRow.lt hown q hq).1; omega)
        have hsn : OwnStrs w3 (w.heap.size + 1) v2 (ws ++ [s.extract f s.size]) := by unfold OwnStrs; simpa using hown3
        have HS3 : Hid (OwnStrs w3 w.heap.size v2 (ws ++ [s.extract f s.size])) := Lib.hid (ownsRow_base hsn (by omega))
        have HB3 := Lib.hid hbl
        clear hown3 hgrow hbl hsn hown
        go_wp2
        go_ret
        exact ⟨_, _, rfl, HS3, Lib.hid HE.out.symm, HB3⟩

end Go.Proofs.YtkdomegcacgpnaaGreat

namespace Go.Proofs.YtkdomegcacgpnaaGreat
open Go.RowKit
set_option linter.unusedVariables false
set_option linter.unusedSimpArgs false

theorem byte_info : (Tryz.prog.info? 5).map (fun i => (i.zero, i.size, i.bytes)) = some (some (.int .u8 0), 1, 1) := by kernel_rfl

def byteCells (l : List UInt8) : List Value := l.map fun b => Value.int .u8 b.toNat

/-- A row of bytes of the call's own. -/
def OwnBytes (w : World) (B : Nat) (v : Value) (l : List UInt8) : Prop := w.ownsRow B 5 1 v l.length (byteCells l)

theorem OwnBytes.str {w : World} {B : Nat} {v : Value} {l : List UInt8} (h : OwnBytes w B v l) : (Go.convert 154 9 v).run Tryz.prog w = .ok (.string (ofL l)) w := by
  rcases h.2 with ⟨rfl, h0⟩ | ⟨g, cap, cur, rfl, hb, hg, hn, hm, hcs, ht⟩
  · have hl : l = [] := List.eq_nil_of_length_eq_zero h0
    subst hl
    have := Lib.run_convert_nil_bytes (P := Tryz.prog) w 154 9 5 0 Tryz.underlying154 Tryz.underlying5 Tryz.underlying9
    exact this
  · exact run_convert_bytes_back (P := Tryz.prog) w 154 9 5 ⟨g, 0, none⟩ cap l Tryz.underlying154 Tryz.underlying5 Tryz.underlying9 (fun j hj => by
      have := World.ownsRow.cells (h := h) (g := g) rfl j (.int .u8 (l[j].toNat : Int)) (by simp [byteCells, hj])
      exact this)

def ReplPost (s p n : ByteArray) (w : World) (e : Ending) (w' : World) : Prop := ∃ r : ByteArray, e = .returned (.string r) ∧ ((¬ InL p.data.toList s.data.toList ∧ r.data.toList = s.data.toList) ∨ ∃ A B, s.data.toList = A ++ p.data.toList ++ B ∧ r.data.toList = A ++ n.data.toList ++ B) ∧ Hid (Below w.heap.size w w')

/-- While the text is replaced. -/
structure ReplAt (s p n t : ByteArray) (D : List UInt8) : Prop where
  ph : (t = s ∧ D = []) ∨ ∃ A, s.data.toList = A ++ p.data.toList ++ t.data.toList ∧ D = A ++ n.data.toList ∧ ¬ InL p.data.toList t.data.toList
  le : D.length + t.size ≤ s.size + n.size

set_option maxRecDepth 100000 in
set_option maxHeartbeats 4000000 in
theorem replace_once (s p n : ByteArray) (w : World) (hs : s.size ≤ 5000000000000) (hp : p.size ≤ 3000000) (hp0 : 0 < p.size) (hn : n.size ≤ 1000) (hone : ∀ A B, s.data.toList = A ++ p.data.toList ++ B → ¬ InL p.data.toList B) :
    Calls Tryz.prog 79 #[.string s, .string p, .string n] w (ReplPost s p n w) := by
  obtain ⟨i0, hi, hz0, hz1, hz2⟩ := info_parts byte_info
  have HONE := Lib.hid hone
  clear hone
  go_enter Tryz.func79, Tryz.ntmps79
  go_wp2
  go_loopw [0, 7] (fun sv ov wr => ∃ (t : ByteArray) (D : List UInt8), sv = .string t ∧ Hid (ReplAt s p n t D) ∧ Hid (OwnBytes wr w.heap.size ov D) ∧ Hid (Below w.heap.size w wr)) (fun sv _ _ => match sv with | .string t => t.size | _ => 0)
  case atStart => exact ⟨s, [], rfl, Lib.hid ⟨.inl ⟨rfl, rfl⟩, by simp⟩, Lib.hid (World.ownsRow_nil _ _ _ _), Lib.hid (Below.refl _ _)⟩
  case round =>
    obtain ⟨t, D, rfl, HR, HO, HB⟩ := hrel
    have hle := HR.out.le
    have HF := Lib.hid (goIndex_any t p wr (by omega) hp)
    go_wp2_with fail
    refine HF.out.mono ?_
    rintro e w1 ⟨z, rfl, hz, rfl⟩
    have hown : wr.ownsRow w.heap.size 5 1 u7 D.length (byteCells D) := HO.out
    have hbs := HB.out.size
    rcases hz with ⟨rfl, hno⟩ | ⟨A, B, rfl, hAB⟩
    · have HNO := Lib.hid hno
      clear hno HF
      go_wp2_with (at_builtin; refine Lib.wpList_append_own_string _ rfl _ _ 154 9 rfl w.heap.size 5 i0 Tryz.underlying154 Tryz.underlying9 hi hz0 hz1 hz2 _ _ _ rfl hown t rfl ?c3 ?c4 ?c5 ?_)
      case c3 => unfold maxLen; omega
      case c4 => omega
      case c5 => omega
      intro v2 w2 hown2 hgrow _
      have ho2 : OwnBytes w2 w.heap.size v2 (D ++ t.data.toList) := by
        unfold OwnBytes byteCells
        rw [List.length_append, ← size_list, List.map_append]
        exact hown2
      have hstr := ho2.str
      have HB2 := Lib.hid (HB.out.grown hgrow hbs (fun q hq => (World.ownsRow.lt hown q hq).1))
      clear hown2 hgrow hown ho2
      go_wp2
      go_ret
      refine ⟨_, rfl, ?_, HB2⟩
      rw [ofL_list]
      rcases HR.out.ph with ⟨rfl, rfl⟩ | ⟨A, h1, h2, h3⟩
      · exact .inl ⟨HNO.out, by simp⟩
      · exact .inr ⟨A, _, h1, by rw [h2]⟩
    · have hph : t = s ∧ D = [] := by
        rcases HR.out.ph with h | ⟨A', h1, h2, h3⟩
        · exact h
        · exact absurd ⟨A, B, hAB⟩ h3
      obtain ⟨rfl, rfl⟩ := hph
      have hl := congrArg List.length hAB
      simp only [List.length_append, ← size_list] at hl
      obtain ⟨k, hk⟩ : ∃ k, A.length = k := ⟨_, rfl⟩
      obtain ⟨s1, hs1⟩ : ∃ s1, t.extract 0 k = s1 := ⟨_, rfl⟩
      obtain ⟨s2, hs2⟩ : ∃ s2, t.extract (k + p.size) t.size = s2 := ⟨_, rfl⟩
      have e1 : s1.data.toList = A := by
        rw [← hs1, extract_list, Nat.sub_zero, List.drop_zero, hAB, List.append_assoc, List.take_left' hk]
      have e2 : s2.data.toList = B := by
        rw [← hs2, extract_list, hAB, List.drop_left' (by rw [List.length_append, hk, ← size_list])]
        exact List.take_of_length_le (by omega)
      have n1 : s1.size = k := by rw [size_list, e1, hk]
      have n2 : s2.size = B.length := by rw [size_list, e2]
      rw [hk] at hl ⊢
      have HAB := Lib.hid (And.intro hAB (And.intro e1 e2))
      have hkI : decide ((k : Int) < 0) = false := by simp
      have hk1 : k ≤ t.size := by omega
      have hk2 : k + p.size ≤ t.size := by omega
      have hs2s : s2.size < t.size := by omega
      have HL9 := Lib.hid hl
      clear HF hAB e1 e2 hk hl
      go_wp2_with (at_builtin; refine Lib.wpList_append_own_string _ rfl _ _ 154 9 rfl w.heap.size 5 i0 Tryz.underlying154 Tryz.underlying9 hi hz0 hz1 hz2 _ _ _ rfl hown s1 rfl ?c3 ?c4 ?c5 ?_)
      case c3 => have := HL9.out; unfold maxLen; simp; omega
      case c4 => have := HL9.out; simp; omega
      case c5 => omega
      intro v2 w2 hown2 hgrow2 _
      have ho2 : w2.ownsRow w.heap.size 5 1 v2 s1.size (Lib.strCells s1) := by rw [n1]; simpa [byteCells] using hown2
      have hb2 := HB.out.grown hgrow2 hbs (fun q hq => (World.ownsRow.lt hown q hq).1)
      have hbs2 := hb2.size
      clear hown2 hgrow2 hown
      go_wp2_with (at_builtin; refine Lib.wpList_append_own_string _ rfl _ _ 154 9 rfl w.heap.size 5 i0 Tryz.underlying154 Tryz.underlying9 hi hz0 hz1 hz2 _ _ _ rfl ho2 n rfl ?c3 ?c4 ?c5 ?_)
      case c3 => unfold maxLen; omega
      case c4 => omega
      case c5 => omega
      intro v3 w3 hown3 hgrow3 _
      have ho3 : OwnBytes w3 w.heap.size v3 (A ++ n.data.toList) := by
        unfold OwnBytes byteCells
        rw [List.length_append, ← size_list, List.map_append]
        have : A.length = s1.size := by rw [size_list, HAB.out.2.1]
        rw [this]
        have e : Lib.strCells s1 = A.map fun b => Value.int .u8 b.toNat := by unfold Lib.strCells; rw [HAB.out.2.1]
        rw [← e]
        show w3.ownsRow _ _ _ _ (s1.size + n.size) (Lib.strCells s1 ++ Lib.strCells n)
        rw [n1]
        exact hown3
      have hb3 := hb2.grown hgrow3 hbs2 (fun q hq => (World.ownsRow.lt ho2 q hq).1)
      have H3 := Lib.hid ho3
      have HB3 := Lib.hid hb3
      have hnew : ReplAt t p n s2 (A ++ n.data.toList) := ⟨.inr ⟨A, by rw [HAB.out.2.2]; exact HAB.out.1, rfl, by rw [HAB.out.2.2]; exact HONE.out A B HAB.out.1⟩, by
        have : A.length = s1.size := by rw [size_list, HAB.out.2.1]
        have h9 := size_list n
        rw [List.length_append, this, ← h9]
        have := HL9.out
        omega⟩
      have HNEW := Lib.hid hnew
      have gk : (k : Int) + (p.size : Int) ≤ (t.size : Int) := by omega
      clear hown3 hgrow3 ho3 hb3 hb2 ho2 hbs2 hnew HR HO HB hbs
      go_wp2
      go_roundw
      case rel => exact ⟨s2, _, by first | rfl | rw [← hs2], HNEW, H3, HB3⟩
      case measure => first | exact hs2s | (rw [hs2]; exact hs2s)

end Go.Proofs.YtkdomegcacgpnaaGreat

