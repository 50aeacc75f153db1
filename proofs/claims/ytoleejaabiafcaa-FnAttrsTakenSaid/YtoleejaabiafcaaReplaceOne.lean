/- goquery.zzReplaceAll, of a text that stands in another at most once. -/
import Derived.Test.YtoleejaabiafcaaGoIndex
import Derived.Test.YtoleejaabiafcaaClassTrim
import Derived.Test.YtoleejaabiafcaaCells
import Derived.Test.YtoleejaabiafcaaKV
import Derived.Lib.AppendStr
import Derived.Lib.BufferRead
namespace Go.Proofs.Ytoleejaabiafcaa
open Go.RowKit
set_option linter.unusedVariables false
set_option linter.unusedSimpArgs false

theorem byte_info : (Try.prog.info? 5).map (fun i => (i.zero, i.size, i.bytes)) = some (some (.int .u8 0), 1, 1) := by kernel_rfl

def byteCells (l : List UInt8) : List Value := l.map fun b => Value.int .u8 b.toNat

/-- A row of bytes of the call's own. -/
def OwnBytes (w : World) (B : Nat) (v : Value) (l : List UInt8) : Prop := w.ownsRow B 5 1 v l.length (byteCells l)

theorem OwnBytes.str {w : World} {B : Nat} {v : Value} {l : List UInt8} (h : OwnBytes w B v l) : (Go.convert 155 9 v).run Try.prog w = .ok (.string (ofL l)) w := by
  rcases h.2 with ⟨rfl, h0⟩ | ⟨g, cap, cur, rfl, hb, hg, hn, hm, hcs, ht⟩
  · have hl : l = [] := List.eq_nil_of_length_eq_zero h0
    subst hl
    have := Lib.run_convert_nil_bytes (P := Try.prog) w 155 9 5 0 Try.underlying155 Try.underlying5 Try.underlying9
    exact this
  · exact run_convert_bytes_back (P := Try.prog) w 155 9 5 ⟨g, 0, none⟩ cap l Try.underlying155 Try.underlying5 Try.underlying9 (fun j hj => by
      have := World.ownsRow.cells (h := h) (g := g) rfl j (.int .u8 (l[j].toNat : Int)) (by simp [byteCells, hj])
      exact this)

def ReplPost (s p n : ByteArray) (w : World) (e : Ending) (w' : World) : Prop := ∃ r : ByteArray, e = .returned (.string r) ∧ ((¬ InL p.data.toList s.data.toList ∧ r.data.toList = s.data.toList) ∨ ∃ A B, s.data.toList = A ++ p.data.toList ++ B ∧ r.data.toList = A ++ n.data.toList ++ B) ∧ Hid (Below w.heap.size w w')

/-- While the text is replaced. -/
structure ReplAt (s p n t : ByteArray) (D : List UInt8) : Prop where
  ph : (t = s ∧ D = []) ∨ ∃ A, s.data.toList = A ++ p.data.toList ++ t.data.toList ∧ D = A ++ n.data.toList ∧ ¬ InL p.data.toList t.data.toList
  le : D.length + t.size ≤ s.size + n.size

set_option maxRecDepth 100000 in
set_option maxHeartbeats 4000000 in
theorem replace_once (s p n : ByteArray) (w : World) (hs : s.size ≤ 100000) (hp : p.size ≤ 1000) (hp0 : 0 < p.size) (hn : n.size ≤ 1000) (hone : ∀ A B, s.data.toList = A ++ p.data.toList ++ B → ¬ InL p.data.toList B) :
    Calls Try.prog 95 #[.string s, .string p, .string n] w (ReplPost s p n w) := by
  obtain ⟨i0, hi, hz0, hz1, hz2⟩ := info_parts byte_info
  have HONE := Lib.hid hone
  clear hone
  go_enter Try.func95, Try.ntmps95
  go_wp2
  go_loopw [0, 7] (fun sv ov wr => ∃ (t : ByteArray) (D : List UInt8), sv = .string t ∧ Hid (ReplAt s p n t D) ∧ Hid (OwnBytes wr w.heap.size ov D) ∧ Hid (Below w.heap.size w wr)) (fun sv _ _ => match sv with | .string t => t.size | _ => 0)
  case atStart => exact ⟨s, [], rfl, Lib.hid ⟨.inl ⟨rfl, rfl⟩, by simp⟩, Lib.hid (World.ownsRow_nil _ _ _ _), Lib.hid (Below.refl _ _)⟩
  case round =>
    obtain ⟨t, D, rfl, HR, HO, HB⟩ := hrel
    have hle := HR.out.le
    have HF := Lib.hid (goIndex_any t p wr (by omega) hp)
    go_wp2_with fail
    refine HF.out.mono ?_
    rintro e w1 ⟨z, rfl, hz, rfl⟩
    have hown : wr.ownsRow w.heap.size 5 1 u7 D.length (byteCells D) := HO.out
    have hbs := HB.out.size
    rcases hz with ⟨rfl, hno⟩ | ⟨A, B, rfl, hAB⟩
    · have HNO := Lib.hid hno
      clear hno HF
      go_wp2_with (at_builtin; refine Lib.wpList_append_own_string _ rfl _ _ 155 9 rfl w.heap.size 5 i0 Try.underlying155 Try.underlying9 hi hz0 hz1 hz2 _ _ _ rfl hown t rfl ?c3 ?c4 ?c5 ?_)
      case c3 => unfold maxLen; omega
      case c4 => omega
      case c5 => omega
      intro v2 w2 hown2 hgrow _
      have ho2 : OwnBytes w2 w.heap.size v2 (D ++ t.data.toList) := by
        unfold OwnBytes byteCells
        rw [List.length_append, ← size_list, List.map_append]
        exact hown2
      have hstr := ho2.str
      have HB2 := Lib.hid (HB.out.grown hgrow hbs (fun q hq => (World.ownsRow.lt hown q hq).1))
      clear hown2 hgrow hown ho2
      go_wp2
      go_ret
      refine ⟨_, rfl, ?_, HB2⟩
      rw [ofL_list]
      rcases HR.out.ph with ⟨rfl, rfl⟩ | ⟨A, h1, h2, h3⟩
      · exact .inl ⟨HNO.out, by simp⟩
      · exact .inr ⟨A, _, h1, by rw [h2]⟩
    · have hph : t = s ∧ D = [] := by
        rcases HR.out.ph with h | ⟨A', h1, h2, h3⟩
        · exact h
        · exact absurd ⟨A, B, hAB⟩ h3
      obtain ⟨rfl, rfl⟩ := hph
      have hl := congrArg List.length hAB
      simp only [List.length_append, ← size_list] at hl
      obtain ⟨k, hk⟩ : ∃ k, A.length = k := ⟨_, rfl⟩
      obtain ⟨s1, hs1⟩ : ∃ s1, t.extract 0 k = s1 := ⟨_, rfl⟩
      obtain ⟨s2, hs2⟩ : ∃ s2, t.extract (k + p.size) t.size = s2 := ⟨_, rfl⟩
      have e1 : s1.data.toList = A := by
        rw [← hs1, extract_list, Nat.sub_zero, List.drop_zero, hAB, List.append_assoc, List.take_left' hk]
      have e2 : s2.data.toList = B := by
        rw [← hs2, extract_list, hAB, List.drop_left' (by rw [List.length_append, hk, ← size_list])]
        exact List.take_of_length_le (by omega)
      have n1 : s1.size = k := by rw [size_list, e1, hk]
      have n2 : s2.size = B.length := by rw [size_list, e2]
      rw [hk] at hl ⊢
      have HAB := Lib.hid (And.intro hAB (And.intro e1 e2))
      have hkI : decide ((k : Int) < 0) = false := by simp
      have hk1 : k ≤ t.size := by omega
      have hk2 : k + p.size ≤ t.size := by omega
      have hs2s : s2.size < t.size := by omega
      have HL9 := Lib.hid hl
      clear HF hAB e1 e2 hk hl
      go_wp2_with (at_builtin; refine Lib.wpList_append_own_string _ rfl _ _ 155 9 rfl w.heap.size 5 i0 Try.underlying155 Try.underlying9 hi hz0 hz1 hz2 _ _ _ rfl hown s1 rfl ?c3 ?c4 ?c5 ?_)
      case c3 => have := HL9.out; unfold maxLen; simp; omega
      case c4 => have := HL9.out; simp; omega
      case c5 => omega
      intro v2 w2 hown2 hgrow2 _
      have ho2 : w2.ownsRow w.heap.size 5 1 v2 s1.size (Lib.strCells s1) := by rw [n1]; simpa [byteCells] using hown2
      have hb2 := HB.out.grown hgrow2 hbs (fun q hq => (World.ownsRow.lt hown q hq).1)
      have hbs2 := hb2.size
      clear hown2 hgrow2 hown
      go_wp2_with (at_builtin; refine Lib.wpList_append_own_string _ rfl _ _ 155 9 rfl w.heap.size 5 i0 Try.underlying155 Try.underlying9 hi hz0 hz1 hz2 _ _ _ rfl ho2 n rfl ?c3 ?c4 ?c5 ?_)
      case c3 => unfold maxLen; omega
      case c4 => omega
      case c5 => omega
      intro v3 w3 hown3 hgrow3 _
      have ho3 : OwnBytes w3 w.heap.size v3 (A ++ n.data.toList) := by
        unfold OwnBytes byteCells
        rw [List.length_append, ← size_list, List.map_append]
        have : A.length = s1.size := by rw [size_list, HAB.out.2.1]
        rw [this]
        have e : Lib.strCells s1 = A.map fun b => Value.int .u8 b.toNat := by unfold Lib.strCells; rw [HAB.out.2.1]
        rw [← e]
        show w3.ownsRow _ _ _ _ (s1.size + n.size) (Lib.strCells s1 ++ Lib.strCells n)
        rw [n1]
        exact hown3
      have hb3 := hb2.grown hgrow3 hbs2 (fun q hq => (World.ownsRow.lt ho2 q hq).1)
      have H3 := Lib.hid ho3
      have HB3 := Lib.hid hb3
      have hnew : ReplAt t p n s2 (A ++ n.data.toList) := ⟨.inr ⟨A, by rw [HAB.out.2.2]; exact HAB.out.1, rfl, by rw [HAB.out.2.2]; exact HONE.out A B HAB.out.1⟩, by
        have : A.length = s1.size := by rw [size_list, HAB.out.2.1]
        have h9 := size_list n
        rw [List.length_append, this, ← h9]
        have := HL9.out
        omega⟩
      have HNEW := Lib.hid hnew
      have gk : (k : Int) + (p.size : Int) ≤ (t.size : Int) := by omega
      clear hown3 hgrow3 ho3 hb3 hb2 ho2 hbs2 hnew HR HO HB hbs
      go_wp2
      go_roundw
      case rel => exact ⟨s2, _, by first | rfl | rw [← hs2], HNEW, H3, HB3⟩
      case measure => first | exact hs2s | (rw [hs2]; exact hs2s)

end Go.Proofs.Ytoleejaabiafcaa
