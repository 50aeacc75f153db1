/- html.zzIndexAny at the bytes that html.escape looks for. -/
import Derived.Test.YtphppdbhofeagaaDoorEscape
import Derived.Lib.OthersKept
import Derived.Lib.Hide
namespace Go.Proofs.YtphppdbhofeagaaDoor
open Go.RowKit
set_option linter.unusedVariables false
set_option linter.unusedSimpArgs false

abbrev escChars : ByteArray := ⟨#[38, 39, 60, 62, 34, 13]⟩

theorem escSet_at : ∀ (q : Nat) (h : q < escChars.size), (escChars[q]'h).toNat = escSet.getD q 0 ∧ (escChars[q]'h).toNat < 128 := by
  intro q h
  have h6 : q < 6 := h
  match q, h6 with
  | 0, _ => exact ⟨rfl, (by decide : (38 : Nat) < 128)⟩
  | 1, _ => exact ⟨rfl, (by decide : (39 : Nat) < 128)⟩
  | 2, _ => exact ⟨rfl, (by decide : (60 : Nat) < 128)⟩
  | 3, _ => exact ⟨rfl, (by decide : (62 : Nat) < 128)⟩
  | 4, _ => exact ⟨rfl, (by decide : (34 : Nat) < 128)⟩
  | 5, _ => exact ⟨rfl, (by decide : (13 : Nat) < 128)⟩

theorem escSet_mem {q : Nat} (h : q < 6) : escSet.getD q 0 ∈ escSet := by
  match q, h with
  | 0, _ => decide
  | 1, _ => decide
  | 2, _ => decide
  | 3, _ => decide
  | 4, _ => decide
  | 5, _ => decide

/-- A rune is none of the first q. -/
def NotIn (r q : Nat) : Prop := ∀ j, j < q → r ≠ escSet.getD j 0

theorem notIn_all {r : Nat} (h : NotIn r 6) : ∀ c ∈ escSet, r ≠ c := by
  intro c hc
  have h0 := h 0 (by omega)
  have h1 := h 1 (by omega)
  have h2 := h 2 (by omega)
  have h3 := h 3 (by omega)
  have h4 := h 4 (by omega)
  have h5 := h 5 (by omega)
  simp [escSet] at hc h0 h1 h2 h3 h4 h5
  rcases hc with rfl | rfl | rfl | rfl | rfl | rfl <;> assumption

def IndexPost (s : ByteArray) (w : World) (e : Ending) (w' : World) : Prop := ∃ r : Int, e = .returned (.int .i64 r) ∧ IdxAt s.data.toList r ∧ Below w.heap.size w w'

set_option maxRecDepth 100000 in
set_option maxHeartbeats 4000000 in
theorem indexAny_any (s : ByteArray) (w : World) (hs : s.size ≤ 100000000) :
    Calls Tryd.prog 65 #[.string s, .string ⟨#[38, 39, 60, 62, 34, 13]⟩] w (IndexPost s w) := by
  have hl : s.data.toList.length = s.size := by rw [Array.length_toList]; rfl
  have hk0 : (w.iter s 0).heap[w.heap.size]? = some (.stringIter s 0) := World.iter_heap w s 0
  have hb0 : Below w.heap.size w (w.iter s 0) := (Below.refl _ w).alloc (Nat.le_refl _) _
  have HL := Lib.hid hl
  clear hl
  go_enter Tryd.func65, Tryd.ntmps65
  go_wp2
  go_loopw [5, 6, 8] (fun iv cv dv wr => ∃ (pos : Nat), pos ≤ s.size ∧ Hid (NoSp s.data.toList pos) ∧ wr.heap[w.heap.size]? = some (.stringIter s pos) ∧ Below w.heap.size w wr)
    (fun _ _ _ wr => s.size - wr.iterPos w.heap.size)
  case atStart => exact ⟨0, by omega, Lib.hid (fun j hj => by omega), hk0, hb0⟩
  case round =>
    obtain ⟨pos, hps, HN, hk, hbel⟩ := hrel
    clear hk0 hb0
    have hmu : wr.iterPos w.heap.size = pos := by simp [World.iterPos, hk]
    by_cases hp : pos < s.size
    · have hnext : ∀ ty, (Instr.next (.pointer (some ⟨w.heap.size, 0, none⟩)) true ty).run Tryd.prog wr = _ := fun ty => Lib.run_next_any_at wr w.heap.size s pos ty hk hp
      have hk1 := Lib.iterAt_heap wr w.heap.size s pos (pos + (Utf8.decode s pos).2) hk
      have hb1 : Below w.heap.size w (wr.iterAt w.heap.size s (pos + (Utf8.decode s pos).2)) := Lib.below_iterAt hbel (by omega) s (pos + (Utf8.decode s pos).2)
      have hw1 := Lib.width_pos s pos
      have hyes := fun (c : Nat) (hc : c ∈ escSet) => step_yes (s := s) (pos := pos) hc
      have hno := step_no hp HN.out
      generalize wr.iterAt w.heap.size s (pos + (Utf8.decode s pos).2) = W1 at hnext hk1 hb1
      generalize (Utf8.decode s pos).2 = wd at *
      generalize (Utf8.decode s pos).1 = r at *
      have hmu2 : W1.iterPos w.heap.size = pos + wd := by simp [World.iterPos, hk1]
      have hW1 : w.heap.size + 1 ≤ W1.heap.size := by have := (Array.getElem?_eq_some_iff.1 hk1).1; omega
      have hk2 : (W1.iter escChars 0).heap[W1.heap.size]? = some (.stringIter escChars 0) := World.iter_heap W1 escChars 0
      have hb2 : Below w.heap.size w (W1.iter escChars 0) := hb1.alloc (by omega) _
      have hk3 : (W1.iter escChars 0).heap[w.heap.size]? = some (.stringIter s (pos + wd)) := by
        rw [← hk1]
        exact ((Below.refl W1.heap.size W1).alloc (Nat.le_refl _) _).block w.heap.size (by omega)
      have HK := Lib.hid (And.intro hk2 (And.intro hk3 hb2))
      have HY := Lib.hid (And.intro hyes hno)
      have HMU := Lib.hid (And.intro hmu hmu2)
      have HB := Lib.hid (And.intro hW1 hw1)
      clear hk1 hb1 hmu hmu2 hk hbel hk2 hb2 hk3 hyes hno hW1 hw1
      go_wp2
      go_loopw [8] (fun dv wi => ∃ (q : Nat), q ≤ 6 ∧ Hid (NotIn r q) ∧ wi.heap[W1.heap.size]? = some (.stringIter escChars q) ∧ wi.heap[w.heap.size]? = some (.stringIter s (pos + wd)) ∧ Below w.heap.size w wi)
        (fun _ wi => 6 - wi.iterPos W1.heap.size)
      case atStart => exact ⟨0, by omega, Lib.hid (fun j hj => by omega), HK.out.1, HK.out.2.1, HK.out.2.2⟩
      case round =>
        obtain ⟨q, hq, HNI, hki, hko, hbi⟩ := hrel
        clear HK
        have hmi : wr.iterPos W1.heap.size = q := by simp [World.iterPos, hki]
        have hmo : wr.iterPos w.heap.size = pos + wd := by simp [World.iterPos, hko]
        by_cases hq6 : q < 6
        · have hqs : q < escChars.size := hq6
          obtain ⟨hc1, hc2⟩ := escSet_at q hqs
          have hnext : ∀ ty, (Instr.next (.pointer (some ⟨W1.heap.size, 0, none⟩)) true ty).run Tryd.prog wr = _ := fun ty => Lib.run_next_ascii_at wr W1.heap.size escChars q ty hki hqs hc2
          have hk4 := Lib.iterAt_heap wr W1.heap.size escChars q (q + 1) hki
          have hk5 : (wr.iterAt W1.heap.size escChars (q + 1)).heap[w.heap.size]? = some (.stringIter s (pos + wd)) := by
            rw [← hko]
            exact Lib.iterAt_other wr W1.heap.size w.heap.size escChars (q + 1) (by have := HB.out.1; omega)
          have hb4 : Below w.heap.size w (wr.iterAt W1.heap.size escChars (q + 1)) := Lib.below_iterAt hbi (by have := HB.out.1; omega) escChars (q + 1)
          have hmem := escSet_mem hq6
          generalize wr.iterAt W1.heap.size escChars (q + 1) = W2 at hnext hk4 hk5 hb4
          rw [hc1] at hnext
          obtain ⟨d, hd⟩ : ∃ d, escSet.getD q 0 = d := ⟨_, rfl⟩
          rw [hd] at hnext hmem
          have hm2 : W2.iterPos W1.heap.size = q + 1 := by simp [World.iterPos, hk4]
          have HI := Lib.hid (And.intro hk4 (And.intro hk5 (And.intro hb4 (And.intro hmi hm2))))
          have HD := Lib.hid (And.intro hd hmem)
          clear hk4 hk5 hb4 hmi hmo hm2 hki hko hbi hd hmem hc1 hc2 hqs
          by_cases he : (r : Int) = (d : Int)
          · have hb : ((r : Int) == (d : Int)) = true := by simpa using he
            have HE := Lib.hid he
            clear he
            go_wp2
            go_ret
            refine ⟨_, rfl, .inr ⟨pos, by rw [HL.out]; exact hp, rfl, HN.out, ?_⟩, HI.out.2.2.1⟩
            exact HY.out.1 d HD.out.2 (by have := HE.out; omega)
          · have hb : ((r : Int) == (d : Int)) = false := by simpa using he
            have HE := Lib.hid he
            clear he
            go_wp2
            refine ⟨?rel, ?measure⟩
            case rel =>
              refine ⟨q + 1, by omega, Lib.hid (fun j hj => ?_), HI.out.1, HI.out.2.1, HI.out.2.2.1⟩
              by_cases hjq : j < q
              · exact HNI.out j hjq
              · obtain rfl : j = q := by omega
                have := HE.out
                rw [HD.out.1]
                omega
            case measure => rw [HI.out.2.2.2.1, HI.out.2.2.2.2]; omega
        · obtain rfl : q = 6 := by omega
          have hnext : ∀ ty, (Instr.next (.pointer (some ⟨W1.heap.size, 0, none⟩)) true ty).run Tryd.prog wr = _ := fun ty => Lib.run_next_end_at wr W1.heap.size escChars 6 ty hki (by decide)
          have HI := Lib.hid (And.intro hko (And.intro hbi hmo))
          have HZ := Lib.hid (HY.out.2 (notIn_all HNI.out))
          clear hki hko hbi hmi hmo
          go_wp2
          refine ⟨?rel, ?measure⟩
          case rel => exact ⟨pos + wd, HZ.out.2, Lib.hid HZ.out.1, HI.out.1, HI.out.2.1⟩
          case measure => rw [HMU.out.1, HI.out.2.2]; have := HB.out.2; omega
    · have hnext : ∀ ty, (Instr.next (.pointer (some ⟨w.heap.size, 0, none⟩)) true ty).run Tryd.prog wr = _ := fun ty => Lib.run_next_end_at wr w.heap.size s pos ty hk hp
      obtain rfl : pos = s.size := by omega
      have HB := Lib.hid hbel
      clear hbel hmu hk hp
      go_wp2
      go_ret
      exact ⟨_, rfl, .inl ⟨rfl, by rw [HL.out]; exact HN.out⟩, HB.out⟩

end Go.Proofs.YtphppdbhofeagaaDoor
