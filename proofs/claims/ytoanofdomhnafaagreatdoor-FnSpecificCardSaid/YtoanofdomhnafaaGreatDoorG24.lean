/- Parts of a proof: PdLowA. -/
import Derived.Test.YtoanofdomhnafaaGreatDoorG08
import Derived.Test.YtoanofdomhnafaaGreatDoorG00
import Derived.Deep.OwnRows
import Derived.Lib.BufferWrite
import Derived.Lib.SliceRun
import Derived.Laws.Tables
import Derived.Laws.CopyOwn
set_option linter.unusedVariables false
set_option linter.unusedSimpArgs false
namespace Go.Proofs.YtoanofdomhnafaaGreatDoor
open Go.RowKit
def lowS (s : ByteArray) : ByteArray := ⟨(s.data.toList.map lowB).toArray⟩
def LowPost (s : ByteArray) (w : World) (e : Ending) (w' : World) : Prop := e = .returned (.string (lowS s)) ∧ Hid (Below w.heap.size w w')
theorem lowS_same {s : ByteArray} (h : ∀ j, j < s.size → ¬ capital (s.data.toList.getD j 0).toNat) : lowS s = s := by
  have hll : s.data.toList.length = s.size := by rw [Array.length_toList]; rfl
  have e : s.data.toList.map lowB = s.data.toList := by
    apply List.ext_getElem
    · simp
    · intro j h1 h2
      have := h j (by omega)
      rw [List.getD_eq_getElem?_getD, List.getElem?_eq_getElem h2, Option.getD_some] at this
      unfold capital at this
      rw [List.getElem_map, lowB, if_neg this]
  unfold lowS
  rw [e]
theorem Tryz.infoU8 : (Tryz.prog.info? 5).map (fun i => (i.zero, i.size, i.bytes)) = some (some (.int .u8 0), 1, 1) := by kernel_rfl
theorem Tryz.sizeU8 : (Tryz.prog.info? 5).map (·.size) = some 1 := by kernel_rfl
theorem bytes_row {w : World} {g : Nat} {l : List UInt8} {t : TypeId} {cur : Array Value} (hg : w.heap[g]? = some (.cells cur t (0, 0))) : BytesAt (w.setRow g (Lib.byteCells l).toArray) g l.length (fun j => l.getD j 0) := by
  have hrow := setRow_heap w g cur (Lib.byteCells l).toArray t (0, 0) hg
  constructor
  · intro j hj
    simp only [World.cell?, hrow]
    simp [Lib.byteCells, hj]
  · intro j hj
    simp only [World.frozen?, hrow]
    simp
set_option maxRecDepth 100000 in
set_option maxHeartbeats 4000000 in
theorem lowA_any (s : ByteArray) (w : World) (hs : s.size ≤ 1000000) :
    Calls Tryz.prog 52 #[.string s] w (LowPost s w) := by
  have hll : s.data.toList.length = s.size := by rw [Array.length_toList]; rfl
  have qT : ∀ (w : World) (a : Option Addr) (n c n' c' : Nat), (binOp .eql 68 (.slice a n c) (.slice none n' c')).run Tryz.prog w = .ok (.bool a.isNone) w := fun w a n c n' c' => Lib.run_eql_slice_nil w _ _ a n c n' c' Tryz.underlying68
  have hmk : ∀ w : World, (Instr.makeSlice 68 (.int .i64 (s.size : Int)) (.int .i64 (s.size : Int))).run Tryz.prog w = .ok (.slice (some ⟨w.heap.size, 0, none⟩) s.size s.size) (w.alloc (.cells (madeCells #[.int .u8 0] s.size) 5)) := fun w =>
    run_make_row' 68 5 (.int .u8 0) 1 Tryz.underlying68 Tryz.infoU8 rfl .i64 .i64 s.size (by omega) (by omega) w
  have hback := fun (w' : World) (g : Nat) (h : BytesAt w' g s.size (half s.data.toList s.size)) => run_convert_bytes_back (P := Tryz.prog) w' 68 9 5 ⟨g, 0, none⟩ s.size (s.data.toList.map lowB) Tryz.underlying68 Tryz.underlying5 Tryz.underlying9 (fun j hj => by
    rw [List.length_map] at hj
    rw [add_at, Nat.zero_add, h.cell j (by omega), half, if_pos (by omega), List.getD_eq_getElem?_getD, List.getElem?_eq_getElem hj, List.getElem_map]
    rfl)
  simp only [List.length_map, hll] at hback
  have hsame := lowS_same (s := s)
  have HBK := Lib.hid hback
  have HSM := Lib.hid hsame
  have hsg : ∀ j (h : j < s.size), s[j] = s.data.toList.getD j 0 := fun j h => by
    have hj : j < s.data.toList.length := by omega
    rw [List.getD_eq_getElem?_getD, List.getElem?_eq_getElem hj, Option.getD_some]
    simp
    rfl
  have HSG := Lib.hid hsg
  have hcopy := fun (W : World) (cap : Nat) (h : W.heap[cap]? = some (.cells (madeCells #[.int .u8 0] s.size) 5 (0, 0))) => Lib.run_copy_row_string (P := Tryz.prog) W 68 9 3 5 cap 0 s.size s.size s (madeCells #[.int .u8 0] s.size) 5 Tryz.underlying68 Tryz.sizeU8 h (Nat.le_refl _) (by simp [madeCells])
  have HCP := Lib.hid hcopy
  clear hback hsame hsg hcopy
  obtain ⟨l, hl⟩ : ∃ l, s.data.toList = l := ⟨_, rfl⟩
  rw [hl] at hll HBK HSM HSG HCP
  have HL := Lib.hid hl
  clear hl
  go_enter Tryz.func52, Tryz.ntmps52
  go_wp2
  go_loopw [3, 4] (fun bv iv wr => ∃ k : Nat, k ≤ s.size ∧ iv = .int .i64 (k : Int) ∧ Hid (Below w.heap.size w wr) ∧ ((bv = .slice none 0 0 ∧ Hid (∀ j, j < k → ¬ capital (l.getD j 0).toNat)) ∨ (∃ g, bv = .slice (some ⟨g, 0, none⟩) s.size s.size ∧ w.heap.size ≤ g ∧ Hid (BytesAt wr g s.size (half l k))))) (fun _ iv _ => s.size - (intOf iv).toNat)
  case atStart => exact ⟨0, by omega, by go_num, Lib.hid (Below.refl _ _), .inl ⟨rfl, Lib.hid (fun j hj => by omega)⟩⟩
  case round =>
    obtain ⟨k, hk, rfl, HB, hcase⟩ := hrel
    by_cases hlt : k < s.size
    · have g0 : decide ((k : Int) < (s.size : Int)) = true := by simp [hlt]
      have g0n : decide (k < s.size) = true := by simp [hlt]
      have hsk := HSG.out k hlt
      obtain ⟨c, hc⟩ : ∃ c, l.getD k 0 = c := ⟨_, rfl⟩
      have hc256 := c.toNat_lt
      obtain ⟨y, hy⟩ : ∃ y : Int, (s[k].toNat : Int) = y := ⟨_, rfl⟩
      have hyc : y = (c.toNat : Int) := by rw [← hy, hsk, hc]
      have hhk : half l k k = c := by unfold half; rw [if_neg (by omega), hc]
      have hhn : half l (k + 1) k = lowB c := by unfold half; rw [if_pos (by omega), hc]
      by_cases hcap : 65 ≤ c.toNat ∧ c.toNat ≤ 90
      · have d1 : decide ((65 : Int) ≤ y) = true := by simp; omega
        have d2 : decide (y ≤ (90 : Int)) = true := by simp; omega
        have hy1 : 65 ≤ y := by omega
        have hy2 : y ≤ 90 := by omega
        have hsum : (y + 32) % 256 = y + 32 := by omega
        have hval : (.int .u8 (y + 32) : Value) = .int .u8 ((half l (k + 1) k).toNat : Int) := by rw [hhn, lowB_cap hcap, hyc]; simp
        have HV := Lib.hid hval
        rcases hcase with ⟨rfl, HNO⟩ | ⟨g, rfl, hg, HAT⟩
        · obtain ⟨W1, hW1⟩ : ∃ W1, wr.alloc (.cells (madeCells #[.int .u8 0] s.size) 5) = W1 := ⟨_, rfl⟩
          have hnew : W1.heap[wr.heap.size]? = some (.cells (madeCells #[.int .u8 0] s.size) 5 (0, 0)) := by rw [← hW1]; exact objAt_alloc_new wr _ _
          have hb1 : Below w.heap.size w W1 := by rw [← hW1]; exact HB.out.alloc HB.out.size _
          have hcp := HCP.out W1 wr.heap.size hnew
          have hmk1 := hmk wr
          rw [hW1] at hmk1
          simp only [List.take_zero, List.nil_append, Nat.zero_add] at hcp
          have hdrop : (madeCells #[.int .u8 0] s.size).toList.drop s.size = [] := by rw [List.drop_eq_nil_iff]; simp [madeCells]
          rw [hdrop, List.append_nil] at hcp
          obtain ⟨W2, hW2⟩ : ∃ W2, W1.setRow wr.heap.size (Lib.byteCells l).toArray = W2 := ⟨_, rfl⟩
          rw [hW2] at hcp
          have hat2 : BytesAt W2 wr.heap.size s.size (half l k) := by
            have := bytes_row (l := l) hnew
            rw [hW2, hll] at this
            exact ⟨fun j hj => by
              rw [this.cell j hj]
              unfold half
              split
              · rename_i hjk
                have := HNO.out j hjk
                unfold capital at this
                rw [lowB, if_neg this]
              · rfl, this.free⟩
          have hb2 : Below w.heap.size w W2 := by
            rw [← hW2]
            exact below_setRow hb1 (by exact HB.out.size) _
          have hst : BytesAt (W2.setCell ⟨wr.heap.size, k, none⟩ (.int .u8 (y + 32))) wr.heap.size s.size (half l (k + 1)) := hat2.set hlt HV.out (fun j hj => half_next hj)
          have hbs : Below w.heap.size w (W2.setCell ⟨wr.heap.size, k, none⟩ (.int .u8 (y + 32))) := hb2.setCell (by exact HB.out.size) _
          have ck := hat2.cell k hlt
          have fk := hat2.free k hlt
          have H1 := Lib.hid (And.intro hst hbs)
          have hws := HB.out.size
          clear hat2 hst hbs hb1 hb2 hnew hW1 hW2 hdrop hhk hhn hval hcap hc256 hyc hc hsk HNO hmk
          go_wp2
          refine ⟨?rel, ?measure⟩
          case rel => exact ⟨k + 1, by omega, by go_num, Lib.hid H1.out.2, .inr ⟨wr.heap.size, rfl, hws, Lib.hid H1.out.1⟩⟩
          case measure => simp [intOf]; omega
        · have ck := HAT.out.cell k hlt
          have fk := HAT.out.free k hlt
          have hst : BytesAt (wr.setCell ⟨g, k, none⟩ (.int .u8 (y + 32))) g s.size (half l (k + 1)) := HAT.out.set hlt HV.out (fun j hj => half_next hj)
          have hbs : Below w.heap.size w (wr.setCell ⟨g, k, none⟩ (.int .u8 (y + 32))) := HB.out.setCell (by exact hg) _
          have H1 := Lib.hid (And.intro hst hbs)
          clear hst hbs hhk hhn hval hcap hc256 hyc hc hsk hmk
          go_wp2
          refine ⟨?rel, ?measure⟩
          case rel => exact ⟨k + 1, by omega, by go_num, Lib.hid H1.out.2, .inr ⟨g, rfl, hg, Lib.hid H1.out.1⟩⟩
          case measure => simp [intOf]; omega
      · have hnext : (u3 = .slice none 0 0 ∧ Hid (∀ j, j < k + 1 → ¬ capital (l.getD j 0).toNat)) ∨ (∃ g, u3 = .slice (some ⟨g, 0, none⟩) s.size s.size ∧ w.heap.size ≤ g ∧ Hid (BytesAt wr g s.size (half l (k + 1)))) := by
          rcases hcase with ⟨h1, HNO⟩ | ⟨g, h1, hg, HAT⟩
          · refine .inl ⟨h1, Lib.hid (fun j hj => ?_)⟩
            by_cases e : j = k
            · subst e; rw [hc]; exact hcap
            · exact HNO.out j (by omega)
          · refine .inr ⟨g, h1, hg, Lib.hid ⟨fun j hj => ?_, HAT.out.free⟩⟩
            by_cases e : j = k
            · subst e; rw [HAT.out.cell j hj, hhk, hhn, lowB, if_neg hcap]
            · rw [HAT.out.cell j hj, half_next e]
        have HNX := Lib.hid hnext
        have hcs : ¬ (65 ≤ y ∧ y ≤ 90) := by omega
        clear hnext hcase hhk hhn hcap hc256 hyc hc hsk hmk
        by_cases h65 : 65 ≤ y
        · have d1 : decide ((65 : Int) ≤ y) = true := by simp; omega
          have d2 : decide (y ≤ (90 : Int)) = false := by simp; omega
          clear hcs h65
          go_wp2
          refine ⟨?rel, ?measure⟩
          case rel => exact ⟨k + 1, by omega, by go_num, HB, HNX.out⟩
          case measure => simp [intOf]; omega
        · have d1 : decide ((65 : Int) ≤ y) = false := by simp; omega
          clear hcs h65
          go_wp2
          refine ⟨?rel, ?measure⟩
          case rel => exact ⟨k + 1, by omega, by go_num, HB, HNX.out⟩
          case measure => simp [intOf]; omega
    · obtain rfl : k = s.size := by omega
      have g0 : decide ((s.size : Int) < (s.size : Int)) = false := by simp
      rcases hcase with ⟨rfl, HNO⟩ | ⟨g, rfl, hg, HAT⟩
      · have hz := HSM.out HNO.out
        have HZ := Lib.hid hz
        clear hz hmk
        go_wp2
        go_ret
        exact ⟨by rw [HZ.out]; rfl, HB⟩
      · have hbk := HBK.out wr g HAT.out
        have HLS := Lib.hid (show (⟨(l.map lowB).toArray⟩ : ByteArray) = lowS s by unfold lowS; rw [HL.out])
        clear hmk
        go_wp2
        go_ret
        exact ⟨by rw [← HLS.out]; rfl, HB⟩
end Go.Proofs.YtoanofdomhnafaaGreatDoor
