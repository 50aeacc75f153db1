/- cascadia.escape: it writes the signs escaped. -/
import Derived.Test.YtbikpalfhlgnoaaDoorSigned
import Derived.Test.YtbikpalfhlgnoaaDoorStrPost
import Derived.Lib.SlBytesConst
import Derived.BigGuardPart
namespace Go.Proofs.YtbikpalfhlgnoaaDoor
open Go.RowKit
set_option linter.unusedVariables false
set_option linter.unusedSimpArgs false

theorem byte_info : (Tryd.prog.info? 5).map (fun i => (i.zero, i.size, i.bytes)) = some (some (.int .u8 0), 1, 1) := by kernel_rfl

/-- A slice of bytes, of the call's own. -/
def OwnB (w : World) (B : Nat) (v : Value) (l : List UInt8) : Prop := w.ownsRow B 5 1 v l.length (l.map fun b => .int .u8 (b.toNat : Int))

/-- The signs, as the code lists them. -/
def elc (m : Nat) : Int := ([44, 33, 34, 35, 36, 37, 38, 39, 40, 41, 42, 43, 32, 45, 46, 47, 58, 59, 60, 61, 62, 63, 64, 91, 92, 93, 94, 96, 123, 124, 125, 126] : List Int).getD m 0
/-- How many of the first m of them a byte is. -/
def cntF (c : Int) : Nat → Nat
  | 0 => 0
  | m + 1 => cntF c m + (if c = elc m then 1 else 0)

theorem cntF_le (c : Int) : ∀ m, cntF c m ≤ m
  | 0 => Nat.le_refl _
  | m + 1 => by
    have := cntF_le c m
    simp only [cntF]
    split <;> omega

theorem cnt_all : ∀ n : Fin 256, cntF ((n.val : Nat) : Int) 32 = if isSign ((n.val : Nat) : Int) = true then 1 else 0 := by decide +kernel

theorem cnt_sign (b : UInt8) : cntF (b.toNat : Int) 32 = if isSign (b.toNat : Int) = true then 1 else 0 := cnt_all ⟨b.toNat, b.toNat_lt⟩

def signRow : Obj := .cells #[.int .u8 44, .int .u8 33, .int .u8 34, .int .u8 35, .int .u8 36, .int .u8 37, .int .u8 38, .int .u8 39, .int .u8 40, .int .u8 41, .int .u8 42, .int .u8 43, .int .u8 32, .int .u8 45, .int .u8 46, .int .u8 47, .int .u8 58, .int .u8 59, .int .u8 60, .int .u8 61, .int .u8 62, .int .u8 63, .int .u8 64, .int .u8 91, .int .u8 92, .int .u8 93, .int .u8 94, .int .u8 96, .int .u8 123, .int .u8 124, .int .u8 125, .int .u8 126] 5 (32, 33)

theorem signRow_cell {w : World} {g m : Nat} (h : w.heap[g]? = some signRow) (hm : m < 32) : w.cell? ⟨g, m, none⟩ = some (.int .u8 (elc m)) := by
  have hl : m < ([44, 33, 34, 35, 36, 37, 38, 39, 40, 41, 42, 43, 32, 45, 46, 47, 58, 59, 60, 61, 62, 63, 64, 91, 92, 93, 94, 96, 123, 124, 125, 126] : List Int).length := by simpa using hm
  simp only [World.cell?, h, signRow]
  show ((([44, 33, 34, 35, 36, 37, 38, 39, 40, 41, 42, 43, 32, 45, 46, 47, 58, 59, 60, 61, 62, 63, 64, 91, 92, 93, 94, 96, 123, 124, 125, 126] : List Int).map (Value.int .u8)).toArray)[m]? = _
  rw [List.getElem?_toArray, List.getElem?_map, List.getElem?_eq_getElem hl]
  simp only [elc, List.getD_eq_getElem?_getD, List.getElem?_eq_getElem hl]
  rfl

/-- The row of the signs is not the slice's own. -/
theorem own_ne {w : World} {B g : Nat} {v : Value} {l : List UInt8} (h : w.heap[g]? = some signRow) (ho : OwnB w B v l) : v.ownBlock ≠ some g := by
  rcases ho.2 with ⟨rfl, _⟩ | ⟨g', cap, cur, rfl, _, hg, _⟩
  · intro h'; cases h'
  · intro h'
    simp only [Value.ownBlock, Option.some.injEq] at h'
    subst h'
    rw [h] at hg
    simp [signRow] at hg

theorem own_snoc {w : World} {B : Nat} {v : Value} {l : List UInt8} {b : UInt8} (h : w.ownsRow B 5 1 v (l.length + 1) ((l.map fun b => .int .u8 (b.toNat : Int)) ++ [.int .u8 (b.toNat : Int)])) : OwnB w B v (l ++ [b]) := by
  unfold OwnB
  simpa using h

set_option maxRecDepth 100000 in
set_option maxHeartbeats 8000000 in
theorem escape_any (s : ByteArray) (w : World) (hs : s.size ≤ 1000) : Calls Tryd.prog 35 #[.string s] w (StrPost (bs (sg s s.size)) w) := by
  obtain ⟨i0, hi, hz0, hz1, hz2⟩ := info_parts byte_info
  go_enter Tryd.func35, Tryd.ntmps35
  go_wp2
  go_loopw [3, 4] (fun x i wr => ∃ k : Nat, i = .int .i64 (k : Int) ∧ k ≤ s.size ∧ OwnB wr w.heap.size x (sg s k) ∧ Below w.heap.size w wr) (fun _ i _ => s.size - (intOf i).toNat)
  case atStart => exact ⟨0, by go_num, by omega, World.ownsRow_nil _ _ _ _, Below.refl _ _⟩
  case round =>
    obtain ⟨k, rfl, hk, hown, hb⟩ := hrel
    by_cases hlt : k < s.size
    · have g0 : decide ((k : Int) < (s.size : Int)) = true := by simp [hlt]
      have g0n : decide (k < s.size) = true := by simp [hlt]
      have hcv := Lib.run_convert_bytes_const (P := Tryd.prog) wr 61 5 #[.int .u8 44, .int .u8 33, .int .u8 34, .int .u8 35, .int .u8 36, .int .u8 37, .int .u8 38, .int .u8 39, .int .u8 40, .int .u8 41, .int .u8 42, .int .u8 43, .int .u8 32, .int .u8 45, .int .u8 46, .int .u8 47, .int .u8 58, .int .u8 59, .int .u8 60, .int .u8 61, .int .u8 62, .int .u8 63, .int .u8 64, .int .u8 91, .int .u8 92, .int .u8 93, .int .u8 94, .int .u8 96, .int .u8 123, .int .u8 124, .int .u8 125, .int .u8 126] 32 32 Tryd.underlying61 Tryd.underlying5
      have hrow : (wr.alloc signRow).heap[wr.heap.size]? = some signRow := by
        show (wr.heap.push signRow)[wr.heap.size]? = _
        simp
      have hown1 : OwnB (wr.alloc signRow) w.heap.size u3 (sg s k) := World.ownsRow.alloc hown _
      have hb1 : Below w.heap.size w (wr.alloc signRow) := hb.alloc hb.size _
      change _ = Result.ok _ (wr.alloc signRow) at hcv
      obtain ⟨w1, hw1⟩ : ∃ w1, wr.alloc signRow = w1 := ⟨_, rfl⟩
      rw [hw1] at hcv hrow hown1 hb1
      have HW1 := Lib.hid hw1
      have HROW := Lib.hid hrow
      have HOWN := Lib.hid hown1
      have HB := Lib.hid hb1
      have hg0 : wr.heap.size < w1.heap.size := by
        obtain ⟨h, _⟩ := Array.getElem?_eq_some_iff.1 hrow
        exact h
      clear hw1 hrow hown1 hb1 hown hb
      have hsl := sg_len s k
      go_wp2_with fail
      go_loopw [3, 16] (fun x i wq => ∃ m : Nat, i = .int .i64 (m : Int) ∧ m ≤ 32 ∧ OwnB wq w.heap.size x (sg s k ++ List.replicate (cntF (s[k].toNat : Int) m) 92) ∧ Below w.heap.size w wq ∧ wq.heap[wr.heap.size]? = some signRow) (fun _ i _ => 32 - (intOf i).toNat)
      case atStart => exact ⟨0, by go_num, by omega, by simpa [cntF] using HOWN.out, HB.out, HROW.out⟩
      case round =>
        obtain ⟨m, rfl, hm, hownq, hbq, hrowq⟩ := hrel
        have hcl := cntF_le (s[k].toNat : Int) m
        obtain ⟨lq, hlq⟩ : ∃ lq, sg s k ++ List.replicate (cntF (s[k].toNat : Int) m) 92 = lq := ⟨_, rfl⟩
        have hll : lq.length ≤ 2100 := by rw [← hlq, List.length_append, List.length_replicate]; omega
        rw [hlq] at hownq
        have HLQ := Lib.hid hlq
        have hownq' : wr.ownsRow w.heap.size 5 1 u3 lq.length (lq.map fun b => .int .u8 (b.toNat : Int)) := hownq
        have HOQ := Lib.hid hownq
        have HBQ := Lib.hid hbq
        have HRQ := Lib.hid hrowq
        clear hownq hbq hrowq hlq hcl
        by_cases hm32 : m < 32
        · have hce := signRow_cell HRQ.out hm32
          obtain ⟨e, he⟩ : ∃ e, elc m = e := ⟨_, rfl⟩
          rw [he] at hce
          have g1 : decide ((m : Int) < 32) = true := by simp; omega
          by_cases hec : (s[k].toNat : Int) = e
          · have g2 : ((s[k].toNat : Int) == e) = true := by simp [hec]
            have HEC := Lib.hid (And.intro he hec)
            clear he hec
            go_wp2_with (at_builtin; refine wpList_append_own _ rfl _ _ 61 rfl w.heap.size 5 i0 (.int .u8 0) 1 1 Tryd.underlying61 hi hz0 hz1 hz2 rfl (by decide) _ _ _ rfl (hownq'.alloc _) ⟨wr.heap.size, 0, none⟩ 1 1 [.int .u8 92] rfl rfl ?c1A ?c2A ?c3A ?c4A ?c5A ?_)
            case c1A =>
              intro j u hj
              match j, hj with
              | 0, hj => simp at hj; subst hj; simp [Addr.add]
            case c2A => first | rfl | (intro u hu; simp at hu; subst hu; rfl)
            case c3A => unfold maxLen; omega
            case c4A => omega
            case c5A => have := HBQ.out.size; simp; omega
            intro v' w3 hown3 hgrow _
            have hbel3 : Below w.heap.size w w3 := (HBQ.out.alloc HBQ.out.size _).grown hgrow (by have := HBQ.out.size; simp; omega) (fun q hq => (World.ownsRow.lt hownq' q hq).1)
            have hne := own_ne HRQ.out HOQ.out
            have hgr := hgrow.block _ (by have := (Array.getElem?_eq_some_iff.1 HRQ.out).1; simp; omega) (fun h' => hne h'.symm)
            have hr3 : w3.heap[_]? = some signRow := hgr.trans (by have hlt := (Array.getElem?_eq_some_iff.1 HRQ.out).1; rw [Below.heap_alloc _ _ _ hlt]; exact HRQ.out)
            have ho3 := own_snoc (b := 92) hown3
            have H3 := Lib.hid (And.intro ho3 (And.intro hbel3 hr3))
            clear hown3 hgrow hbel3 hne hgr hr3 ho3 hownq'
            go_wp2
            go_roundw
            case rel => exact ⟨m + 1, by go_num, by omega, by
              have hc : cntF (s[k].toNat : Int) (m + 1) = cntF (s[k].toNat : Int) m + 1 := by simp only [cntF]; rw [HEC.out.1, if_pos HEC.out.2]
              rw [hc, List.replicate_succ', ← List.append_assoc, HLQ.out]
              exact H3.out.1, H3.out.2.1, H3.out.2.2⟩
            case measure => simp [intOf]; omega
          · have g2 : ((s[k].toNat : Int) == e) = false := by simp [hec]
            have HEC := Lib.hid (And.intro he hec)
            clear he hec
            go_wp2
            go_roundw
            case rel => exact ⟨m + 1, by go_num, by omega, by
              have hc : cntF (s[k].toNat : Int) (m + 1) = cntF (s[k].toNat : Int) m := by simp only [cntF]; rw [HEC.out.1, if_neg HEC.out.2]; rfl
              rw [hc, HLQ.out]
              exact HOQ.out, HBQ.out, HRQ.out⟩
            case measure => simp [intOf]; omega
        · obtain rfl : m = 32 := by omega
          have g1 : decide (((32 : Nat) : Int) < 32) = false := by simp
          go_wp2_with (at_builtin; refine wpList_append_own _ rfl _ _ 61 rfl w.heap.size 5 i0 (.int .u8 0) 1 1 Tryd.underlying61 hi hz0 hz1 hz2 rfl (by decide) _ _ _ rfl (hownq'.alloc _) ⟨wr.heap.size, 0, none⟩ 1 1 [.int .u8 (s[k].toNat : Int)] rfl rfl ?c1B ?c2B ?c3B ?c4B ?c5B ?_)
          case c1B =>
            intro j u hj
            match j, hj with
            | 0, hj => simp at hj; subst hj; simp [Addr.add]
          case c2B => first | rfl | (intro u hu; simp at hu; subst hu; rfl)
          case c3B => unfold maxLen; omega
          case c4B => omega
          case c5B => have := HBQ.out.size; simp; omega
          intro v' w3 hown3 hgrow _
          have hbel3 : Below w.heap.size w w3 := (HBQ.out.alloc HBQ.out.size _).grown hgrow (by have := HBQ.out.size; simp; omega) (fun q hq => (World.ownsRow.lt hownq' q hq).1)
          have ho3 := own_snoc (b := s[k]) hown3
          have H3 := Lib.hid (And.intro ho3 hbel3)
          clear hown3 hgrow hbel3 ho3 hownq'
          have hsg : sg s (k + 1) = lq ++ [s[k]] := by
            rw [← HLQ.out, cnt_sign]
            simp only [sg, chunk, nx_lt hlt, hlt, dif_pos, List.append_assoc]
            split <;> simp
          have HSG := Lib.hid hsg
          clear hsg
          go_wp2
          exact ⟨⟨k + 1, by go_num, by omega, by rw [HSG.out]; exact H3.out.1, H3.out.2⟩, by simp [intOf]; omega⟩
    · have g0 : decide ((k : Int) < (s.size : Int)) = false := by simp; omega
      have g0n : decide (k < s.size) = false := by simp; omega
      obtain rfl : k = s.size := by omega
      rcases hown.2 with ⟨rfl, h0⟩ | ⟨g, cap, cur, rfl, _, hg, hcap, hmax, hcur, htake⟩
      · have hcv := run_convert_bytes_string (P := Tryd.prog) wr 61 9 5 none 0 0 Tryd.underlying61 Tryd.underlying5 Tryd.underlying9
        have hl : sg s s.size = [] := List.length_eq_zero_iff.1 h0
        have hcv' : (convert 61 9 (.slice none 0 0)).run Tryd.prog wr = .ok (.string ByteArray.empty) wr := by rw [hcv]; rfl
        have HL := Lib.hid (And.intro hl hb)
        clear hcv hl hb hown h0
        go_wp2_with fail
        go_ret
        exact ⟨by rw [HL.out.1]; rfl, HL.out.2⟩
      · have hcv := run_convert_bytes_back (P := Tryd.prog) wr 61 9 5 ⟨g, 0, none⟩ cap (sg s s.size) Tryd.underlying61 Tryd.underlying5 Tryd.underlying9 (fun j hj => hown.cells (g := g) rfl j _ (by simp [hj]))
        have HB := Lib.hid hb
        clear hown hg htake hcur hmax hcap hb
        go_wp2_with fail
        go_ret
        exact ⟨rfl, HB.out⟩

end Go.Proofs.YtbikpalfhlgnoaaDoor
