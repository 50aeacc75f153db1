/- goquery.zzClassTrim. -/
import Derived.Test.YtkdomegcacgpnaaGreatWl
import Derived.BigGuardPart
import Derived.Lib.ConvBytes
import Derived.Lib.SmallJoins
import Derived.Laws.IdiomStrings
namespace Go.Proofs.YtkdomegcacgpnaaGreat
open Go.RowKit
set_option linter.unusedVariables false
set_option linter.unusedSimpArgs false

theorem add_atB (b o j : Nat) : (⟨b, o, none⟩ : Addr).add j = ⟨b, o + j, none⟩ := by unfold Addr.add; split <;> simp_all

theorem frozen_bytesW (w : World) (e : TypeId) (s : ByteArray) (j : Nat) (hj : j < s.size) : (Lib.bytesWorld w e s).frozen? ⟨w.heap.size, j, none⟩ = false := by
  have h := Lib.bytesWorld_at_new w e s
  have hsz : s.size ≤ (Lib.bytesCells w e s).size := by
    unfold Lib.bytesCells
    rw [Array.size_append, Array.size_map]
    exact Nat.le_add_right _ _
  simp only [World.frozen?, h]
  simp
  omega

/-- A row of bytes of the call's own. -/
structure BytesRow (w : World) (b n : Nat) (f : Nat → UInt8) : Prop where
  cell : ∀ j, j < n → w.cell? ⟨b, j, none⟩ = some (.int .u8 ((f j).toNat : Int))
  free : ∀ j, j < n → w.frozen? ⟨b, j, none⟩ = false

theorem BytesRow.set {w : World} {b n : Nat} {f : Nat → UInt8} (h : BytesRow w b n f) {k : Nat} (hk : k < n) {g : Nat → UInt8} {v : Value} (hv : v = .int .u8 ((g k).toNat : Int)) (hg : ∀ j, j ≠ k → g j = f j) : BytesRow (w.setCell ⟨b, k, none⟩ v) b n g := by
  constructor
  · intro j hj
    by_cases e : j = k
    · subst e; rw [World.cell?_setCell_same _ _ _ (h.cell j hj), hv]
    · rw [World.cell?_setCell_other _ _ _ _ (by intro h; cases h; exact e rfl), h.cell j hj, hg j e]
  · intro j hj
    rw [World.frozen?_setCell]
    exact h.free j hj

/-- The first k bytes turned. -/
def trHalf (l : List UInt8) (k j : Nat) : UInt8 := if j < k then trB (l.getD j 0) else l.getD j 0

theorem trHalf_next {l : List UInt8} {k j : Nat} (h : j ≠ k) : trHalf l (k + 1) j = trHalf l k j := by
  unfold trHalf
  by_cases h1 : j < k
  · rw [if_pos h1, if_pos (by omega)]
  · rw [if_neg h1, if_neg (by omega)]

theorem u8_eq {c : UInt8} {n : Nat} (hn : n < 256) : (c = UInt8.ofNat n) ↔ c.toNat = n := by
  constructor
  · rintro rfl
    simp
    omega
  · intro h
    apply UInt8.toNat_inj.1
    rw [h]
    simp
    omega

def StrTo (l : List UInt8) (w : World) (e : Ending) (w' : World) : Prop := ∃ r : ByteArray, e = .returned (.string r) ∧ r.data.toList = l ∧ Hid (Below w.heap.size w w')

set_option maxRecDepth 100000 in
set_option maxHeartbeats 2000000 in
theorem classTrim_any (s : ByteArray) (w : World) (hs : s.size ≤ 4611686018427387904) :
    Calls Tryz.prog 125 #[.string s] w (StrTo (s.data.toList.map trB) w) := by
  have hconv := Lib.run_convert_string_bytes (P := Tryz.prog) w 9 154 5 s Tryz.underlying9 Tryz.underlying154 Tryz.underlying5
  have hll : s.data.toList.length = s.size := by rw [Array.length_toList]; rfl
  have hat : BytesRow (Lib.bytesWorld w 5 s) w.heap.size s.size (trHalf s.data.toList 0) := ⟨fun j hj => by
    rw [Lib.bytesWorld_cell w _ s j hj]; simp [trHalf], fun j hj => frozen_bytesW w _ s j hj⟩
  have hback := fun (w' : World) (h : BytesRow w' w.heap.size s.size (trHalf s.data.toList s.size)) => run_convert_bytes_back (P := Tryz.prog) w' 154 9 5 ⟨w.heap.size, 0, none⟩ (grownCap w s.size 0 5) (s.data.toList.map trB) Tryz.underlying154 Tryz.underlying5 Tryz.underlying9 (fun j hj => by
    rw [List.length_map] at hj
    rw [add_atB, Nat.zero_add, h.cell j (by omega), trHalf, if_pos (by omega), List.getD_eq_getElem?_getD, List.getElem?_eq_getElem hj, List.getElem_map]
    rfl)
  simp only [List.length_map, hll] at hback
  have hb : Below w.heap.size w (Lib.bytesWorld w 5 s) := Go.Joins.below_bytesWorld _ w _ s (Nat.le_refl _)
  obtain ⟨w1, hw1⟩ : ∃ w1, Lib.bytesWorld w 5 s = w1 := ⟨_, rfl⟩
  obtain ⟨cap, hcap⟩ : ∃ c, grownCap w s.size 0 5 = c := ⟨_, rfl⟩
  rw [hw1] at hconv hat hb
  rw [hcap] at hconv hback
  have HAT := Lib.hid hat
  have HBK := Lib.hid hback
  have HB := Lib.hid hb
  clear hat hb hw1 hcap hback hll
  obtain ⟨l, hl⟩ : ∃ l, s.data.toList = l := ⟨_, rfl⟩
  rw [hl] at HAT HBK ⊢
  have HL := Lib.hid hl
  clear hl
  go_enter Tryz.func125, Tryz.ntmps125
  go_wp2
  go_loopw [10] (fun i wr => ∃ k : Nat, k ≤ s.size ∧ i = .int .i64 k ∧ Hid (BytesRow wr w.heap.size s.size (trHalf l k)) ∧ Hid (Below w.heap.size w wr)) (fun i _ => s.size - (intOf i).toNat)
  case atStart => exact ⟨0, by omega, by go_num, HAT, HB⟩
  case round =>
    obtain ⟨k, hk, rfl, hat, hbel⟩ := hrel
    by_cases hlt : k < s.size
    · have ck := hat.out.cell k hlt
      have fk := hat.out.free k hlt
      have hkI : (k : Int) < (s.size : Int) := by omega
      have hhk : trHalf l k k = l.getD k 0 := by unfold trHalf; rw [if_neg (by omega)]
      have hhn : trHalf l (k + 1) k = trB (l.getD k 0) := by unfold trHalf; rw [if_pos (by omega)]
      rw [hhk] at ck
      obtain ⟨c, hc⟩ : ∃ c, l.getD k 0 = c := ⟨_, rfl⟩
      rw [hc] at ck hhk hhn
      by_cases hsp : c = 9 ∨ c = 13 ∨ c = 10
      · have hst : BytesRow (wr.setCell ⟨w.heap.size, k, none⟩ (.int .u8 32)) w.heap.size s.size (trHalf l (k + 1)) := hat.out.set hlt (by rw [hhn, trB, if_pos hsp]; rfl) (fun j hj => trHalf_next hj)
        have hbs : Below w.heap.size w (wr.setCell ⟨w.heap.size, k, none⟩ (.int .u8 32)) := hbel.out.setCell (Nat.le_refl _) _
        have H1 := Lib.hid hst
        have H2 := Lib.hid hbs
        clear hst hbs hat hbel hc hhk hhn
        rcases hsp with rfl | rfl | rfl
        all_goals
          simp only [show ((9 : UInt8).toNat : Int) = 9 from rfl, show ((13 : UInt8).toNat : Int) = 13 from rfl, show ((10 : UInt8).toNat : Int) = 10 from rfl] at ck
          go_wp2
          refine ⟨?rel, ?measure⟩
          case rel => exact ⟨k + 1, by omega, by go_num, H1, H2⟩
          case measure => simp [intOf]; omega
      · have hst : BytesRow wr w.heap.size s.size (trHalf l (k + 1)) := ⟨fun j hj => by
          by_cases e : j = k
          · subst e; rw [hat.out.cell j hj, hhk, hhn, trB, if_neg hsp]
          · rw [hat.out.cell j hj, trHalf_next e], hat.out.free⟩
        have H1 := Lib.hid hst
        have H2 := Lib.hid hbel.out
        have n9 : c.toNat ≠ 9 := fun e => hsp (.inl ((u8_eq (n := 9) (by decide)).2 e))
        have n13 : c.toNat ≠ 13 := fun e => hsp (.inr (.inl ((u8_eq (n := 13) (by decide)).2 e)))
        have n10 : c.toNat ≠ 10 := fun e => hsp (.inr (.inr ((u8_eq (n := 10) (by decide)).2 e)))
        obtain ⟨y, hy⟩ : ∃ y : Int, (c.toNat : Int) = y := ⟨_, rfl⟩
        rw [hy] at ck
        have d1 : (y == 9) = false := by simp; omega
        have d2 : (y == 13) = false := by simp; omega
        have d3 : (y == 10) = false := by simp; omega
        clear hst hat hbel hhk hhn hc hsp n9 n13 n10 hy
        go_wp2
        refine ⟨?rel, ?measure⟩
        case rel => exact ⟨k + 1, by omega, by go_num, H1, H2⟩
        case measure => simp [intOf]; omega
    · obtain rfl : k = s.size := by omega
      have hbk := HBK.out wr hat.out
      have HBL := Lib.hid hbel.out
      clear hat hbel hlt HBK HAT
      go_wp2
      go_ret
      exact ⟨_, rfl, by simp, HBL⟩

end Go.Proofs.YtkdomegcacgpnaaGreat
