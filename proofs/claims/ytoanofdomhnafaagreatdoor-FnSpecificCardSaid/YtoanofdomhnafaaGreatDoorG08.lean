/- Parts of a proof: SpLow. -/
import Derived.Test.YtoanofdomhnafaaGreatDoorG07
import Derived.Laws.EntriesVeiled
set_option linter.unusedVariables false
set_option linter.unusedSimpArgs false
namespace Go.Proofs.YtoanofdomhnafaaGreatDoor
open Go.RowKit
def lowB (b : UInt8) : UInt8 := if 65 ≤ b.toNat ∧ b.toNat ≤ 90 then UInt8.ofNat (b.toNat + 32) else b
/-- The bytes, the first k of them turned. -/
def half (l : List UInt8) (k j : Nat) : UInt8 := if j < k then lowB (l.getD j 0) else l.getD j 0
theorem lowB_cap {b : UInt8} (h : 65 ≤ b.toNat ∧ b.toNat ≤ 90) : (lowB b).toNat = b.toNat + 32 := by
  unfold lowB
  rw [if_pos h, UInt8.toNat_ofNat']
  omega
theorem noCap_of {l : List UInt8} (h : l.map lowB = l) : NoCap l := by
  intro j hj hc
  have h1 : (l.map lowB).getD j 0 = l.getD j 0 := by rw [h]
  rw [List.getD_eq_getElem?_getD, List.getElem?_map, List.getElem?_eq_getElem hj] at h1
  have h2 : l.getD j 0 = l[j] := by rw [List.getD_eq_getElem?_getD, List.getElem?_eq_getElem hj]; rfl
  rw [h2] at h1 hc
  simp only [Option.map_some, Option.getD_some] at h1
  have h3 := lowB_cap hc
  rw [h1] at h3
  omega
/-- Some text; the same one only of a text without capital letters. -/
def SmallPost (s : ByteArray) (w : World) (e : Ending) (w' : World) : Prop := ∃ r : ByteArray, e = .returned (.string r) ∧ (r = s → NoCap s.data.toList) ∧ Below w.heap.size w w'
/-- A row of bytes of the call's own. -/
structure BytesAt (w : World) (b n : Nat) (f : Nat → UInt8) : Prop where
  cell : ∀ j, j < n → w.cell? ⟨b, j, none⟩ = some (.int .u8 ((f j).toNat : Int))
  free : ∀ j, j < n → w.frozen? ⟨b, j, none⟩ = false
theorem BytesAt.set {w : World} {b n : Nat} {f : Nat → UInt8} (h : BytesAt w b n f) {k : Nat} (hk : k < n) {g : Nat → UInt8} {v : Value} (hv : v = .int .u8 ((g k).toNat : Int)) (hg : ∀ j, j ≠ k → g j = f j) : BytesAt (w.setCell ⟨b, k, none⟩ v) b n g := by
  constructor
  · intro j hj
    by_cases e : j = k
    · subst e; rw [World.cell?_setCell_same _ _ _ (h.cell j hj), hv]
    · rw [World.cell?_setCell_other _ _ _ _ (by intro h; cases h; exact e rfl), h.cell j hj, hg j e]
  · intro j hj
    rw [World.frozen?_setCell]
    exact h.free j hj
theorem half_next {l : List UInt8} {k j : Nat} (h : j ≠ k) : half l (k + 1) j = half l k j := by
  unfold half
  by_cases h1 : j < k
  · rw [if_pos h1, if_pos (by omega)]
  · rw [if_neg h1, if_neg (by omega)]
set_option maxRecDepth 100000 in
set_option maxHeartbeats 1000000 in
theorem specLower_any (s : ByteArray) (w : World) (hs : s.size ≤ 4611686018427387904) :
    Calls Tryz.prog 28 #[.string s] w (SmallPost s w) := by
  have hconv := Lib.run_convert_string_bytes (P := Tryz.prog) w 9 68 5 s Tryz.underlying9 Tryz.underlying68 Tryz.underlying5
  have hll : s.data.toList.length = s.size := by rw [Array.length_toList]; rfl
  have hat : BytesAt (Lib.bytesWorld w 5 s) w.heap.size s.size (half s.data.toList 0) := ⟨fun j hj => by
    rw [Lib.bytesWorld_cell w _ s j hj]; simp [half], fun j hj => frozen_bytesWorld w _ s j hj⟩
  have hback := fun (w' : World) (h : BytesAt w' w.heap.size s.size (half s.data.toList s.size)) => run_convert_bytes_back (P := Tryz.prog) w' 68 9 5 ⟨w.heap.size, 0, none⟩ (grownCap w s.size 0 5) (s.data.toList.map lowB) Tryz.underlying68 Tryz.underlying5 Tryz.underlying9 (fun j hj => by
    rw [List.length_map] at hj
    rw [add_at, Nat.zero_add, h.cell j (by omega), half, if_pos (by omega), List.getD_eq_getElem?_getD, List.getElem?_eq_getElem hj, List.getElem_map]
    rfl)
  simp only [List.length_map, hll] at hback
  have hnc := noCap_of (l := s.data.toList)
  have hb : Below w.heap.size w (Lib.bytesWorld w 5 s) := Go.Joins.below_bytesWorld _ w _ s (Nat.le_refl _)
  obtain ⟨w1, hw1⟩ : ∃ w1, Lib.bytesWorld w 5 s = w1 := ⟨_, rfl⟩
  obtain ⟨cap, hcap⟩ : ∃ c, grownCap w s.size 0 5 = c := ⟨_, rfl⟩
  rw [hw1] at hconv hat hb
  rw [hcap] at hconv hback
  have hres : ∀ r : ByteArray, r = ⟨(s.data.toList.map lowB).toArray⟩ → r = s → NoCap s.data.toList := fun r h1 h2 => hnc (by
    have : s.data.toList = (⟨(s.data.toList.map lowB).toArray⟩ : ByteArray).data.toList := by rw [← h1, h2]
    simpa using this.symm)
  have HRES := Lib.hid hres
  have HAT := Lib.hid hat
  have HBK := Lib.hid hback
  have HB := Lib.hid hb
  clear hat hb hw1 hcap hback hres hnc hll
  obtain ⟨l, hl⟩ : ∃ l, s.data.toList = l := ⟨_, rfl⟩
  rw [hl] at HRES HAT HBK
  have HL := Lib.hid hl
  clear hl
  go_enter Tryz.func28, Tryz.ntmps28
  go_wp2
  go_loopw [4] (fun i wr => ∃ k : Nat, k ≤ s.size ∧ i = .int .i64 k ∧ BytesAt wr w.heap.size s.size (half l k) ∧ Below w.heap.size w wr) (fun i _ => s.size - (intOf i).toNat)
  case atStart => exact ⟨0, by omega, by go_num, HAT.out, HB.out⟩
  case round =>
    obtain ⟨k, hk, rfl, hat, hbel⟩ := hrel
    by_cases hlt : k < s.size
    · have ck := hat.cell k hlt
      have fk := hat.free k hlt
      have hkI : (k : Int) < (s.size : Int) := by omega
      have hhk : half l k k = l.getD k 0 := by unfold half; rw [if_neg (by omega)]
      have hhn : half l (k + 1) k = lowB (l.getD k 0) := by unfold half; rw [if_pos (by omega)]
      rw [hhk] at ck
      obtain ⟨c, hc⟩ : ∃ c, l.getD k 0 = c := ⟨_, rfl⟩
      rw [hc] at ck hhk hhn
      have hc256 := c.toNat_lt
      by_cases hcap : 65 ≤ c.toNat ∧ c.toNat ≤ 90
      · have hst : BytesAt (wr.setCell ⟨w.heap.size, k, none⟩ (.int .u8 ((c.toNat : Int) + 32))) w.heap.size s.size (half l (k + 1)) := hat.set hlt (by rw [hhn, lowB_cap hcap]; simp) (fun j hj => half_next hj)
        have hbs : Below w.heap.size w (wr.setCell ⟨w.heap.size, k, none⟩ (.int .u8 ((c.toNat : Int) + 32))) := hbel.setCell (Nat.le_refl _) _
        obtain ⟨y, hy⟩ : ∃ y : Int, (c.toNat : Int) = y := ⟨_, rfl⟩
        rw [hy] at ck hst hbs
        have d1 : decide ((65 : Int) ≤ y) = true := by simp; omega
        have d2 : decide (y ≤ (90 : Int)) = true := by simp; omega
        have hsum : (y + 32) % 256 = y + 32 := by omega
        have H1 := Lib.hid (And.intro hst hbs)
        have hy1 : 65 ≤ y := by omega
        have hy2 : y ≤ 90 := by omega
        clear hst hbs hat hbel hc hhk hhn hcap hc256 hy
        go_wp2
        refine ⟨?rel, ?measure⟩
        case rel => exact ⟨k + 1, by omega, by go_num, H1.out.1, H1.out.2⟩
        case measure => simp [intOf]; omega
      · have hst : BytesAt wr w.heap.size s.size (half l (k + 1)) := ⟨fun j hj => by
          by_cases e : j = k
          · subst e; rw [hat.cell j hj, hhk, hhn, lowB, if_neg hcap]
          · rw [hat.cell j hj, half_next e], hat.free⟩
        have H1 := Lib.hid (And.intro hst hbel)
        obtain ⟨y, hy⟩ : ∃ y : Int, (c.toNat : Int) = y := ⟨_, rfl⟩
        rw [hy] at ck
        clear hst hat hbel hhk hhn hc
        by_cases h65 : 65 ≤ y
        · have d1 : decide ((65 : Int) ≤ y) = true := by simp; omega
          have d2 : decide (y ≤ (90 : Int)) = false := by simp; omega
          clear hcap hc256 hy h65
          go_wp2
          refine ⟨?rel, ?measure⟩
          case rel => exact ⟨k + 1, by omega, by go_num, H1.out.1, H1.out.2⟩
          case measure => simp [intOf]; omega
        · have d1 : decide ((65 : Int) ≤ y) = false := by simp; omega
          clear hcap hc256 hy h65
          go_wp2
          refine ⟨?rel, ?measure⟩
          case rel => exact ⟨k + 1, by omega, by go_num, H1.out.1, H1.out.2⟩
          case measure => simp [intOf]; omega
    · obtain rfl : k = s.size := by omega
      have hbk := HBK.out wr hat
      have HBL := Lib.hid hbel
      clear hat hbel
      go_wp2
      go_ret
      exact ⟨_, rfl, fun h => by rw [HL.out]; exact HRES.out _ rfl h, HBL.out⟩
set_option maxRecDepth 100000 in
set_option maxHeartbeats 1000000 in
theorem zzLower_any (s : ByteArray) (w : World) (hs : s.size ≤ 4611686018427387904) :
    Calls Tryz.prog 58 #[.string s] w (SmallPost s w) := by
  have hconv := Lib.run_convert_string_bytes (P := Tryz.prog) w 9 68 5 s Tryz.underlying9 Tryz.underlying68 Tryz.underlying5
  have hll : s.data.toList.length = s.size := by rw [Array.length_toList]; rfl
  have hat : BytesAt (Lib.bytesWorld w 5 s) w.heap.size s.size (half s.data.toList 0) := ⟨fun j hj => by
    rw [Lib.bytesWorld_cell w _ s j hj]; simp [half], fun j hj => frozen_bytesWorld w _ s j hj⟩
  have hback := fun (w' : World) (h : BytesAt w' w.heap.size s.size (half s.data.toList s.size)) => run_convert_bytes_back (P := Tryz.prog) w' 68 9 5 ⟨w.heap.size, 0, none⟩ (grownCap w s.size 0 5) (s.data.toList.map lowB) Tryz.underlying68 Tryz.underlying5 Tryz.underlying9 (fun j hj => by
    rw [List.length_map] at hj
    rw [add_at, Nat.zero_add, h.cell j (by omega), half, if_pos (by omega), List.getD_eq_getElem?_getD, List.getElem?_eq_getElem hj, List.getElem_map]
    rfl)
  simp only [List.length_map, hll] at hback
  have hnc := noCap_of (l := s.data.toList)
  have hb : Below w.heap.size w (Lib.bytesWorld w 5 s) := Go.Joins.below_bytesWorld _ w _ s (Nat.le_refl _)
  obtain ⟨w1, hw1⟩ : ∃ w1, Lib.bytesWorld w 5 s = w1 := ⟨_, rfl⟩
  obtain ⟨cap, hcap⟩ : ∃ c, grownCap w s.size 0 5 = c := ⟨_, rfl⟩
  rw [hw1] at hconv hat hb
  rw [hcap] at hconv hback
  have hres : ∀ r : ByteArray, r = ⟨(s.data.toList.map lowB).toArray⟩ → r = s → NoCap s.data.toList := fun r h1 h2 => hnc (by
    have : s.data.toList = (⟨(s.data.toList.map lowB).toArray⟩ : ByteArray).data.toList := by rw [← h1, h2]
    simpa using this.symm)
  have HRES := Lib.hid hres
  have HAT := Lib.hid hat
  have HBK := Lib.hid hback
  have HB := Lib.hid hb
  clear hat hb hw1 hcap hback hres hnc hll
  obtain ⟨l, hl⟩ : ∃ l, s.data.toList = l := ⟨_, rfl⟩
  rw [hl] at HRES HAT HBK
  have HL := Lib.hid hl
  clear hl
  go_enter Tryz.func58, Tryz.ntmps58
  go_wp2
  go_loopw [10] (fun i wr => ∃ k : Nat, k ≤ s.size ∧ i = .int .i64 k ∧ BytesAt wr w.heap.size s.size (half l k) ∧ Below w.heap.size w wr) (fun i _ => s.size - (intOf i).toNat)
  case atStart => exact ⟨0, by omega, by go_num, HAT.out, HB.out⟩
  case round =>
    obtain ⟨k, hk, rfl, hat, hbel⟩ := hrel
    by_cases hlt : k < s.size
    · have ck := hat.cell k hlt
      have fk := hat.free k hlt
      have hkI : (k : Int) < (s.size : Int) := by omega
      have hhk : half l k k = l.getD k 0 := by unfold half; rw [if_neg (by omega)]
      have hhn : half l (k + 1) k = lowB (l.getD k 0) := by unfold half; rw [if_pos (by omega)]
      rw [hhk] at ck
      obtain ⟨c, hc⟩ : ∃ c, l.getD k 0 = c := ⟨_, rfl⟩
      rw [hc] at ck hhk hhn
      have hc256 := c.toNat_lt
      by_cases hcap : 65 ≤ c.toNat ∧ c.toNat ≤ 90
      · have hst : BytesAt (wr.setCell ⟨w.heap.size, k, none⟩ (.int .u8 ((c.toNat : Int) + 32))) w.heap.size s.size (half l (k + 1)) := hat.set hlt (by rw [hhn, lowB_cap hcap]; simp) (fun j hj => half_next hj)
        have hbs : Below w.heap.size w (wr.setCell ⟨w.heap.size, k, none⟩ (.int .u8 ((c.toNat : Int) + 32))) := hbel.setCell (Nat.le_refl _) _
        obtain ⟨y, hy⟩ : ∃ y : Int, (c.toNat : Int) = y := ⟨_, rfl⟩
        rw [hy] at ck hst hbs
        have d1 : decide ((65 : Int) ≤ y) = true := by simp; omega
        have d2 : decide (y ≤ (90 : Int)) = true := by simp; omega
        have hsum : (y + 32) % 256 = y + 32 := by omega
        have hsum2 : (y + 97) % 256 = y + 97 := by omega
        have hsum3 : y + 97 - 65 = y + 32 := by omega
        have hsum4 : (y + 97 - 65) % 256 = y + 32 := by omega
        have H1 := Lib.hid (And.intro hst hbs)
        have hy1 : 65 ≤ y := by omega
        have hy2 : y ≤ 90 := by omega
        clear hst hbs hat hbel hc hhk hhn hcap hc256 hy
        go_wp2
        refine ⟨?rel, ?measure⟩
        case rel => exact ⟨k + 1, by omega, by go_num, H1.out.1, H1.out.2⟩
        case measure => simp [intOf]; omega
      · have hst : BytesAt wr w.heap.size s.size (half l (k + 1)) := ⟨fun j hj => by
          by_cases e : j = k
          · subst e; rw [hat.cell j hj, hhk, hhn, lowB, if_neg hcap]
          · rw [hat.cell j hj, half_next e], hat.free⟩
        have H1 := Lib.hid (And.intro hst hbel)
        obtain ⟨y, hy⟩ : ∃ y : Int, (c.toNat : Int) = y := ⟨_, rfl⟩
        rw [hy] at ck
        clear hst hat hbel hhk hhn hc
        by_cases h65 : 65 ≤ y
        · have d1 : decide ((65 : Int) ≤ y) = true := by simp; omega
          have d2 : decide (y ≤ (90 : Int)) = false := by simp; omega
          clear hcap hc256 hy h65
          go_wp2
          refine ⟨?rel, ?measure⟩
          case rel => exact ⟨k + 1, by omega, by go_num, H1.out.1, H1.out.2⟩
          case measure => simp [intOf]; omega
        · have d1 : decide ((65 : Int) ≤ y) = false := by simp; omega
          clear hcap hc256 hy h65
          go_wp2
          refine ⟨?rel, ?measure⟩
          case rel => exact ⟨k + 1, by omega, by go_num, H1.out.1, H1.out.2⟩
          case measure => simp [intOf]; omega
    · obtain rfl : k = s.size := by omega
      have hbk := HBK.out wr hat
      have HBL := Lib.hid hbel
      clear hat hbel
      go_wp2
      go_ret
      exact ⟨_, rfl, fun h => by rw [HL.out]; exact HRES.out _ rfl h, HBL.out⟩
end Go.Proofs.YtoanofdomhnafaaGreatDoor
