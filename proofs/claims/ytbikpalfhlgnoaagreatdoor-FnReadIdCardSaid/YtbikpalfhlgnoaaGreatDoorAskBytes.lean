/- What spec's reader asks of bytes: escapeFollows, hexadecimal, IsSpace, here, taken; Encoded. -/
import Derived.Test.YtbikpalfhlgnoaaGreatDoorPoint
import Derived.Test.YtbikpalfhlgnoaaGreatDoorReader
import Derived.Test.YtbikpalfhlgnoaaGreatDoorParseEscape
import Derived.Laws.Cover4
namespace Go.Proofs.YtbikpalfhlgnoaaGreatDoor
open Go.RowKit
set_option linter.unusedVariables false
set_option linter.unusedSimpArgs false

/-- An escape begins at a place. -/
def escF (s : ByteArray) (p : Nat) : Bool := decide (p + 1 < s.size ∧ nx s p = 92 ∧ nx s (p + 1) ≠ 10 ∧ nx s (p + 1) ≠ 13 ∧ nx s (p + 1) ≠ 12)

def ValIs (v : Value) (w : World) (e : Ending) (w' : World) : Prop := e = .returned v ∧ w' = w

set_option maxRecDepth 100000 in
set_option maxHeartbeats 4000000 in
theorem follows_any (s : ByteArray) (k p B : Nat) (b u q : Bool) (w : World) (hs : s.size ≤ 4000) (hp : p ≤ s.size) (h : Rdr w B s k b u q) :
    Calls Tryz.prog 17 #[.pointer (some ⟨B, 0, none⟩), .int .i64 (p : Int)] w (ValIs (.bool (escF s p)) w) := by
  have c0 : w.cell? ⟨B, 0, none⟩ = some (.string s) := h.cell (i := 0) rfl
  clear h
  by_cases h1 : p + 1 < s.size
  · have hp0 : p < s.size := by omega
    have g1 : decide ((p : Int) + 1 < (s.size : Int)) = true := by simp; omega
    have x0 := nx_lt hp0
    have x1 := nx_lt h1
    by_cases h92 : nx s p = 92
    · have g2 : ((s[p].toNat : Int) == 92) = true := by rw [← x0, h92]; rfl
      have he : escF s p = decide (nx s (p + 1) ≠ 10 ∧ nx s (p + 1) ≠ 13 ∧ nx s (p + 1) ≠ 12) := by unfold escF; simp only [h1, h92, true_and]
      obtain ⟨c, hc⟩ : ∃ c, (s[p + 1].toNat : Int) = c := ⟨_, rfl⟩
      rw [x1, hc] at he
      have HE := Lib.hid he
      clear he h92 x0 x1
      go_enter Tryz.func17, Tryz.ntmps17
      go_wp2
      all_goals go_ret
      all_goals refine ⟨?_, rfl⟩
      all_goals rw [HE.out]
      all_goals first
        | (show Ending.returned (Value.bool _) = Ending.returned (Value.bool _); congr 2; simp_all; done)
        | simp_all
      all_goals (try (rw [Bool.eq_iff_iff]; simp))
    · have g2 : ((s[p].toNat : Int) == 92) = false := by rw [← x0]; simp [h92]
      have he : escF s p = false := by unfold escF; simp [h92]
      have HE := Lib.hid he
      clear he h92 x0 x1
      go_enter Tryz.func17, Tryz.ntmps17
      go_wp2
      go_ret
      exact ⟨by rw [HE.out]; rfl, rfl⟩
  · have g1 : decide ((p : Int) + 1 < (s.size : Int)) = false := by simp; omega
    have he : escF s p = false := by unfold escF; simp [h1]
    have HE := Lib.hid he
    clear he
    go_enter Tryz.func17, Tryz.ntmps17
    go_wp2
    go_ret
    exact ⟨by rw [HE.out]; rfl, rfl⟩

/-- hexadecimal's answer. -/
def hxi (n : Int) : Int := if isHx n = true then (hxv n : Int) else -1

set_option maxRecDepth 100000 in
set_option maxHeartbeats 4000000 in
theorem hexa_any (n : Int) (w : World) : Calls Tryz.prog 26 #[.int .u8 n] w (ValIs (.int .i64 (hxi n)) w) := by
  rcases (show n < 48 ∨ (48 ≤ n ∧ n ≤ 57) ∨ (57 < n ∧ n < 65) ∨ (65 ≤ n ∧ n ≤ 70) ∨ (70 < n ∧ n < 97) ∨ (97 ≤ n ∧ n ≤ 102) ∨ 102 < n by omega) with h | h | h | h | h | h | h
  · skip
    have b1 : decide ((48 : Int) ≤ n) = false := by simp; omega
    have b2 : decide (n ≤ (57 : Int)) = true := by simp; omega
    have b3 : decide ((97 : Int) ≤ n) = false := by simp; omega
    have b4 : decide (n ≤ (102 : Int)) = true := by simp; omega
    have b5 : decide ((65 : Int) ≤ n) = false := by simp; omega
    have b6 : decide (n ≤ (70 : Int)) = true := by simp; omega
    have he : hxi n = -1 := by
      have : isHx n = false := by simp only [isHx, decide_eq_false_iff_not]; omega
      unfold hxi
      rw [if_neg (by simp [this])]
    have HE := Lib.hid he
    clear he
    go_enter Tryz.func26, Tryz.ntmps26
    go_wp2
    go_ret
    exact ⟨by rw [HE.out]; rfl, rfl⟩
  · skip
    have b1 : decide ((48 : Int) ≤ n) = true := by simp; omega
    have b2 : decide (n ≤ (57 : Int)) = true := by simp; omega
    have b3 : decide ((97 : Int) ≤ n) = false := by simp; omega
    have b4 : decide (n ≤ (102 : Int)) = true := by simp; omega
    have b5 : decide ((65 : Int) ≤ n) = false := by simp; omega
    have b6 : decide (n ≤ (70 : Int)) = true := by simp; omega
    have he : hxi n = n - 48 := by
      have : isHx n = true := by simp only [isHx, decide_eq_true_eq]; omega
      unfold hxi
      rw [if_pos this]
      unfold hxv
      rw [if_pos (by omega)]
      omega
    have HE := Lib.hid he
    clear he
    go_enter Tryz.func26, Tryz.ntmps26
    go_wp2
    go_ret
    exact ⟨by rw [HE.out]; rfl, rfl⟩
  · skip
    have b1 : decide ((48 : Int) ≤ n) = true := by simp; omega
    have b2 : decide (n ≤ (57 : Int)) = false := by simp; omega
    have b3 : decide ((97 : Int) ≤ n) = false := by simp; omega
    have b4 : decide (n ≤ (102 : Int)) = true := by simp; omega
    have b5 : decide ((65 : Int) ≤ n) = false := by simp; omega
    have b6 : decide (n ≤ (70 : Int)) = true := by simp; omega
    have he : hxi n = -1 := by
      have : isHx n = false := by simp only [isHx, decide_eq_false_iff_not]; omega
      unfold hxi
      rw [if_neg (by simp [this])]
    have HE := Lib.hid he
    clear he
    go_enter Tryz.func26, Tryz.ntmps26
    go_wp2
    go_ret
    exact ⟨by rw [HE.out]; rfl, rfl⟩
  · skip
    have b1 : decide ((48 : Int) ≤ n) = true := by simp; omega
    have b2 : decide (n ≤ (57 : Int)) = false := by simp; omega
    have b3 : decide ((97 : Int) ≤ n) = false := by simp; omega
    have b4 : decide (n ≤ (102 : Int)) = true := by simp; omega
    have b5 : decide ((65 : Int) ≤ n) = true := by simp; omega
    have b6 : decide (n ≤ (70 : Int)) = true := by simp; omega
    have he : hxi n = n - 65 + 10 := by
      have : isHx n = true := by simp only [isHx, decide_eq_true_eq]; omega
      unfold hxi
      rw [if_pos this]
      unfold hxv
      rw [if_neg (by omega), if_pos (by omega)]
      omega
    have HE := Lib.hid he
    clear he
    go_enter Tryz.func26, Tryz.ntmps26
    go_wp2
    go_ret
    exact ⟨by rw [HE.out]; rfl, rfl⟩
  · skip
    have b1 : decide ((48 : Int) ≤ n) = true := by simp; omega
    have b2 : decide (n ≤ (57 : Int)) = false := by simp; omega
    have b3 : decide ((97 : Int) ≤ n) = false := by simp; omega
    have b4 : decide (n ≤ (102 : Int)) = true := by simp; omega
    have b5 : decide ((65 : Int) ≤ n) = true := by simp; omega
    have b6 : decide (n ≤ (70 : Int)) = false := by simp; omega
    have he : hxi n = -1 := by
      have : isHx n = false := by simp only [isHx, decide_eq_false_iff_not]; omega
      unfold hxi
      rw [if_neg (by simp [this])]
    have HE := Lib.hid he
    clear he
    go_enter Tryz.func26, Tryz.ntmps26
    go_wp2
    go_ret
    exact ⟨by rw [HE.out]; rfl, rfl⟩
  · skip
    have b1 : decide ((48 : Int) ≤ n) = true := by simp; omega
    have b2 : decide (n ≤ (57 : Int)) = false := by simp; omega
    have b3 : decide ((97 : Int) ≤ n) = true := by simp; omega
    have b4 : decide (n ≤ (102 : Int)) = true := by simp; omega
    have b5 : decide ((65 : Int) ≤ n) = true := by simp; omega
    have b6 : decide (n ≤ (70 : Int)) = false := by simp; omega
    have he : hxi n = n - 97 + 10 := by
      have : isHx n = true := by simp only [isHx, decide_eq_true_eq]; omega
      unfold hxi
      rw [if_pos this]
      unfold hxv
      rw [if_neg (by omega), if_neg (by omega)]
      omega
    have HE := Lib.hid he
    clear he
    go_enter Tryz.func26, Tryz.ntmps26
    go_wp2
    go_ret
    exact ⟨by rw [HE.out]; rfl, rfl⟩
  · skip
    have b1 : decide ((48 : Int) ≤ n) = true := by simp; omega
    have b2 : decide (n ≤ (57 : Int)) = false := by simp; omega
    have b3 : decide ((97 : Int) ≤ n) = true := by simp; omega
    have b4 : decide (n ≤ (102 : Int)) = false := by simp; omega
    have b5 : decide ((65 : Int) ≤ n) = true := by simp; omega
    have b6 : decide (n ≤ (70 : Int)) = false := by simp; omega
    have he : hxi n = -1 := by
      have : isHx n = false := by simp only [isHx, decide_eq_false_iff_not]; omega
      unfold hxi
      rw [if_neg (by simp [this])]
    have HE := Lib.hid he
    clear he
    go_enter Tryz.func26, Tryz.ntmps26
    go_wp2
    go_ret
    exact ⟨by rw [HE.out]; rfl, rfl⟩

/-- White space. -/
def isSpc (n : Int) : Bool := decide (n = 32 ∨ n = 9 ∨ n = 10 ∨ n = 13 ∨ n = 12)

set_option maxRecDepth 100000 in
set_option maxHeartbeats 4000000 in
theorem isSpace_any (n : Int) (w : World) : Calls Tryz.prog 28 #[.int .u8 n] w (SomeBool (fun b => b = isSpc n) w) := by
  go_enter Tryz.func28, Tryz.ntmps28
  go_wp2
  all_goals go_ret
  all_goals refine ⟨_, ?_, rfl, rfl⟩
  all_goals (show _ = _; rw [Bool.eq_iff_iff]; simp [isSpc]; try omega)

set_option maxRecDepth 100000 in
set_option maxHeartbeats 4000000 in
theorem encoded_any (n : Nat) (w : World) (hn : n < 16777216) : Calls Tryz.prog 29 #[.int .i64 (n : Int)] w (fun e w' => e = .returned (.string (Utf8.encode (n : Int))) ∧ Below w.heap.size w w') := by
  have hcv : (convert 105 9 (.slice (some ⟨w.heap.size, 0, none⟩) 1 1)).run Tryz.prog (w.alloc (.cells #[.int .i32 (n : Int)] 21)) = .ok (.string (Utf8.encode (n : Int))) (w.alloc (.cells #[.int .i32 (n : Int)] 21)) := by
    have hc : (w.alloc (.cells #[.int .i32 (n : Int)] 21)).cell? ⟨w.heap.size, 0, none⟩ = some (.int .i32 (n : Int)) := World.objAt.cell (objAt_alloc_new w #[.int .i32 (n : Int)] 21) (i := 0) rfl
    have hl := run_loadCells_list (P := Tryz.prog) (w.alloc (.cells #[.int .i32 (n : Int)] 21)) ⟨w.heap.size, 0, none⟩ [.int .i32 (n : Int)] (fun j v hj => by
      match j, hj with
      | 0, hj => simp at hj; subst hj; simp [Addr.add])
    have hr := run_runesToString (P := Tryz.prog) (w.alloc (.cells #[.int .i32 (n : Int)] 21)) ⟨w.heap.size, 0, none⟩ 1 1 [(n : Int)] hl
    have he : (convert 105 9 (.slice (some ⟨w.heap.size, 0, none⟩) 1 1)).run Tryz.prog (w.alloc (.cells #[.int .i32 (n : Int)] 21)) = (Conv.runesToString (.slice (some ⟨w.heap.size, 0, none⟩) 1 1)).run Tryz.prog (w.alloc (.cells #[.int .i32 (n : Int)] 21)) := by
      simp [convert, run_underlying Tryz.underlying105, run_underlying Tryz.underlying9, run_underlying Tryz.underlying21]
    rw [he, hr]
    simp [runesBytes]
  go_enter Tryz.func29, Tryz.ntmps29
  go_wp2
  go_ret
  exact ⟨rfl, (Below.refl _ _).alloc (Nat.le_refl _) _⟩

/-- A carriage return and a line feed stand at a place. -/
def crlf (s : ByteArray) (k : Nat) : Bool := decide (nx s k = 13 ∧ nx s (k + 1) = 10)

theorem crlf_extract {s : ByteArray} {k : Nat} (h : k + 2 ≤ s.size) : ((s.extract k (k + 2)).toList == [13, 10]) = crlf s k := by
  have h0 : k < s.size := by omega
  have h1 : k + 1 < s.size := by omega
  have he : (s.extract k (k + 2)).toList = [s[k], s[k + 1]] := by
    rw [ByteArray.toList_eq, ByteArray.data_extract]
    apply List.ext_getElem
    · simp
      have : s.data.size = s.size := rfl
      omega
    · intro j h2 h3
      simp at h3
      match j, h3 with
      | 0, _ => simp; rfl
      | 1, _ => simp; rfl
  rw [he]
  unfold crlf
  rw [nx_lt h0, nx_lt h1, Bool.eq_iff_iff]
  simp
  constructor
  · rintro ⟨h2, h3⟩
    rw [h2, h3]
    exact ⟨rfl, rfl⟩
  · rintro ⟨h2, h3⟩
    exact ⟨UInt8.toNat.inj (by simpa using Int.ofNat.inj h2), UInt8.toNat.inj (by simpa using Int.ofNat.inj h3)⟩

def HereIs (s : ByteArray) (k : Nat) (w : World) (e : Ending) (w' : World) : Prop := e = .returned (.bool (crlf s k)) ∧ ∃ m, w' = w.drewN m

set_option maxRecDepth 100000 in
set_option maxHeartbeats 4000000 in
theorem here_any (s : ByteArray) (k B : Nat) (b u q : Bool) (w : World) (hs : s.size ≤ 4000) (hk : k ≤ s.size) (h : Rdr w B s k b u q) :
    Calls Tryz.prog 32 #[.pointer (some ⟨B, 0, none⟩), .string ⟨#[13, 10]⟩] w (HereIs s k w) := by
  have c0 : w.cell? ⟨B, 0, none⟩ = some (.string s) := h.cell (i := 0) rfl
  have c1 : w.cell? ⟨B, 1, none⟩ = some (.int .i64 (k : Int)) := h.cell (i := 1) rfl
  clear h
  by_cases h2 : k + 2 ≤ s.size
  · have g : decide ((k : Int) + 2 ≤ (s.size : Int)) = true := by simp; omega
    have hcr := crlf_extract h2
    have HCR := Lib.hid hcr
    obtain ⟨c, hc⟩ : ∃ c, crlf s k = c := ⟨_, rfl⟩
    rw [hc] at hcr
    have HC := Lib.hid hc
    clear hc
    go_enter Tryz.func32, Tryz.ntmps32
    go_wp2
    go_quiet (fail)
    go_wp2
    go_ret
    exact ⟨by rw [HC.out]; rfl, _, rfl⟩
  · have g : decide ((k : Int) + 2 ≤ (s.size : Int)) = false := by simp; omega
    have hcr : crlf s k = false := by
      unfold crlf
      rw [decide_eq_false_iff_not]
      rintro ⟨h3, h4⟩
      rw [nx_end (show s.size ≤ k + 1 by omega)] at h4
      omega
    have HC := Lib.hid hcr
    clear hcr
    go_enter Tryz.func32, Tryz.ntmps32
    go_wp2
    go_quiet (fail)
    go_wp2
    go_ret
    exact ⟨by rw [HC.out]; rfl, _, rfl⟩

def TakenPost (s : ByteArray) (k B : Nat) (u : Bool) (w : World) (e : Ending) (w' : World) : Prop :=
  e = .returned (.bool (crlf s k)) ∧ Rdr w' B s (if crlf s k = true then k + 2 else k) false u false ∧ Below B w w'

set_option maxRecDepth 100000 in
set_option maxHeartbeats 4000000 in
theorem taken_any (s : ByteArray) (k B : Nat) (u : Bool) (w : World) (hs : s.size ≤ 4000) (hk : k ≤ s.size) (h : Rdr w B s k false u false) :
    Calls Tryz.prog 27 #[.pointer (some ⟨B, 0, none⟩), .string ⟨#[13, 10]⟩] w (TakenPost s k B u w) := by
  have c1 : w.cell? ⟨B, 1, none⟩ = some (.int .i64 (k : Int)) := h.cell (i := 1) rfl
  have f1 : w.frozen? ⟨B, 1, none⟩ = false := h.free 1
  have hh := here_any s k B false u false w hs hk h
  unfold HereIs at hh
  obtain ⟨c, hc⟩ : ∃ c, crlf s k = c := ⟨_, rfl⟩
  rw [hc] at hh
  have HH := Lib.hid hh
  have HC := Lib.hid hc
  have HW := Lib.hid h
  clear hh hc h
  go_enter Tryz.func27, Tryz.ntmps27
  go_wp2_with fail
  refine HH.out.mono ?_
  rintro e w1 ⟨rfl, m, rfl⟩
  cases c
  · go_wp2
    go_ret
    exact ⟨by rw [HC.out]; rfl, by rw [HC.out]; exact HW.out.drew _, below_drewN (Below.refl _ _) _⟩
  · go_wp2
    go_ret
    exact ⟨by rw [HC.out]; rfl, by rw [HC.out]; exact World.objAt.set (HW.out.drew _) 1 _, World.objAt.setBelow (HW.out.drew _) 1 _ (below_drewN (Below.refl _ _) _) (Nat.le_refl _)⟩

end Go.Proofs.YtbikpalfhlgnoaaGreatDoor
