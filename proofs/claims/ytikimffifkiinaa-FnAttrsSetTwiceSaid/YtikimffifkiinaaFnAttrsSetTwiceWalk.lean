/- The walk of FnAttrsSetTwice. -/
import Derived.Test.YtikimffifkiinaaElemAttrs
import Derived.Test.YtikimffifkiinaaAttrs7
import Derived.Test.YtikimffifkiinaaFits
namespace Go.Proofs.Ytikimffifkiinaa.lawFnAttrsSetTwice
open Go.RowKit
set_option linter.unusedVariables false
set_option linter.unusedSimpArgs false

/-- Attributes as data in memory, with what a further call wants. -/
structure KVat (w : World) (a : Option Addr) (n : Nat) (l : KVs) : Prop where
  at_ : AttrsAt w a n l
  fit : KVFit l
theorem KVat.below {w w' : World} {a : Option Addr} {n : Nat} {l : KVs} (h : KVat w a n l) (hb : Below w.heap.size w w') : KVat w' a n l := ⟨h.at_.below hb, h.fit⟩

/-- A slice of attributes as it comes out of AttrsSet. -/
def SetGives (l : KVs) (n : Nat) (w : World) (e : Ending) (w' : World) : Prop := ∃ a c, e = .returned (.slice a n c) ∧ Hid (KVat w' a n l) ∧ Hid (Below w.heap.size w w')

theorem set_gives (a : Option Addr) (n c : Nat) (l : KVs) (key val : ByteArray) (w : World) (h : KVat w a n l) (hn : n ≤ 90) (m : Nat) (hm : (setKV l key val).length = m) (hk : key.size ≤ maxLen) (hv : val.size ≤ maxLen) :
    Calls Try.prog 12 #[.slice a n c, .string key, .string val] w (SetGives (setKV l key val) m w) := by
  subst hm
  refine (attrsSet_any a n c l key val w h.at_ hn).mono ?_
  rintro e w1 ⟨pv, rfl, ho, hb⟩
  obtain ⟨pa, pc, rfl, hat⟩ := ho.out.at_ (h.fit.set hk hv)
  exact ⟨pa, pc, rfl, Lib.hid ⟨hat, h.fit.set hk hv⟩, hb⟩

set_option maxRecDepth 100000 in
set_option maxHeartbeats 4000000 in
theorem walk {W : World} (a : Option Addr) (len cap : Nat) (l : KVs) (h : AttrsAt W a len l ∧ len ≤ cap ∧ cap ≤ maxLen) (key : ByteArray) (hk : key.size ≤ maxLen) (other : ByteArray) (ho : other.size ≤ maxLen) (va : ByteArray) (ha : va.size ≤ maxLen) (vb : ByteArray) (hb : vb.size ≤ maxLen) :
    Calls Try.prog 4 #[.slice a len cap, .string key, .string other, .string va, .string vb] W (YesB W) := by
  have hm := h.1.2.1
  have hfit : KVFit l := h.1.2.2.1
  have hll := h.1.1
  have HN := Lib.hid h.1
  have HS := Lib.hid (And.intro hk (And.intro ho (And.intro ha hb)))
  have HFIT := Lib.hid hfit
  unfold maxLen at hm hk ho ha hb
  clear h hfit
  go_enter Try.func4, Try.ntmps4
  go_wp2_with fail
  refine (fits3_any a len cap l W HN.out).mono ?_
  rintro e w1 ⟨b1, _, rfl, hb1⟩
  have HB1 := Lib.hid hb1
  clear hb1
  cases b1
  · go_wp2
    go_ret
    exact ⟨rfl, HB1.out⟩
  by_cases q1 : (2147483647 : Int) < (key.size : Int)
  · have g1 : decide ((2147483647 : Int) < (key.size : Int)) = true := by simp [q1]
    have g1n : decide (2147483647 < key.size) = true := by simp; omega
    clear q1
    go_wp2
    go_ret
    exact ⟨rfl, HB1.out⟩
  have g1 : decide ((2147483647 : Int) < (key.size : Int)) = false := by simp [q1]
  have g1n : decide (2147483647 < key.size) = false := by simp; omega
  have b1 : key.size ≤ 2147483647 := by omega
  clear q1
  by_cases q2 : (2147483647 : Int) < (other.size : Int)
  · have g2 : decide ((2147483647 : Int) < (other.size : Int)) = true := by simp [q2]
    have g2n : decide (2147483647 < other.size) = true := by simp; omega
    clear q2
    go_wp2
    go_ret
    exact ⟨rfl, HB1.out⟩
  have g2 : decide ((2147483647 : Int) < (other.size : Int)) = false := by simp [q2]
  have g2n : decide (2147483647 < other.size) = false := by simp; omega
  have b2 : other.size ≤ 2147483647 := by omega
  clear q2
  by_cases q3 : (2147483647 : Int) < (va.size : Int)
  · have g3 : decide ((2147483647 : Int) < (va.size : Int)) = true := by simp [q3]
    have g3n : decide (2147483647 < va.size) = true := by simp; omega
    clear q3
    go_wp2
    go_ret
    exact ⟨rfl, HB1.out⟩
  have g3 : decide ((2147483647 : Int) < (va.size : Int)) = false := by simp [q3]
  have g3n : decide (2147483647 < va.size) = false := by simp; omega
  have b3 : va.size ≤ 2147483647 := by omega
  clear q3
  by_cases q4 : (2147483647 : Int) < (vb.size : Int)
  · have g4 : decide ((2147483647 : Int) < (vb.size : Int)) = true := by simp [q4]
    have g4n : decide (2147483647 < vb.size) = true := by simp; omega
    clear q4
    go_wp2
    go_ret
    exact ⟨rfl, HB1.out⟩
  have g4 : decide ((2147483647 : Int) < (vb.size : Int)) = false := by simp [q4]
  have g4n : decide (2147483647 < vb.size) = false := by simp; omega
  have b4 : vb.size ≤ 2147483647 := by omega
  clear q4
  go_wp2_with fail
  refine (attrs7_any a len cap l w1 (HN.out.below HB1.out)).mono ?_
  rintro e w2 ⟨b2, hb2, rfl, hbel2⟩
  have HB2 := Lib.hid (HB1.out.trans (hbel2.mono HB1.out.size))
  clear hbel2 HB1
  cases b2
  · go_wp2
    go_ret
    exact ⟨rfl, HB2.out⟩
  obtain ⟨h12, _, hdist⟩ := hb2 rfl
  have HD := Lib.hid hdist
  clear hb2 hdist g1 g2 g3 g4 g1n g2n g3n g4n
  by_cases q5 : (400 : Int) < (key.size : Int) + (other.size : Int) + (va.size : Int) + (vb.size : Int)
  · have g5 : decide ((400 : Int) < (key.size : Int) + (other.size : Int) + (va.size : Int) + (vb.size : Int)) = true := by simp [q5]
    have g5n : decide (400 < key.size + other.size + va.size + vb.size) = true := by simp; omega
    clear q5
    go_wp2
    go_ret
    exact ⟨rfl, HB2.out⟩
  have g5 : decide ((400 : Int) < (key.size : Int) + (other.size : Int) + (va.size : Int) + (vb.size : Int)) = false := by simp [q5]
  have g5n : decide (400 < key.size + other.size + va.size + vb.size) = false := by simp; omega
  clear q5
  have hon := length_set_le l key vb
  have hoa := length_set_le l key va
  have hoo := length_set_le l other vb
  have hat0 : ∀ w, Below W.heap.size W w → KVat w a len l := fun w hb => ⟨HN.out.below hb, HFIT.out⟩
  have HAT := Lib.hid hat0
  have hset := set_set l key va vb
  have hlx := length_set_le (setKV l key va) other vb
  have hly := length_set_le (setKV l other vb) key va
  have hxy : key.toList ≠ other.toList → (setKV (setKV l key va) other vb).length = (setKV (setKV l other vb) key va).length := swapped_length l va vb
  have hf12 : key.toList ≠ other.toList → Found (setKV (setKV l key va) other vb) (setKV (setKV l other vb) key va) := fun h => swapped_found HD.out va vb h
  have hf21 : key.toList ≠ other.toList → Found (setKV (setKV l other vb) key va) (setKV (setKV l key va) other vb) := fun h => swapped_found HD.out vb va (fun e => h e.symm)
  obtain ⟨L1, hL1⟩ : ∃ L, setKV l key vb = L := ⟨_, rfl⟩
  obtain ⟨L2, hL2⟩ : ∃ L, setKV l key va = L := ⟨_, rfl⟩
  obtain ⟨L3, hL3⟩ : ∃ L, setKV l other vb = L := ⟨_, rfl⟩
  obtain ⟨LX, hLX⟩ : ∃ L, setKV L2 other vb = L := ⟨_, rfl⟩
  obtain ⟨LY, hLY⟩ : ∃ L, setKV L3 key va = L := ⟨_, rfl⟩
  rw [hL1, hL2] at hset
  rw [hL1] at hon
  rw [hL2] at hoa
  rw [hL3] at hoo
  rw [hL2, hLX] at hlx
  rw [hL3, hLY] at hly
  rw [hL2, hL3, hLX, hLY] at hxy hf12 hf21
  obtain ⟨nx, hnx⟩ : ∃ n, LX.length = n := ⟨_, rfl⟩
  have H1 : Hid (∀ w, Below W.heap.size W w → Calls Try.prog 12 #[.slice a len cap, .string key, .string vb] w (SetGives L1 L1.length w)) := Lib.hid fun w hb => by rw [← hL1]; exact set_gives a len cap l key vb w (hat0 w hb) (by omega) _ rfl HS.out.1 HS.out.2.2.2
  have H2 : Hid (∀ w, Below W.heap.size W w → Calls Try.prog 12 #[.slice a len cap, .string key, .string va] w (SetGives L2 L2.length w)) := Lib.hid fun w hb => by rw [← hL2]; exact set_gives a len cap l key va w (hat0 w hb) (by omega) _ rfl HS.out.1 HS.out.2.2.1
  have H3 : Hid (∀ w a2 c2, KVat w a2 L2.length L2 → Calls Try.prog 12 #[.slice a2 L2.length c2, .string key, .string vb] w (SetGives L1 L1.length w)) := Lib.hid fun w a2 c2 hk => by rw [← hset]; exact set_gives a2 L2.length c2 L2 key vb w hk (by omega) _ rfl HS.out.1 HS.out.2.2.2
  have H4 : Hid (∀ w a2 c2, KVat w a2 L2.length L2 → Calls Try.prog 12 #[.slice a2 L2.length c2, .string other, .string vb] w (SetGives LX nx w)) := Lib.hid fun w a2 c2 hk => by rw [← hLX] at hnx ⊢; exact set_gives a2 L2.length c2 L2 other vb w hk (by omega) nx hnx HS.out.2.1 HS.out.2.2.2
  have H5 : Hid (∀ w, Below W.heap.size W w → Calls Try.prog 12 #[.slice a len cap, .string other, .string vb] w (SetGives L3 L3.length w)) := Lib.hid fun w hb => by rw [← hL3]; exact set_gives a len cap l other vb w (hat0 w hb) (by omega) _ rfl HS.out.2.1 HS.out.2.2.2
  have H6 : Hid (key.toList ≠ other.toList → ∀ w a2 c2, KVat w a2 L3.length L3 → Calls Try.prog 12 #[.slice a2 L3.length c2, .string key, .string va] w (SetGives LY nx w)) := Lib.hid fun hne w a2 c2 hk => by have h1 := hxy hne; rw [hnx, ← hLY] at h1; rw [← hLY]; exact set_gives a2 L3.length c2 L3 key va w hk (by omega) nx h1.symm HS.out.1 HS.out.2.2.1
  have HF := Lib.hid (And.intro hf12 hf21)
  have hnx90 : nx ≤ 90 := by omega
  clear hset hL1 hL2 hL3 hLX hLY hnx hxy hf12 hf21 hat0 HN HFIT HS HD
  go_wp2_with fail
  refine (H1.out w2 HB2.out).mono ?_
  rintro e w3 ⟨a1, c1, rfl, hk1, hb3⟩
  have HB3 := Lib.hid (HB2.out.trans (hb3.out.mono HB2.out.size))
  clear hb3 HB2
  go_wp2_with fail
  refine (H2.out w3 HB3.out).mono ?_
  rintro e w4 ⟨a2, c2, rfl, hk2, hb4⟩
  have HK1 := Lib.hid (hk1.out.below hb4.out)
  have HB4 := Lib.hid (HB3.out.trans (hb4.out.mono HB3.out.size))
  clear hb4 hk1 HB3
  go_wp2_with fail
  refine (H3.out w4 a2 c2 hk2.out).mono ?_
  rintro e w5 ⟨a3, c3, rfl, hk3, hb5⟩
  have HK2 := Lib.hid (HK1.out.below hb5.out)
  have HB5 := Lib.hid (HB4.out.trans (hb5.out.mono HB4.out.size))
  clear hb5 hk2 HB4 HK1
  have gz : ((L1.length : Int) == 0) = false := beq_eq_false_iff_ne.2 (by omega)
  have gl : ((L1.length : Int) != (L1.length : Int)) = false := by simp
  have hL90 : L1.length ≤ 90 := by omega
  go_wp2
  go_loopw [13] (fun i wr => ∃ (k : Nat), k ≤ L1.length ∧ i = .int .i64 (k : Int) ∧ Below w5.heap.size w5 wr) (fun i _ => L1.length - (intOf i).toNat)
  case atStart => exact ⟨0, by omega, by go_num, Below.refl _ _⟩
  case round =>
    obtain ⟨k, hk, rfl, hbel⟩ := hrel
    have HBEL := Lib.hid hbel
    clear hbel
    by_cases hlt : k < L1.length
    · obtain ⟨_, _, _, hcc1⟩ := (HK2.out.below HBEL.out).at_
      obtain ⟨_, _, _, hcc2⟩ := (hk3.out.below HBEL.out).at_
      obtain ⟨b1, off1, rfl, hc1⟩ := hcc1 (by omega)
      obtain ⟨b2, off2, rfl, hc2⟩ := hcc2 (by omega)
      obtain ⟨x1, y1⟩ := hc1 k hlt
      obtain ⟨x2, y2⟩ := hc2 k hlt
      obtain ⟨x, hx⟩ : ∃ x, (L1.getD k default).1 = x := ⟨_, rfl⟩
      obtain ⟨y, hy⟩ : ∃ y, (L1.getD k default).2 = y := ⟨_, rfl⟩
      rw [hx] at x1 x2
      rw [hy] at y1 y2
      have hkI : (k : Int) < (L1.length : Int) := by omega
      clear hx hy hc1 hc2 hcc1 hcc2
      go_wp2
      go_quiet (fail)
      go_wp2
      go_roundw
      case rel => exact ⟨k + 1, by omega, by go_num, below_drewN HBEL.out _⟩
      case measure => simp [intOf]; omega
    · obtain rfl : k = L1.length := by omega
      have HB6 := Lib.hid (HB5.out.trans (HBEL.out.mono HB5.out.size))
      clear hlt HBEL HB5 HK2 hk3 gz gl
      cases hke : (key.toList == other.toList)
      · have hne : key.toList ≠ other.toList := by simpa using hke
        have H6' := Lib.hid (H6.out hne)
        have HFF := Lib.hid (And.intro (HF.out.1 hne) (HF.out.2 hne))
        clear hne HF H6
        go_wp2_with fail
        refine (H2.out _ HB6.out).mono ?_
        rintro e w7 ⟨a4, c4, rfl, hk4, hb7⟩
        have HB7 := Lib.hid (HB6.out.trans (hb7.out.mono HB6.out.size))
        clear hb7 HB6
        go_wp2_with fail
        refine (H4.out w7 a4 c4 hk4.out).mono ?_
        rintro e w8 ⟨a5, c5, rfl, hk5, hb8⟩
        have HB8 := Lib.hid (HB7.out.trans (hb8.out.mono HB7.out.size))
        clear hb8 HB7 hk4
        go_wp2_with fail
        refine (H5.out w8 HB8.out).mono ?_
        rintro e w9 ⟨a6, c6, rfl, hk6, hb9⟩
        have HK5 := Lib.hid (hk5.out.below hb9.out)
        have HB9 := Lib.hid (HB8.out.trans (hb9.out.mono HB8.out.size))
        clear hb9 HB8 hk5
        go_wp2_with fail
        refine (H6'.out w9 a6 c6 hk6.out).mono ?_
        rintro e w10 ⟨a7, c7, rfl, hk7, hb10⟩
        have HK6 := Lib.hid (HK5.out.below hb10.out)
        have HB10 := Lib.hid (HB9.out.trans (hb10.out.mono HB9.out.size))
        clear hb10 HB9 hk6 HK5 H1 H2 H3 H4 H5 H6'
        clear hke hlx hly
        go_wp2_with fail
        refine (others_any a5 a7 nx c5 nx c7 LX LY ⟨#[]⟩ w10 HK6.out.at_ hk7.out.at_ HFF.out.1 HFF.out.2).mono ?_
        rintro e w11 ⟨rfl, hb11⟩
        have HB11 := Lib.hid (HB10.out.trans (hb11.mono HB10.out.size))
        have HK7 := Lib.hid (And.intro (HK6.out.below hb11) (hk7.out.below hb11))
        clear hb11 HB10 hk7 HK6
        go_wp2_with fail
        refine (others_any a7 a5 nx c7 nx c5 LY LX ⟨#[]⟩ w11 HK7.out.2.at_ HK7.out.1.at_ HFF.out.2 HFF.out.1).mono ?_
        rintro e w12 ⟨rfl, hb12⟩
        have HB12 := Lib.hid (HB11.out.trans (hb12.mono HB11.out.size))
        clear hb12 HB11
        go_wp2
        go_ret
        exact ⟨rfl, HB12.out⟩
      · go_wp2
        go_ret
        exact ⟨rfl, HB6.out⟩

end Go.Proofs.Ytikimffifkiinaa.lawFnAttrsSetTwice
