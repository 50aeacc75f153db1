/- spec.TextOf, spec.OwnText. -/
import Derived.Test.YtikimffifkiinaaDoorKids
import Derived.Test.YtikimffifkiinaaDoorPtrAll
namespace Go.Proofs.YtikimffifkiinaaDoor
open Go.RowKit
set_option linter.unusedVariables false
set_option linter.unusedSimpArgs false

/-- A node's own text. -/
def txt (n : NodeD) : List UInt8 := if n.kind = 4 then n.text.data.toList else []
/-- The texts among k nodes from a place on. -/
def txts (ts : List NodeD) (a : Nat) : Nat → List UInt8
  | 0 => []
  | k + 1 => txts ts a k ++ txt (ts.getD (a + k) default)

theorem txts_add (ts : List NodeD) (a m : Nat) : ∀ n, txts ts a (m + n) = txts ts a m ++ txts ts (a + m) n
  | 0 => by simp [txts]
  | n + 1 => by
    have := txts_add ts a m n
    rw [show m + (n + 1) = (m + n) + 1 by omega]
    simp only [txts]
    rw [this, List.append_assoc, Nat.add_assoc]

theorem txt_length {n : NodeD} {M : Nat} (h : n.text.size ≤ M) : (txt n).length ≤ M := by
  unfold txt
  split
  · rw [Array.length_toList]; exact h
  · exact Nat.zero_le _

theorem txts_length {ts : List NodeD} {M : Nat} (h : ∀ i, (ts.getD i default).text.size ≤ M) (a : Nat) : ∀ k, (txts ts a k).length ≤ k * M
  | 0 => Nat.zero_le _
  | k + 1 => by
    have h1 := txts_length h a k
    have h2 := txt_length (h (a + k))
    rw [txts, List.length_append, Nat.succ_mul]
    omega

/-- The texts of some nodes. -/
def txtL (ts : List NodeD) (l : List Nat) : List UInt8 := l.flatMap fun i => txt (ts.getD i default)

theorem txtL_length {ts : List NodeD} {M : Nat} (h : ∀ i, (ts.getD i default).text.size ≤ M) : ∀ l : List Nat, (txtL ts l).length ≤ l.length * M
  | [] => Nat.zero_le _
  | k :: l => by
    have h1 := txtL_length h l
    have h2 := txt_length (h k)
    have : txtL ts (k :: l) = txt (ts.getD k default) ++ txtL ts l := rfl
    rw [this, List.length_append, List.length_cons, Nat.succ_mul]
    omega

theorem size_of (z : ByteArray) : z.size = z.data.toList.length := by rw [Array.length_toList]; rfl

theorem txtL_snoc (ts : List NodeD) (l : List Nat) (k : Nat) : txtL ts (l ++ [k]) = txtL ts l ++ txt (ts.getD k default) := by simp [txtL]

theorem append_list (z t : ByteArray) : (z ++ t).data.toList = z.data.toList ++ t.data.toList := by
  rw [ByteArray.data_append, Array.toList_append]

def TextPost (l : List UInt8) (w : World) (e : Ending) (w' : World) : Prop := ∃ s : ByteArray, e = .returned (.string s) ∧ s.data.toList = l ∧ Below w.heap.size w w'

set_option maxRecDepth 100000 in
set_option maxHeartbeats 1000000 in
theorem textOf_any (a : Option Addr) (len cap : Nat) (ts : List NodeD) (at_ : Nat) (w : World) (h : Nodes w a len ts) (hsz : ∀ j, j < len → Sz ts j) (hfit : ∀ j, j < len → j + sz ts j ≤ len) (hat : at_ < len) (hlen : len ≤ 200) (hM : ∀ i, (ts.getD i default).text.size ≤ 2147483647) :
    Calls Tryd.prog 9 #[.slice a len cap, .int .i64 at_] w (TextPost (txts ts at_ (sz ts at_)) w) := by
  have hm := h.len.2
  obtain ⟨b, off, rfl, hc⟩ := h.at (by omega)
  have hend := hfit at_ hat
  have hpos := (hsz at_ hat).1
  have c4 : w.cell? ⟨b, off + at_ * 5 + 4, none⟩ = some (.int .i64 (sz ts at_ : Int)) := by rw [(hc at_ hat).size, (hsz at_ hat).2.1]
  have HC := Lib.hid hc
  clear hc h hfit hsz
  go_enter Tryd.func9, Tryd.ntmps9
  go_wp2
  go_loopw [5, 6] (fun s i wr => ∃ (k : Nat) (z : ByteArray), k ≤ sz ts at_ ∧ i = .int .i64 ((at_ + k : Nat) : Int) ∧ s = .string z ∧ z.data.toList = txts ts at_ k ∧ w = wr) (fun _ i _ => at_ + sz ts at_ - (intOf i).toNat)
  case atStart => exact ⟨0, ByteArray.empty, by omega, by go_num, rfl, rfl, by first | rfl | trivial⟩
  case round =>
    obtain ⟨k, z, hk, rfl, rfl, hz, rfl⟩ := hrel
    have HZ := Lib.hid hz
    clear hz
    obtain ⟨p, hp⟩ : ∃ p, at_ + k = p := ⟨_, rfl⟩
    rw [hp]
    have HP := Lib.hid hp
    by_cases hlt : k < sz ts at_
    · have hpl : p < len := by omega
      have hpe : p < at_ + sz ts at_ := by omega
      have ck := (HC.out p hpl).kind
      have ct := (HC.out p hpl).text
      obtain ⟨n, hn⟩ : ∃ n, ts.getD p default = n := ⟨_, rfl⟩
      have hcat : ¬ 9223372036854775807 < z.size + n.text.size := by
        have h1 := hM p
        have h2 := txts_length hM at_ k
        rw [hn] at h1
        rw [size_of z, HZ.out]
        omega
      rw [hn] at ck ct
      have HN := Lib.hid hn
      clear hn hp hlt hk
      by_cases h4 : n.kind = 4
      · rw [h4] at ck
        go_wp2
        refine ⟨?rel, ?measure⟩
        case rel =>
          refine ⟨k + 1, z ++ n.text, by have := HP.out; omega, by have := HP.out; go_num, rfl, ?_, by first | rfl | trivial⟩
          simp only [txts]
          rw [append_list, HZ.out, HP.out, HN.out, txt, if_pos h4]
        case measure => simp [intOf]; omega
      · have h4' : (n.kind == 4) = false := by simpa using h4
        have H4 := Lib.hid h4
        clear h4
        go_wp2
        refine ⟨?rel, ?measure⟩
        case rel =>
          refine ⟨k + 1, z, by have := HP.out; omega, by have := HP.out; go_num, rfl, ?_, by first | rfl | trivial⟩
          simp only [txts]
          rw [HZ.out, HP.out, HN.out, txt, if_neg H4.out, List.append_nil]
        case measure => simp [intOf]; omega
    · obtain rfl : k = sz ts at_ := by omega
      have hpe : ¬ p < at_ + sz ts at_ := by omega
      clear hp
      go_wp2
      go_ret
      exact ⟨z, rfl, HZ.out, Below.refl _ _⟩

set_option maxRecDepth 100000 in
set_option maxHeartbeats 1000000 in
theorem ownText_any (a : Option Addr) (len cap : Nat) (ts : List NodeD) (at_ : Nat) (w : World) (h : Nodes w a len ts) (hsz : ∀ j, j < len → Sz ts j) (hfit : ∀ j, j < len → j + sz ts j ≤ len) (hat : at_ < len) (hlen : len ≤ 200) (hin : ∀ k ∈ kids (sz ts) at_, k < len) (hkl : (kids (sz ts) at_).length ≤ 200) (hM : ∀ i, (ts.getD i default).text.size ≤ 2147483647) :
    Calls Tryd.prog 11 #[.slice a len cap, .int .i64 at_] w (TextPost (txtL ts (kids (sz ts) at_)) w) := by
  have hkids := kids_any a len cap ts at_ w h hsz hfit hat hlen
  have hm := h.len.2
  obtain ⟨L, hL⟩ : ∃ L, kids (sz ts) at_ = L := ⟨_, rfl⟩
  rw [hL] at hkids hin hkl ⊢
  have HK := Lib.hid hkids
  have HN := Lib.hid h
  have HI := Lib.hid hin
  clear hkids h hsz hfit hL hin
  go_enter Tryd.func11, Tryd.ntmps11
  go_wp2_with fail
  refine HK.out.mono ?_
  rintro e w1 ⟨v, rfl, hown, hb⟩
  obtain ⟨a1, c1, rfl, hc1, hc2, hrow⟩ := hown.ints
  obtain ⟨b, off, rfl, hc⟩ := (HN.out.below hb).at (by omega)
  have HC := Lib.hid hc
  have HR := Lib.hid hrow
  have HB := Lib.hid hb
  clear hc hrow hown hb HK
  go_wp2
  go_loopw [5, 7] (fun s i wr => ∃ (k : Nat) (z : ByteArray), k ≤ L.length ∧ i = .int .i64 (k : Int) ∧ s = .string z ∧ z.data.toList = txtL ts (L.take k) ∧ w1 = wr) (fun _ i _ => L.length - (intOf i).toNat)
  case atStart => exact ⟨0, ByteArray.empty, by omega, by go_num, rfl, rfl, by first | rfl | trivial⟩
  case round =>
    obtain ⟨k, z, hk, rfl, rfl, hz, rfl⟩ := hrel
    have HZ := Lib.hid hz
    clear hz
    by_cases hlt : k < L.length
    · obtain ⟨rb, ro, rfl, hrc⟩ := HR.out.2.2 (by omega)
      have cx := hrc k hlt
      obtain ⟨p, hp⟩ : ∃ p, L.getD k 0 = p := ⟨_, rfl⟩
      have htk : txtL ts (L.take (k + 1)) = txtL ts (L.take k) ++ txt (ts.getD p default) := by rw [take_snoc hlt, txtL_snoc, hp]
      have hpl : p < len := by
        apply HI.out
        rw [← hp]
        simp [List.getD, hlt]
      have cx' : w1.cell? ⟨rb, ro + k, none⟩ = some (.int .i64 (p : Int)) := by
        rw [cx, ← hp]
        simp [List.getD, hlt]
      have hplI : (p : Int) < (len : Int) := by omega
      have ck := (HC.out p hpl).kind
      have ct := (HC.out p hpl).text
      obtain ⟨n, hn⟩ : ∃ n, ts.getD p default = n := ⟨_, rfl⟩
      have hcat : ¬ 9223372036854775807 < z.size + n.text.size := by
        have h1 := hM p
        have h2 := txtL_length hM (L.take k)
        rw [hn] at h1
        rw [size_of z, HZ.out]
        rw [List.length_take] at h2
        omega
      rw [hn] at ck ct htk
      have HT := Lib.hid htk
      clear hn hp htk cx hrc
      by_cases h4 : n.kind = 4
      · rw [h4] at ck
        go_wp2
        refine ⟨?rel, ?measure⟩
        case rel =>
          refine ⟨k + 1, z ++ n.text, by omega, by go_num, rfl, ?_, by first | rfl | trivial⟩
          rw [append_list, HZ.out, HT.out, txt, if_pos h4]
        case measure => simp [intOf]; omega
      · have h4' : (n.kind == 4) = false := by simpa using h4
        have H4 := Lib.hid h4
        clear h4
        go_wp2
        refine ⟨?rel, ?measure⟩
        case rel =>
          refine ⟨k + 1, z, by omega, by go_num, rfl, ?_, by first | rfl | trivial⟩
          rw [HZ.out, HT.out, txt, if_neg H4.out, List.append_nil]
        case measure => simp [intOf]; omega
    · obtain rfl : k = L.length := by omega
      go_wp2
      go_ret
      refine ⟨z, rfl, ?_, HB.out⟩
      have := HZ.out
      rwa [List.take_length] at this

end Go.Proofs.YtikimffifkiinaaDoor
