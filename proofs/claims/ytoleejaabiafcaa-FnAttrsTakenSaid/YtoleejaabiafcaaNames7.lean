/- laws.zzFits8 (how many), laws.classes7. -/
import Derived.Test.YtoleejaabiafcaaWordIn
import Derived.Deep.RegionHeld3
import Derived.BigQuiet
import Derived.Deep.QuietTactic
import Derived.IntWalk
namespace Go.Proofs.Ytoleejaabiafcaa
open Go.RowKit
set_option linter.unusedVariables false
set_option linter.unusedSimpArgs false

def FewSay (len : Nat) (b : Bool) : Prop := b = true → len ≤ 2147483647

set_option maxHeartbeats 400000 in
theorem fits8_few (a : Option Addr) (len cap : Nat) (ss : List ByteArray) (w : World) (h : Strs w a len ss) :
    Calls Try.prog 29 #[.slice a len cap] w (SomeBool (FewSay len) w) := by
  have hm := h.len.2
  by_cases q1 : (2147483647 : Int) < (len : Int)
  · have g1 : decide ((2147483647 : Int) < (len : Int)) = true := by simp [q1]
    have g1n : decide (2147483647 < len) = true := by simp; omega
    clear q1
    go_enter Try.func29, Try.ntmps29
    go_wp2
    go_ret
    exact ⟨false, (fun h => by cases h), rfl, rfl⟩
  have hle : len ≤ 2147483647 := by omega
  have g1 : decide ((2147483647 : Int) < (len : Int)) = false := by simp [q1]
  have g1n : decide (2147483647 < len) = false := by simp; omega
  clear q1
  go_enter Try.func29, Try.ntmps29
  go_wp2
  go_loop [10] (fun i => ∃ k : Nat, k ≤ len ∧ i = .int .i64 k) (fun i => len - (intOf i).toNat)
  case atStart => exact ⟨0, Nat.zero_le _, rfl⟩
  case round =>
    obtain ⟨k, hk, rfl⟩ := hrel
    by_cases hlt : k < len
    · obtain ⟨b, off, rfl, hc⟩ := h.at (by omega)
      have hck := hc k hlt
      go_wp2
      · go_ret
        exact ⟨_, (fun _ => hle), rfl, rfl⟩
      · go_round
        case rel => exact ⟨k + 1, by omega, by go_num⟩
        case measure => simp [intOf]; omega
    · go_wp2
      go_ret
      exact ⟨_, (fun _ => hle), rfl, rfl⟩

/-- A printable name of at most 40 bytes. -/
theorem name_ok {x : ByteArray} (h : printF x = true) (hz : x.size ≤ 40) : NameOk x.data.toList := by
  have h1 := of_decide_eq_true h
  refine ⟨h1.1, fun b hb => ?_, fun b hb => ?_, by rw [← size_list]; exact hz⟩
  · have := (h1.2 b hb)
    unfold printB at this
    unfold spaceB spaceI
    simp only [Bool.or_eq_false_iff, beq_eq_false_iff_ne]
    omega
  · have := (h1.2 b hb)
    unfold printB at this
    exact ⟨by omega, by omega, by omega⟩

theorem joined_words : ∀ {L : Wds}, (∀ y ∈ L, NameOk y) → wl (Lib.joinTail [32] L) = L
  | [], _ => by simp [Lib.joinTail, wl_nil]
  | y :: t, h => by
    have e : Lib.joinTail [32] (y :: t) = 32 :: (y ++ Lib.joinTail [32] t) := by simp [Lib.joinTail]
    rw [e, wl_space (by decide), tail_words t y (h y (by simp)) (fun z hz => h z (by simp [hz]))]

/-- What is known of the first n names. -/
structure C7 (xs : List ByteArray) (n : Nat) : Prop where
  ok : ∀ j, j < n → printF (xs.getD j ByteArray.empty) = true ∧ (xs.getD j ByteArray.empty).size ≤ 40
  nodup : ((xs.take n).map (·.data.toList)).Nodup

theorem C7.name {xs : List ByteArray} {n : Nat} (h : C7 xs n) (hn : n ≤ xs.length) : ∀ y ∈ (xs.take n).map (·.data.toList), NameOk y := fun y hy => by
  obtain ⟨x, hx, rfl⟩ := List.mem_map.1 hy
  obtain ⟨j, hj, e⟩ := List.getElem_of_mem hx
  rw [List.length_take] at hj
  rw [List.getElem_take] at e
  have h1 := h.ok j (by omega)
  rw [List.getD_eq_getElem?_getD, List.getElem?_eq_getElem (by omega)] at h1
  simp only [Option.getD_some, e] at h1
  exact name_ok h1.1 h1.2

theorem C7.next {xs : List ByteArray} {n : Nat} (h : C7 xs n) (hn : n < xs.length) {x : ByteArray} (hx : xs.getD n ByteArray.empty = x) (h1 : printF x = true) (h2 : x.size ≤ 40) (h3 : x.data.toList ∉ (xs.take n).map (·.data.toList)) : C7 xs (n + 1) := by
  refine ⟨fun j hj => ?_, ?_⟩
  · by_cases e : j = n
    · subst e; rw [hx]; exact ⟨h1, h2⟩
    · exact h.ok j (by omega)
  · rw [List.map_take, take_name' hn, hx, ← List.map_take, List.nodup_append]
    refine ⟨h.nodup, by simp, fun a ha b hb => ?_⟩
    simp at hb
    subst hb
    rintro rfl
    exact h3 ha

/-- What classes7 says with a yes. -/
def C7Say (xs : List ByteArray) (b : Bool) : Prop := b = true → (∀ x ∈ xs, NameOk x.data.toList) ∧ (xs.map (·.data.toList)).Nodup ∧ 0 < xs.length ∧ xs.length ≤ 8
theorem c7Say_false (xs : List ByteArray) : C7Say xs false := by simp [C7Say]

set_option maxRecDepth 100000 in
set_option maxHeartbeats 8000000 in
theorem classes7_any (a : Option Addr) (xs : List ByteArray) (c : Nat) (w : World) (h : StrCells w a xs.length xs) (hc : xs.length ≤ c) (hn : xs.length ≤ 2147483647) (hz : ∀ x ∈ xs, x.size ≤ 9223372036854775807) :
    Calls Try.prog 31 #[.slice a xs.length c] w (SomeBoolB (C7Say xs) w) := by
  have HC := Lib.hid h
  have HZ := Lib.hid hz
  clear h hz
  obtain ⟨n, hnn⟩ : ∃ n, xs.length = n := ⟨_, rfl⟩
  rw [hnn] at HC hc hn ⊢
  have HN := Lib.hid hnn
  clear hnn
  go_enter Try.func31, Try.ntmps31
  go_wp2
  go_loopw [3] (fun i wr => ∃ (k : Nat), k ≤ n ∧ i = .int .i64 k ∧ Hid (C7 xs k) ∧ Hid (Below w.heap.size w wr)) (fun i _ => n - (intOf i).toNat)
  case atStart => exact ⟨0, by omega, rfl, Lib.hid ⟨fun j hj => by omega, by simp⟩, Lib.hid (Below.refl _ _)⟩
  case round =>
    obtain ⟨k, hk, rfl, hap, hbel⟩ := hrel
    by_cases hlt : k < n
    · have hcw := HC.out.below hbel.out
      obtain ⟨b, off, rfl, hcc⟩ := hcw.2 (by omega)
      have ck := hcc k hlt
      have hxz : (xs.getD k ByteArray.empty).size ≤ 9223372036854775807 := by
        rw [List.getD_eq_getElem?_getD, List.getElem?_eq_getElem (by have := HN.out; omega)]
        exact HZ.out _ (List.getElem_mem _)
      have HNEXT := Lib.hid (fun x => hap.out.next (by have := HN.out; omega) (x := x))
      obtain ⟨x, hx⟩ : ∃ x, xs.getD k ByteArray.empty = x := ⟨_, rfl⟩
      rw [hx] at ck hxz
      have HXX := Lib.hid hx
      have hkI : (k : Int) < (n : Int) := by omega
      have hkc : (k : Int) ≤ (c : Int) := by omega
      have HCW := Lib.hid hcw
      clear hcc hx hcw
      obtain ⟨pb, hpb⟩ : ∃ pb, printF x = pb := ⟨_, rfl⟩
      have HP := Lib.hid (fun w => printable_any x w hxz)
      rw [hpb] at HP
      have HPB := Lib.hid hpb
      clear hpb
      cases pb
      · clear HNEXT HC
        go_wp2
        go_quiet ((go_at_call 63; exact Calls.quiet_of_same ((HP.out _).mono fun e w' h => ⟨h.1, h.2.symm⟩)))
        go_wp2
        go_ret
        exact ⟨_, c7Say_false _, rfl, below_drewN hbel.out _⟩
      · by_cases q1 : 40 < x.size
        · have g1 : decide ((40 : Int) < (x.size : Int)) = true := by simp; omega
          have g1n : decide (40 < x.size) = true := by simp; omega
          clear HNEXT HC q1
          go_wp2
          go_quiet ((go_at_call 63; exact Calls.quiet_of_same ((HP.out _).mono fun e w' h => ⟨h.1, h.2.symm⟩)))
          go_wp2
          go_ret
          exact ⟨_, c7Say_false _, rfl, below_drewN hbel.out _⟩
        · have g1 : decide ((40 : Int) < (x.size : Int)) = false := by simp; omega
          have g1n : decide (40 < x.size) = false := by simp; omega
          have hbd : Below wr.heap.size wr wr.drew := (Below.refl _ _).drew
          have ckd : wr.drew.cell? ⟨b, off + k, none⟩ = some (.string x) := by simpa using ck
          have hj : Calls Try.prog 35 #[.slice (some ⟨b, off, none⟩) k c] wr.drew (JoinedPost xs k wr.drew) := joined7_any (some ⟨b, off, none⟩) xs k c wr.drew ((HCW.out.below hbd).part (by omega)) (by omega) (by have := HN.out; omega) (fun j hj => (hap.out.ok j hj).2)
          have hwd : ∀ (r : ByteArray), r.size ≤ 41 * k → Calls Try.prog 34 #[.string r, .string x] wr.drew (Tells (x.data.toList ∈ wl r.data.toList) wr.drew) := fun r hr => word_any r x wr.drew (by omega)
          have HJ := Lib.hid hj
          have HWD := Lib.hid hwd
          have HX40 := Lib.hid (show x.size ≤ 40 by omega)
          clear hj hwd q1 HC ck HCW
          go_wp2
          go_region_held3 (fun w' => Below wr.heap.size wr w' ∧ w'.cell? ⟨b, off + k, none⟩ = some (.string x)) (first | exact ⟨hbd.trans (hb9.out.mono hbd.size), cell_below hb9.out ckd⟩ | exact ⟨hbd, ckd⟩) (first | (go_at_call 63; refine (HP.out _).mono ?_; rintro e w8 ⟨rfl, rfl⟩) | (go_at_call 35; refine HJ.out.mono ?_; rintro e w8 ⟨r, rfl, hr, hrz, rfl⟩) | (go_at_call 34; refine (HWD.out r hrz).mono ?_; rintro e w9 ⟨bb, rfl, hbb, hb9⟩))
          have HB9 := Lib.hid (hbel.out.trans ((hbd.trans (hb9.out.mono hbd.size)).mono hbel.out.size))
          have hjw := joined_words (hap.out.name (by have := HN.out; omega))
          rw [hr.out, hjw] at hbb
          have HBB := Lib.hid hbb
          clear hbd ckd hb9 hbb hjw hr hap hbel HJ HWD
          cases bb
          · have hnx := HNEXT.out x HXX.out HPB.out HX40.out (fun hm => by have := HBB.out.out.2 hm; cases this)
            have HNX := Lib.hid hnx
            clear hnx
            go_wp2
            refine ⟨?rel, ?measure⟩
            case rel => exact ⟨k + 1, by omega, by go_num, HNX, HB9⟩
            case measure => simp [intOf]; omega
          · go_wp2
            go_ret
            exact ⟨_, c7Say_false _, rfl, HB9.out⟩
    · obtain rfl : k = n := by omega
      have HAP := hap
      by_cases q1 : 0 < k
      · have e1 : decide ((0 : Int) < (k : Int)) = true := by simp; omega
        have e1n : decide (0 < k) = true := by simp; omega
        by_cases q2 : k ≤ 8
        · have e2 : decide ((k : Int) ≤ 8) = true := by simp; omega
          have e2n : decide (k ≤ 8) = true := by simp; omega
          have hsay : C7Say xs true := fun _ => by
            have h1 := HAP.out.name (by have := HN.out; omega)
            have h2 := HAP.out.nodup
            have h3 : xs.take k = xs := List.take_of_length_le (by have := HN.out; omega)
            rw [h3] at h1 h2
            exact ⟨fun x hx => h1 _ (List.mem_map.2 ⟨x, hx, rfl⟩), h2, by have := HN.out; omega, by have := HN.out; omega⟩
          have HSAY := Lib.hid hsay
          clear hsay hlt q1 q2 hap HAP
          go_wp2
          go_ret
          exact ⟨true, HSAY.out, rfl, hbel.out⟩
        · have e2 : decide ((k : Int) ≤ 8) = false := by simp; omega
          have e2n : decide (k ≤ 8) = false := by simp; omega
          clear hlt q1 q2 hap HAP
          go_wp2
          go_ret
          exact ⟨_, c7Say_false _, rfl, hbel.out⟩
      · have e1 : decide ((0 : Int) < (k : Int)) = false := by simp; omega
        have e1n : decide (0 < k) = false := by simp; omega
        clear hlt q1 hap HAP
        go_wp2
        go_ret
        exact ⟨_, c7Say_false _, rfl, hbel.out⟩

end Go.Proofs.Ytoleejaabiafcaa
