/- Parts of a proof: SpPn, FitsS. -/
import Derived.Test.YtoanofdomhnafaaGreatDoorG03
import Derived.Test.YtoanofdomhnafaaGreatDoorG00
set_option linter.unusedVariables false
set_option linter.unusedSimpArgs false
namespace Go.Proofs.YtoanofdomhnafaaGreatDoor
open Go.RowKit
theorem encode_pos (i : Int) : 0 < (Utf8.encode i).size := by
  unfold Utf8.encode
  simp only
  repeat' split
  all_goals simp [ByteArray.size]
theorem pn_prefix (s p : ByteArray) : ∀ (m i : Nat) (o : ByteArray), s.size - i ≤ m → pn s i (p ++ o) = (pn s i o).map (fun x => (p ++ x.1, x.2))
  | m, i, o, hm => by
    by_cases hi : i < s.size
    · match m, hm with
      | 0, hm => omega
      | m + 1, hm =>
        by_cases hn : isNc (nx s i) = true
        · rw [pn_nc hi hn, pn_nc hi hn, ByteArray.append_assoc]
          exact pn_prefix s p m (i + 1) _ (by omega)
        · by_cases h92 : nx s i = 92
          · cases he : esc s i with
            | none => rw [pn_none hi h92 he, pn_none hi h92 he]; rfl
            | some q =>
              obtain ⟨a, j'⟩ := q
              rw [pn_some hi h92 he, pn_some hi h92 he, ByteArray.append_assoc]
              exact pn_prefix s p m j' _ (by have := esc_lt he; omega)
          · rw [pn_stop (by simpa using hn) h92, pn_stop (by simpa using hn) h92]; rfl
    · rw [pn_end (by omega), pn_end (by omega)]; rfl
theorem pn_grow (s : ByteArray) : ∀ (m i j : Nat) (o out : ByteArray), s.size - i ≤ m → pn s i o = some (out, j) → o.size ≤ out.size
  | m, i, j, o, out, hm, h => by
    by_cases hi : i < s.size
    · match m, hm with
      | 0, hm => omega
      | m + 1, hm =>
        by_cases hn : isNc (nx s i) = true
        · rw [pn_nc hi hn] at h
          have := pn_grow s m (i + 1) j _ out (by omega) h
          rw [ByteArray.size_append] at this
          omega
        · by_cases h92 : nx s i = 92
          · cases he : esc s i with
            | none => rw [pn_none hi h92 he] at h; cases h
            | some p =>
              obtain ⟨a, j'⟩ := p
              rw [pn_some hi h92 he] at h
              have h1 := pn_grow s m j' j _ out (by have := esc_lt he; omega) h
              rw [ByteArray.size_append] at h1
              omega
          · rw [pn_stop (by simpa using hn) h92] at h
            simp only [Option.some.injEq, Prod.mk.injEq] at h
            rw [← h.1]
            exact Nat.le_refl _
    · rw [pn_end (by omega)] at h
      simp only [Option.some.injEq, Prod.mk.injEq] at h
      rw [← h.1]
      exact Nat.le_refl _
theorem esc_pos {s : ByteArray} {i j : Nat} {a : ByteArray} (h : esc s i = some (a, j)) : 0 < a.size := by
  unfold esc at h
  have := encode_pos (hexVal s (i + 1) (hexN s (i + 1) 6))
  repeat' split at h
  all_goals simp at h
  · rw [← h.1]; exact this
  · rw [← h.1, ByteArray.size_extract]; omega
theorem isNs_isNc {n : Int} (h : isNs n = true) : isNc n = true := by
  simp only [isNs, decide_eq_true_eq] at h
  simp only [isNc, decide_eq_true_eq]
  omega
/-- What begins a name adds to it. -/
theorem pn_begun {s : ByteArray} {m j : Nat} {out : ByteArray} (hst : startA s m) (h : pn s m ByteArray.empty = some (out, j)) : out ≠ ByteArray.empty := by
  have hpos : 0 < out.size := by
    rcases hst with ⟨hm, hs | hs⟩
    · rw [pn_nc hm (isNs_isNc hs)] at h
      have := pn_grow s s.size _ _ _ _ (by omega) h
      rw [ByteArray.size_append, ByteArray.size_extract] at this
      omega
    · cases he : esc s m with
      | none => rw [pn_none hm hs he] at h; cases h
      | some p =>
        obtain ⟨a, j'⟩ := p
        rw [pn_some hm hs he] at h
        have h1 := pn_grow s s.size _ _ _ _ (by omega) h
        have h2 := esc_pos he
        rw [ByteArray.size_append] at h1
        omega
  intro he
  rw [he] at hpos
  simp at hpos
/-- A written name at a place. -/
theorem ident_pn {t : ByteArray} (hz : ∀ i, i < t.size → nx t i ≠ 0) (hne : 0 < t.size) {s : ByteArray} {i : Nat} (h : At s i (namedF t)) (hs : Stop s (i + (namedF t).length)) :
    ∃ m out, m ≤ 1 ∧ HyphA s i m ∧ startA s (i + m) ∧ pn s (i + m) ByteArray.empty = some (out, i + (namedF t).length) ∧ out ≠ ByteArray.empty := by
  obtain ⟨m, hy, hst, hm⟩ := named_startA hne h
  have hp := pn_namedA t hz h hs
  obtain ⟨j, hj⟩ : ∃ j, i + (namedF t).length = j := ⟨_, rfl⟩
  rw [hj] at hp ⊢
  rcases Nat.lt_or_ge 0 m with h0 | h0
  · obtain rfl : m = 1 := by omega
    have h45 := hy.2.1 0 (by omega)
    rw [Nat.add_zero] at h45
    have hi : i < s.size := by have := hst.1; omega
    rw [pn_nc hi (by rw [h45]; decide), ByteArray.empty_append] at hp
    have h2 := pn_prefix s (s.extract i (i + 1)) s.size (i + 1) ByteArray.empty (by omega)
    rw [ByteArray.append_empty, hp] at h2
    cases he : pn s (i + 1) ByteArray.empty with
    | none => rw [he] at h2; cases h2
    | some x =>
      obtain ⟨out, j'⟩ := x
      rw [he] at h2
      simp only [Option.map_some, Option.some.injEq, Prod.mk.injEq] at h2
      obtain ⟨_, rfl⟩ := h2
      exact ⟨1, out, by omega, hy, hst, he, pn_begun hst he⟩
  · obtain rfl : m = 0 := by omega
    rw [Nat.add_zero] at hst
    refine ⟨0, t, by omega, hy, by rwa [Nat.add_zero], by rwa [Nat.add_zero], ?_⟩
    intro e
    rw [e] at hne
    simp at hne
def FitsX (x : SelD) : Prop := x.key.size ≤ 2147483647 ∧ x.val.size ≤ 2147483647
def FitPost (p : Prop) (w : World) (e : Ending) (w' : World) : Prop := ∃ b, (b = true → p) ∧ e = .returned (.bool b) ∧ Hid (Below w.heap.size w w')
set_option maxRecDepth 100000 in
set_option maxHeartbeats 1000000 in
theorem fits6S_any (x : SelD) (w : World) (hk : x.key.size ≤ maxLen) (hv : x.val.size ≤ maxLen) :
    Calls Tryz.prog 11 #[.agg #[.int .i64 x.kind, .int .i64 x.op, .string x.key, .string x.val, .int .i64 x.a, .int .i64 x.b, .int .i64 x.flag, .int .i64 x.size]] w (FitPost (FitsX x) w) := by
  obtain ⟨kd_, op_, key, val, a_, b_, fl_, sz_⟩ := x
  simp only at hk hv ⊢
  unfold maxLen at hk hv
  have hbel : ∀ o, Below w.heap.size w (w.alloc o) := fun o => (Below.refl _ _).alloc (Nat.le_refl _) o
  have HB := Lib.hid hbel
  clear hbel
  by_cases h1 : 2147483647 < key.size
  · have g1 : decide ((2147483647 : Int) < (key.size : Int)) = true := by simp; omega
    clear h1
    go_enter Tryz.func11, Tryz.ntmps11
    go_wp2
    go_ret
    exact ⟨false, (fun h => by cases h), rfl, Lib.hid (HB.out _)⟩
  · have g1 : decide ((2147483647 : Int) < (key.size : Int)) = false := by simp; omega
    have H1 := Lib.hid h1
    clear h1
    by_cases h2 : 2147483647 < val.size
    · have g2 : decide ((2147483647 : Int) < (val.size : Int)) = true := by simp; omega
      clear h2
      go_enter Tryz.func11, Tryz.ntmps11
      go_wp2
      go_ret
      exact ⟨false, (fun h => by cases h), rfl, Lib.hid (HB.out _)⟩
    · have g2 : decide ((2147483647 : Int) < (val.size : Int)) = false := by simp; omega
      have H2 := Lib.hid h2
      clear h2
      go_enter Tryz.func11, Tryz.ntmps11
      go_wp2
      go_ret
      exact ⟨true, (fun _ => ⟨by have := H1.out; show key.size ≤ _; omega, by have := H2.out; show val.size ≤ _; omega⟩), rfl, Lib.hid (HB.out _)⟩
set_option maxRecDepth 100000 in
set_option maxHeartbeats 1000000 in
theorem fits5S_any (a : Option Addr) (len cap : Nat) (l : List SelD) (w : World) (h : Sels w a len l) :
    Calls Tryz.prog 4 #[.slice a len cap] w (FitPost (∀ j, j < len → FitsX (l.getD j default)) w) := by
  have hm := h.len.2
  have HN := Lib.hid h
  clear h
  go_enter Tryz.func4, Tryz.ntmps4
  go_wp2
  · go_ret
    exact ⟨false, (fun h => by cases h), rfl, Lib.hid (Below.refl _ _)⟩
  · go_loopw [10] (fun i wr => ∃ k : Nat, k ≤ len ∧ i = .int .i64 k ∧ Hid (∀ j, j < k → FitsX (l.getD j default)) ∧ Hid (Below w.heap.size w wr)) (fun i _ => len - (intOf i).toNat)
    case atStart => exact ⟨0, Nat.zero_le _, rfl, Lib.hid (fun j hj => absurd hj (by omega)), Lib.hid (Below.refl _ _)⟩
    case round =>
      obtain ⟨k, hk, rfl, HD, HB⟩ := hrel
      have HN1 := Lib.hid (HN.out.below HB.out)
      by_cases hlt : k < len
      · obtain ⟨b, off, rfl, hc⟩ := HN1.out.at (by omega)
        have c := hc k hlt
        have c0 := c.kind
        have c1 := c.op
        have c2 := c.key
        have c3 := c.val
        have c4 := c.a
        have c5 := c.b
        have c6 := c.flag
        have c7 := c.size
        have hcall := fun (o : Obj) => fits6S_any (l.getD k default) (wr.alloc o) c.w_key c.w_val
        have HC := Lib.hid hcall
        clear c hc hcall
        obtain ⟨n, hn⟩ : ∃ n, l.getD k default = n := ⟨_, rfl⟩
        rw [hn] at c0 c1 c2 c3 c4 c5 c6 c7
        simp only [hn] at HC
        have HNN := Lib.hid hn
        clear hn
        obtain ⟨kd_, op_, key, val, a_, b_, fl_, sz_⟩ := n
        simp only at c0 c1 c2 c3 c4 c5 c6 c7 HC
        go_wp2_with fail
        refine (HC.out _).mono ?_
        rintro e w2 ⟨r, hr, rfl, hb2⟩
        have hb3 : Below w.heap.size w w2 := (HB.out.alloc HB.out.size _).trans (hb2.out.mono (by have := HB.out.size; simp; omega))
        have HB3 := Lib.hid hb3
        have HR := Lib.hid hr
        clear hb2 hb3 hr
        cases r
        · go_wp2
          go_ret
          exact ⟨false, (fun h => by cases h), rfl, HB3⟩
        · go_wp2
          go_roundw
          case rel =>
            refine ⟨k + 1, by omega, by go_num, Lib.hid fun j hj => ?_, HB3⟩
            rcases Nat.lt_or_ge j k with hl | hl
            · exact HD.out j hl
            · obtain rfl : j = k := by omega
              rw [HNN.out]
              exact HR.out (by trivial)
          case measure => simp [intOf]; omega
      · obtain rfl : k = len := by omega
        go_wp2
        go_ret
        exact ⟨true, fun _ => HD.out, rfl, HB⟩
end Go.Proofs.YtoanofdomhnafaaGreatDoor
