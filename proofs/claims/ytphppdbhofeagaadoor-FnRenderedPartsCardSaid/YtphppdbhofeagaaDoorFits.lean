/- zzFits1 to zzFits4: they return. -/
import Derived.Test.YtphppdbhofeagaaDoorNodes
namespace Go.Proofs.YtphppdbhofeagaaDoor
open Go.RowKit
set_option linter.unusedVariables false
set_option linter.unusedSimpArgs false

set_option maxRecDepth 100000 in
set_option maxHeartbeats 1000000 in
theorem fits4_any (k v : ByteArray) (w : World) (hk : k.size ≤ maxLen) (hv : v.size ≤ maxLen) :
    Calls Tryd.prog 29 #[.agg #[.string k, .string v]] w (SomeBoolB (fun _ => True) w) := by
  unfold maxLen at hk hv
  have hbel : ∀ o, Below w.heap.size w (w.alloc o) := fun o => (Below.refl _ _).alloc (Nat.le_refl _) o
  have HB := Lib.hid hbel
  clear hbel
  go_enter Tryd.func29, Tryd.ntmps29
  go_wp2
  all_goals (go_ret; exact ⟨_, trivial, rfl, HB.out _⟩)

set_option maxRecDepth 100000 in
set_option maxHeartbeats 1000000 in
theorem fits3_any (a : Option Addr) (len cap : Nat) (l : List (ByteArray × ByteArray)) (w : World) (h : AttrsAt w a len l) :
    Calls Tryd.prog 18 #[.slice a len cap] w (SomeBoolB (fun _ => True) w) := by
  have hm := h.2.1
  unfold maxLen at hm
  have HA := Lib.hid h
  clear h
  go_enter Tryd.func18, Tryd.ntmps18
  go_wp2
  · go_ret
    exact ⟨_, trivial, rfl, Below.refl _ _⟩
  · go_loopw [10] (fun i wr => ∃ k : Nat, k ≤ len ∧ i = .int .i64 k ∧ Below w.heap.size w wr) (fun i _ => len - (intOf i).toNat)
    case atStart => exact ⟨0, Nat.zero_le _, rfl, Below.refl _ _⟩
    case round =>
      obtain ⟨k, hk, rfl, hbel⟩ := hrel
      have HB := Lib.hid hbel
      have HA1 := Lib.hid (HA.out.below hbel)
      clear hbel
      by_cases hlt : k < len
      · obtain ⟨q1, q2, q3, q4⟩ := HA1.out
        obtain ⟨b, off, rfl, hc⟩ := q4 (by omega)
        have ck := (hc k hlt).1
        have cv := (hc k hlt).2
        have hs := q3 _ (getD_mem' (d := default) (by omega : k < l.length))
        obtain ⟨key, hkey⟩ : ∃ y, (l.getD k default).1 = y := ⟨_, rfl⟩
        obtain ⟨val, hval⟩ : ∃ y, (l.getD k default).2 = y := ⟨_, rfl⟩
        rw [hkey] at ck hs
        rw [hval] at cv hs
        have HS := Lib.hid hs
        clear q1 q2 q3 q4 hc hkey hval hs
        go_wp2_with fail
        refine (fits4_any key val _ HS.out.1 HS.out.2).mono ?_
        rintro e w2 ⟨r, _, rfl, hb2⟩
        have hb3 : Below w.heap.size w w2 := (HB.out.alloc HB.out.size _).trans (hb2.mono (by have := HB.out.size; simp; omega))
        have HB3 := Lib.hid hb3
        clear hb2 hb3
        cases r
        · go_wp2
          go_ret
          exact ⟨_, trivial, rfl, HB3.out⟩
        · go_wp2
          go_roundw
          case rel => exact ⟨k + 1, by omega, by go_num, HB3.out⟩
          case measure => simp [intOf]; omega
      · go_wp2
        go_ret
        exact ⟨_, trivial, rfl, HB.out⟩

set_option maxRecDepth 100000 in
set_option maxHeartbeats 1000000 in
theorem fits2_any (k z : Int) (tag text : ByteArray) (aa : Option Addr) (al ac : Nat) (l : List (ByteArray × ByteArray)) (w : World) (h : AttrsAt w aa al l) (h1 : tag.size ≤ maxLen) (h2 : text.size ≤ maxLen) :
    Calls Tryd.prog 10 #[.agg #[.int .i64 k, .string tag, .string text, .slice aa al ac, .int .i64 z]] w (SomeBoolB (fun _ => True) w) := by
  unfold maxLen at h1 h2
  have hbel : ∀ o, Below w.heap.size w (w.alloc o) := fun o => (Below.refl _ _).alloc (Nat.le_refl _) o
  have hcall := fun (o : Obj) => fits3_any aa al ac l (w.alloc o) (h.below (hbel o))
  have HB := Lib.hid hbel
  have HC := Lib.hid hcall
  clear hbel hcall h
  go_enter Tryd.func10, Tryd.ntmps10
  go_wp2_with fail
  · go_ret; exact ⟨_, trivial, rfl, HB.out _⟩
  · go_ret; exact ⟨_, trivial, rfl, HB.out _⟩
  · refine (HC.out _).mono ?_
    rintro e w2 ⟨r, _, rfl, hb2⟩
    have hb3 : Below w.heap.size w w2 := (HB.out _).trans (hb2.mono (by simp))
    have HB3 := Lib.hid hb3
    clear hb2 hb3
    cases r
    all_goals
      go_wp2
      go_ret
      exact ⟨_, trivial, rfl, HB3.out⟩

set_option maxRecDepth 100000 in
set_option maxHeartbeats 1000000 in
theorem fits1_any (a : Option Addr) (len cap : Nat) (ts : List NodeD) (w : World) (h : Nodes w a len ts) :
    Calls Tryd.prog 4 #[.slice a len cap] w (SomeBoolB (fun _ => True) w) := by
  have hm := h.len.2
  have HN := Lib.hid h
  clear h
  go_enter Tryd.func4, Tryd.ntmps4
  go_wp2
  · go_ret
    exact ⟨_, trivial, rfl, Below.refl _ _⟩
  · go_loopw [10] (fun i wr => ∃ k : Nat, k ≤ len ∧ i = .int .i64 k ∧ Below w.heap.size w wr) (fun i _ => len - (intOf i).toNat)
    case atStart => exact ⟨0, Nat.zero_le _, rfl, Below.refl _ _⟩
    case round =>
      obtain ⟨k, hk, rfl, hbel⟩ := hrel
      have HB := Lib.hid hbel
      have HN1 := Lib.hid (HN.out.below hbel)
      clear hbel
      by_cases hlt : k < len
      · obtain ⟨b, off, rfl, hc⟩ := HN1.out.at (by omega)
        have c := hc k hlt
        have c0 := c.kind
        have c1 := c.tag
        have c2 := c.text
        have c3 := c.attrs
        have c4 := c.size
        have hcall := fun (o : Obj) => fits2_any (ts.getD k default).kind (ts.getD k default).size (ts.getD k default).tag (ts.getD k default).text (ts.getD k default).aa (ts.getD k default).al (ts.getD k default).ac (ts.getD k default).attrs (wr.alloc o)
          (c.at_.below ((Below.refl _ _).alloc (Nat.le_refl _) o)) c.wt.1 c.wt.2
        have HC := Lib.hid hcall
        clear c hc hcall
        generalize ts.getD k default = n at *
        obtain ⟨nk, tag, text, aa, al, ac, attrs, size⟩ := n
        simp only at c0 c1 c2 c3 c4
        go_wp2_with fail
        refine (HC.out _).mono ?_
        rintro e w2 ⟨r, _, rfl, hb2⟩
        have hb3 : Below w.heap.size w w2 := (HB.out.alloc HB.out.size _).trans (hb2.mono (by have := HB.out.size; simp; omega))
        have HB3 := Lib.hid hb3
        clear hb2 hb3
        cases r
        · go_wp2
          go_ret
          exact ⟨_, trivial, rfl, HB3.out⟩
        · go_wp2
          go_roundw
          case rel => exact ⟨k + 1, by omega, by go_num, HB3.out⟩
          case measure => simp [intOf]; omega
      · go_wp2
        go_ret
        exact ⟨_, trivial, rfl, HB.out⟩

end Go.Proofs.YtphppdbhofeagaaDoor
