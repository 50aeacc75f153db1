/- zzFits1 to zzFits4: they return. impl.fits, impl.right: of a right tree they say yes. -/
import Derived.Test.YtkdomegcacgpnaaGreatBaseAll
import Derived.Test.YtkdomegcacgpnaaGreatRightAll
namespace Go.Proofs.YtkdomegcacgpnaaGreat
open Go.RowKit
set_option linter.unusedVariables false
set_option linter.unusedSimpArgs false

set_option maxRecDepth 100000 in
set_option maxHeartbeats 1000000 in
theorem fits4_any (k v : ByteArray) (w : World) (hk : k.size ≤ maxLen) (hv : v.size ≤ maxLen) :
    Calls Tryz.prog 64 #[.agg #[.string k, .string v]] w (SomeBoolB (fun _ => True) w) := by
  unfold maxLen at hk hv
  have hbel : ∀ o, Below w.heap.size w (w.alloc o) := fun o => (Below.refl _ _).alloc (Nat.le_refl _) o
  have HB := Lib.hid hbel
  clear hbel
  go_enter Tryz.func64, Tryz.ntmps64
  go_wp2
  all_goals (go_ret; exact ⟨_, trivial, rfl, HB.out _⟩)

set_option maxRecDepth 100000 in
set_option maxHeartbeats 1000000 in
theorem fits3_any (a : Option Addr) (len cap : Nat) (l : List (ByteArray × ByteArray)) (w : World) (h : AttrsAt w a len l) :
    Calls Tryz.prog 29 #[.slice a len cap] w (SomeBoolB (fun _ => True) w) := by
  have hm := h.2.1
  unfold maxLen at hm
  have HA := Lib.hid h
  clear h
  go_enter Tryz.func29, Tryz.ntmps29
  go_wp2
  · go_ret
    exact ⟨_, trivial, rfl, Below.refl _ _⟩
  · go_loopw [10] (fun i wr => ∃ k : Nat, k ≤ len ∧ i = .int .i64 k ∧ Below w.heap.size w wr) (fun i _ => len - (intOf i).toNat)
    case atStart => exact ⟨0, Nat.zero_le _, rfl, Below.refl _ _⟩
    case round =>
      obtain ⟨k, hk, rfl, hbel⟩ := hrel
      have HB := Lib.hid hbel
      have HA1 := Lib.hid (HA.out.below hbel)
      clear hbel
      by_cases hlt : k < len
      · obtain ⟨q1, q2, q3, q4⟩ := HA1.out
        obtain ⟨b, off, rfl, hc⟩ := q4 (by omega)
        have ck := (hc k hlt).1
        have cv := (hc k hlt).2
        have hs := q3 _ (getD_mem' (d := default) (by omega : k < l.length))
        obtain ⟨key, hkey⟩ : ∃ y, (l.getD k default).1 = y := ⟨_, rfl⟩
        obtain ⟨val, hval⟩ : ∃ y, (l.getD k default).2 = y := ⟨_, rfl⟩
        rw [hkey] at ck hs
        rw [hval] at cv hs
        have HS := Lib.hid hs
        clear q1 q2 q3 q4 hc hkey hval hs
        go_wp2_with fail
        refine (fits4_any key val _ HS.out.1 HS.out.2).mono ?_
        rintro e w2 ⟨r, _, rfl, hb2⟩
        have hb3 : Below w.heap.size w w2 := (HB.out.alloc HB.out.size _).trans (hb2.mono (by have := HB.out.size; simp; omega))
        have HB3 := Lib.hid hb3
        clear hb2 hb3
        cases r
        · go_wp2
          go_ret
          exact ⟨_, trivial, rfl, HB3.out⟩
        · go_wp2
          go_roundw
          case rel => exact ⟨k + 1, by omega, by go_num, HB3.out⟩
          case measure => simp [intOf]; omega
      · go_wp2
        go_ret
        exact ⟨_, trivial, rfl, HB.out⟩

set_option maxRecDepth 100000 in
set_option maxHeartbeats 1000000 in
theorem fits2_any (k z : Int) (tag text : ByteArray) (aa : Option Addr) (al ac : Nat) (l : List (ByteArray × ByteArray)) (w : World) (h : AttrsAt w aa al l) (h1 : tag.size ≤ maxLen) (h2 : text.size ≤ maxLen) :
    Calls Tryz.prog 15 #[.agg #[.int .i64 k, .string tag, .string text, .slice aa al ac, .int .i64 z]] w (SomeBoolB (fun _ => True) w) := by
  unfold maxLen at h1 h2
  have hbel : ∀ o, Below w.heap.size w (w.alloc o) := fun o => (Below.refl _ _).alloc (Nat.le_refl _) o
  have hcall := fun (o : Obj) => fits3_any aa al ac l (w.alloc o) (h.below (hbel o))
  have HB := Lib.hid hbel
  have HC := Lib.hid hcall
  clear hbel hcall h
  go_enter Tryz.func15, Tryz.ntmps15
  go_wp2_with fail
  · go_ret; exact ⟨_, trivial, rfl, HB.out _⟩
  · go_ret; exact ⟨_, trivial, rfl, HB.out _⟩
  · refine (HC.out _).mono ?_
    rintro e w2 ⟨r, _, rfl, hb2⟩
    have hb3 : Below w.heap.size w w2 := (HB.out _).trans (hb2.mono (by simp))
    have HB3 := Lib.hid hb3
    clear hb2 hb3
    cases r
    all_goals
      go_wp2
      go_ret
      exact ⟨_, trivial, rfl, HB3.out⟩

set_option maxRecDepth 100000 in
set_option maxHeartbeats 1000000 in
theorem fits1_any (a : Option Addr) (len cap : Nat) (ts : List NodeD) (w : World) (h : Nodes w a len ts) :
    Calls Tryz.prog 5 #[.slice a len cap] w (SomeBoolB (fun _ => True) w) := by
  have hm := h.len.2
  have HN := Lib.hid h
  clear h
  go_enter Tryz.func5, Tryz.ntmps5
  go_wp2
  · go_ret
    exact ⟨_, trivial, rfl, Below.refl _ _⟩
  · go_loopw [10] (fun i wr => ∃ k : Nat, k ≤ len ∧ i = .int .i64 k ∧ Below w.heap.size w wr) (fun i _ => len - (intOf i).toNat)
    case atStart => exact ⟨0, Nat.zero_le _, rfl, Below.refl _ _⟩
    case round =>
      obtain ⟨k, hk, rfl, hbel⟩ := hrel
      have HB := Lib.hid hbel
      have HN1 := Lib.hid (HN.out.below hbel)
      clear hbel
      by_cases hlt : k < len
      · obtain ⟨b, off, rfl, hc⟩ := HN1.out.at (by omega)
        have c := hc k hlt
        have c0 := c.kind
        have c1 := c.tag
        have c2 := c.text
        have c3 := c.attrs
        have c4 := c.size
        have hcall := fun (o : Obj) => fits2_any (ts.getD k default).kind (ts.getD k default).size (ts.getD k default).tag (ts.getD k default).text (ts.getD k default).aa (ts.getD k default).al (ts.getD k default).ac (ts.getD k default).attrs (wr.alloc o)
          (c.at_.below ((Below.refl _ _).alloc (Nat.le_refl _) o)) c.wt.1 c.wt.2
        have HC := Lib.hid hcall
        clear c hc hcall
        generalize ts.getD k default = n at *
        obtain ⟨nk, tag, text, aa, al, ac, attrs, size⟩ := n
        simp only at c0 c1 c2 c3 c4
        go_wp2_with fail
        refine (HC.out _).mono ?_
        rintro e w2 ⟨r, _, rfl, hb2⟩
        have hb3 : Below w.heap.size w w2 := (HB.out.alloc HB.out.size _).trans (hb2.mono (by have := HB.out.size; simp; omega))
        have HB3 := Lib.hid hb3
        clear hb2 hb3
        cases r
        · go_wp2
          go_ret
          exact ⟨_, trivial, rfl, HB3.out⟩
        · go_wp2
          go_roundw
          case rel => exact ⟨k + 1, by omega, by go_num, HB3.out⟩
          case measure => simp [intOf]; omega
      · go_wp2
        go_ret
        exact ⟨_, trivial, rfl, HB.out⟩

end Go.Proofs.YtkdomegcacgpnaaGreat

namespace Go.Proofs.YtkdomegcacgpnaaGreat
open Go.RowKit
set_option linter.unusedVariables false
set_option linter.unusedSimpArgs false


/-- The kinds of a right tree's nodes behind the root. -/
theorem RightT.kinds {ts : List NodeD} {len : Nat} (h : RightT ts len) {j : Nat} (hj : j < len) (h0 : 0 < j) :
    ((ts.getD j default).kind = 3) ∨ (((ts.getD j default).kind = 2 ∨ (ts.getD j default).kind = 4 ∨ (ts.getD j default).kind = 5) ∧ sz ts j = 1) := by
  rcases (h.node j hj).kinds with ⟨_, h1⟩ | h1 | h1 | h1 | h1
  · omega
  · exact .inr ⟨.inl h1.1, h1.2⟩
  · exact .inl h1
  · exact .inr ⟨.inr (.inl h1.1), h1.2⟩
  · exact .inr ⟨.inr (.inr h1.1), h1.2⟩

set_option maxRecDepth 100000 in
set_option maxHeartbeats 2000000 in
theorem ifits_any (a : Option Addr) (len cap : Nat) (ts : List NodeD) (hR : RightT ts len) (m : Nat) : ∀ (at_ to : Nat) (w : World), Nodes w a len ts → to - at_ ≤ m → 1 ≤ at_ → at_ ≤ to → to ≤ len → (∀ j, at_ ≤ j → j < to → j + sz ts j ≤ to) →
    Calls Tryz.prog 116 #[.slice a len cap, .int .i64 at_, .int .i64 to] w (YesB w) := by
  have hlen := hR.le
  have HR := Lib.hid hR
  clear hR
  induction m with
  | zero =>
    intro at_ to w h hm h1 hat hto hin
    obtain rfl : at_ = to := by omega
    clear h
    go_enter Tryz.func116, Tryz.ntmps116
    go_wp2
    go_loop [1] (fun i => i = .int .i64 at_) (fun _ => 0)
    case atStart => rfl
    case round =>
      subst hrel
      go_wp2
      go_ret
      exact ⟨rfl, Below.refl _ _⟩
  | succ m ih =>
    intro at_ to w h hm h1 hat hto hin
    have HN := Lib.hid h
    have HI := Lib.hid hin
    have IH := Lib.hid ih
    clear h hin ih
    go_enter Tryz.func116, Tryz.ntmps116
    go_wp2
    go_loopw [1] (fun i wr => ∃ k : Nat, at_ ≤ k ∧ k ≤ to ∧ i = .int .i64 k ∧ Below w.heap.size w wr) (fun i _ => to - (intOf i).toNat)
    case atStart => exact ⟨at_, Nat.le_refl _, hat, rfl, Below.refl _ _⟩
    case round =>
      obtain ⟨k, hk1, hk2, rfl, hbel⟩ := hrel
      have HB := Lib.hid hbel
      have HN1 := Lib.hid (HN.out.below hbel)
      clear hbel
      by_cases hlt : k < to
      · obtain ⟨b, off, rfl, hc⟩ := HN1.out.at (by omega)
        have c := hc k (by omega)
        have c0 := c.kind
        have c1 := c.tag
        have c2 := c.text
        have c3 := c.attrs
        have c4 := c.size
        have hz := (HR.out.sizes k (by omega)).2.1
        have hz1 := (HR.out.sizes k (by omega)).1
        have hz2 := HI.out k hk1 hlt
        have hkind := HR.out.kinds (j := k) (by omega) (by omega)
        have hsub : ∀ j, k + 1 ≤ j → j < k + sz ts k → j + sz ts j ≤ k + sz ts k := fun j h1 h2 => (HR.out.sizes k (by omega)).2.2 j (by omega) h2
        have hcall := fun (o : Obj) => IH.out (k + 1) (k + sz ts k) (wr.alloc o) (HN1.out.below ((Below.refl _ _).alloc (Nat.le_refl _) o)) (by omega) (by omega) (by omega) (by omega) hsub
        rw [hz] at c4
        have HC := Lib.hid hcall
        clear c hc hz hsub hcall
        generalize (ts.getD k default).kind = q at c0 hkind
        generalize (ts.getD k default).tag = tag at c1
        generalize (ts.getD k default).text = text at c2
        generalize (ts.getD k default).aa = aa at c3
        generalize (ts.getD k default).al = al at c3
        generalize (ts.getD k default).ac = ac at c3
        generalize sz ts k = z at *
        have hcall := HC.out
        rw [show (((k + 1 : Nat) : Int)) = (k : Int) + 1 from by omega, show (((k + z : Nat) : Int)) = (k : Int) + (z : Int) from by omega] at hcall
        have HC2 := Lib.hid hcall
        clear HC hcall
        have g1 : decide ((z : Int) < 1) = false := by simp; omega
        have g2 : decide ((to : Int) - (k : Int) < (z : Int)) = false := by simp; omega
        have g3 : decide (q ≤ (1 : Int)) = false := by simp; omega
        have g4 : decide ((5 : Int) < q) = false := by simp; omega
        rcases hkind with rfl | ⟨hq, rfl⟩
        · go_wp2_with fail
          refine (HC2.out _).mono ?_
          rintro e w2 ⟨rfl, hb2⟩
          have hb3 : Below w.heap.size w w2 := (HB.out.alloc HB.out.size _).trans (hb2.mono (by have := HB.out.size; simp; omega))
          have hw2 : wr.heap.size < w2.heap.size := by have := hb2.size; simp at this; omega
          have hcz : w2.cell? ⟨wr.heap.size, 4, none⟩ = some (.int .i64 (z : Int)) := (hb2.cell (p := ⟨wr.heap.size, 4, none⟩) (by simp)).trans (by simp)
          have HB3 := Lib.hid hb3
          clear hb2 hb3
          go_wp2
          go_roundw
          case rel => exact ⟨k + z, by omega, by omega, by go_num, HB3.out⟩
          case measure => simp [intOf]; omega
        · have g2' : decide ((to : Int) - (k : Int) < (1 : Int)) = false := by simp; omega
          have hcall := HC2.out
          rw [show (((1 : Nat) : Int)) = 1 from rfl] at hcall c4
          have HC3 := Lib.hid hcall
          clear hcall g2 g1 HC2
          rcases hq with rfl | rfl | rfl
          all_goals
            go_wp2_with fail
            refine (HC3.out _).mono ?_
            rintro e w2 ⟨rfl, hb2⟩
            have hb3 : Below w.heap.size w w2 := (HB.out.alloc HB.out.size _).trans (hb2.mono (by have := HB.out.size; simp; omega))
            have hw2 : wr.heap.size < w2.heap.size := by have := hb2.size; simp at this; omega
            have hcz : w2.cell? ⟨wr.heap.size, 4, none⟩ = some (.int .i64 1) := (hb2.cell (p := ⟨wr.heap.size, 4, none⟩) (by simp)).trans (by simp)
            have HB3 := Lib.hid hb3
            clear hb2 hb3
            go_wp2
            go_roundw
            case rel => exact ⟨k + 1, by omega, by omega, by go_num, HB3.out⟩
            case measure => simp [intOf]; omega
      · go_wp2
        go_ret
        exact ⟨rfl, HB.out⟩

set_option maxRecDepth 100000 in
theorem iright_any (a : Option Addr) (len cap : Nat) (ts : List NodeD) (hR : RightT ts len) (w : World) (h : Nodes w a len ts) :
    Calls Tryz.prog 65 #[.slice a len cap] w (YesB w) := by
  have hlen := hR.le
  have hpos := hR.pos
  have hcall := ifits_any a len cap ts hR len 1 len w h (by omega) (Nat.le_refl _) (by omega) (Nat.le_refl _) (fun j h1 h2 => hR.nest.fit j h2)
  obtain ⟨b, off, rfl, hc⟩ := h.at hpos
  have c0 := (hc 0 hpos).kind
  have c4 := (hc 0 hpos).size
  rw [(hR.sizes 0 hpos).2.1, hR.root] at c4
  rw [show (ts.getD 0 default).kind = 1 from hR.kind] at c0
  rw [Nat.zero_mul, Nat.add_zero] at c0 c4
  have g0 : ((len : Int) == 0) = false := by simp; omega
  have HC := Lib.hid hcall
  clear hc h hR hcall
  go_enter Tryz.func65, Tryz.ntmps65
  go_wp2_with fail
  refine HC.out.mono ?_
  rintro e w2 ⟨rfl, hb2⟩
  have HB := Lib.hid hb2
  clear hb2
  go_wp2
  go_ret
  exact ⟨rfl, HB.out⟩

end Go.Proofs.YtkdomegcacgpnaaGreat

