/- spec.PlainKids, spec.PlainDocument. -/
import Derived.Test.YtphppdbhofeagaaDoorReadText
namespace Go.Proofs.YtphppdbhofeagaaDoor
open Go.RowKit
set_option linter.unusedVariables false
set_option linter.unusedSimpArgs false

/-- What a node of a plain document is, with its attributes' values. -/
def PlainR (n : NodeD) : Prop := PlainNode n ∧ (n.kind = 3 → NoCrs n.attrs)

def KidsSay (ts : List NodeD) (at_ : Nat) (b : Bool) : Prop := b = true → ∀ i, at_ < i → i < at_ + sz ts at_ → PlainR (ts.getD i default)
theorem kidsSay_false (ts : List NodeD) (at_ : Nat) : KidsSay ts at_ false := by intro h; cases h

set_option maxRecDepth 100000 in
set_option maxHeartbeats 8000000 in
theorem plainKids_any (a : Option Addr) (len cap : Nat) (ts : List NodeD) (hR : RightT ts len) : ∀ (m at_ : Nat) (w : World), Nodes w a len ts → TabsAt w → at_ < len → sz ts at_ ≤ m →
    Calls Tryd.prog 13 #[.slice a len cap, .int .i64 at_] w (SomeBoolB (KidsSay ts at_) w) := by
  intro m
  induction m with
  | zero => intro at_ w h hT hat hm; have := (hR.sizes at_ hat).1; omega
  | succ m ih =>
    intro at_ w h hT hat hm
    have hm' := h.len.2
    have hpos := (hR.sizes at_ hat).1
    have hend := hR.nest.fit at_ hat
    have HIH := Lib.hid ih
    have HN := Lib.hid h
    have HT := Lib.hid hT
    have HR := Lib.hid hR
    obtain ⟨b, off, rfl, hc⟩ := h.at (by omega)
    have hs4 : ∀ j, j < len → w.cell? ⟨b, off + j * 5 + 4, none⟩ = some (.int .i64 (sz ts j : Int)) := fun j hj => by rw [(hc j hj).size, (hR.sizes j hj).2.1]
    have HS4 := Lib.hid hs4
    have HC := Lib.hid hc
    clear ih h hT hR hc hs4
    go_enter Tryd.func13, Tryd.ntmps13
    go_wp2
    go_loopw [5, 6] (fun tv kv wr => ∃ (k : Nat) (tb : Bool), kv = .int .i64 (k : Int) ∧ tv = .bool tb ∧ at_ + 1 ≤ k ∧ k ≤ at_ + sz ts at_ ∧ Hid (∀ i, at_ < i → i < k → PlainR (ts.getD i default)) ∧ Below w.heap.size w wr) (fun _ kv _ => at_ + sz ts at_ - (intOf kv).toNat)
    case atStart => exact ⟨at_ + 1, false, by go_num, rfl, by omega, by omega, Lib.hid (fun i h1 h2 => by omega), Below.refl _ _⟩
    case round =>
      obtain ⟨k, tb, rfl, rfl, hk1, hk2, HP, hbel⟩ := hrel
      have c0 := cell_below hbel (HS4.out at_ hat)
      by_cases hlt : k < at_ + sz ts at_
      · have hkl : k < len := by omega
        have nc := (HC.out k hkl).below hbel
        have ck := cell_below hbel (HS4.out k hkl)
        have d0 := nc.kind
        have d1 := nc.tag
        have d2 := nc.text
        have d3 := nc.attrs
        have hat_ := nc.at_
        have hwt := nc.wt
        have hkp := (HR.out.sizes k hkl).1
        have hlam := HR.out.nest.lam at_ k hat (by omega) hlt
        have hB2 : ∀ o, Below w.heap.size w (wr.alloc o) := fun o => hbel.alloc hbel.size o
        have hN2 := fun o => HN.out.below (hB2 o)
        have hT2 := fun o => HT.out.below (hB2 o)
        have HKIND := Lib.hid (show PlainNode (ts.getD k default) → ((ts.getD k default).kind = 3 → NoCrs (ts.getD k default).attrs) → (∀ i, k < i → i < k + sz ts k → PlainR (ts.getD i default)) → ∀ i, at_ < i → i < k + sz ts k → PlainR (ts.getD i default) from fun h1 h2 h3 i hi1 hi2 => by
          by_cases e : i < k
          · exact HP.out i hi1 e
          · by_cases e2 : i = k
            · subst e2; exact ⟨h1, h2⟩
            · exact h3 i (by omega) hi2)
        have hleaf : (ts.getD k default).kind ≠ 3 → (ts.getD k default).kind ≠ 1 → sz ts k = 1 := fun e e1 => by
          rcases (HR.out.node k hkl).kinds with h | h | h | h | h
          · exact absurd h.1 e1
          · exact h.2
          · exact absurd h e
          · exact h.2
          · exact h.2
        unfold PlainNode at HKIND
        have hsz4 : (ts.getD k default).size = (sz ts k : Int) := (HR.out.sizes k hkl).2.1
        have d4 : wr.cell? ⟨b, off + k * 5 + 4, none⟩ = some (.int .i64 (ts.getD k default).size) := nc.size
        generalize hn : ts.getD k default = n at *
        obtain ⟨nk, tag, text, aa, al, ac, attrs, size⟩ := n
        simp only at d0 d1 d2 d3 d4 hat_ hwt HKIND hleaf hsz4
        subst hsz4
        obtain ⟨nw, hnw⟩ : ∃ nw, wr.alloc (.cells #[.int .i64 nk, .string tag, .string text, .slice aa al ac, .int .i64 (sz ts k : Int)] 26) = nw := ⟨_, rfl⟩
        have HQ := Lib.hid (And.intro (hB2 (.cells #[.int .i64 nk, .string tag, .string text, .slice aa al ac, .int .i64 (sz ts k : Int)] 26)) (And.intro (hN2 (.cells #[.int .i64 nk, .string tag, .string text, .slice aa al ac, .int .i64 (sz ts k : Int)] 26)) (hT2 (.cells #[.int .i64 nk, .string tag, .string text, .slice aa al ac, .int .i64 (sz ts k : Int)] 26))))
        have HAT := Lib.hid (hat_.below ((Below.refl wr.heap.size wr).alloc (Nat.le_refl _) (.cells #[.int .i64 nk, .string tag, .string text, .slice aa al ac, .int .i64 (sz ts k : Int)] 26)))
        have e0 : nw.cell? ⟨wr.heap.size, 0, none⟩ = some (.int .i64 nk) := by rw [← hnw]; exact cell_alloc_new' _ _ _ rfl rfl
        have e1 : nw.cell? ⟨wr.heap.size, 1, none⟩ = some (.string tag) := by rw [← hnw]; exact cell_alloc_new' _ _ _ rfl rfl
        have e2 : nw.cell? ⟨wr.heap.size, 2, none⟩ = some (.string text) := by rw [← hnw]; exact cell_alloc_new' _ _ _ rfl rfl
        have e3 : nw.cell? ⟨wr.heap.size, 3, none⟩ = some (.slice aa al ac) := by rw [← hnw]; exact cell_alloc_new' _ _ _ rfl rfl
        rw [hnw] at HQ HAT
        have HWT := Lib.hid hwt
        have HLE := Lib.hid hleaf
        have HZ := Lib.hid (show ∀ w', Below nw.heap.size nw w' → Below w.heap.size w w' ∧ w'.cell? ⟨wr.heap.size, 0, none⟩ = some (.int .i64 nk) ∧ w'.cell? ⟨wr.heap.size, 2, none⟩ = some (.string text) ∧ w'.cell? ⟨wr.heap.size, 3, none⟩ = some (.slice aa al ac) ∧ w'.cell? ⟨b, off + k * 5 + 4, none⟩ = some (.int .i64 (sz ts k : Int)) from fun w' h => by
          have h2 := HQ.out.1.trans (h.mono HQ.out.1.size)
          exact ⟨h2, cell_below h e0, cell_below h e2, cell_below h e3, cell_below h2 (HS4.out k hkl)⟩)
        clear hB2 hN2 hT2 hat_ hwt nc hleaf hbel hn HP
        have ck0 : nw.cell? ⟨b, off + k * 5 + 4, none⟩ = some (.int .i64 (sz ts k : Int)) := (HZ.out nw (Below.refl _ _)).2.2.2.2
        by_cases h3 : nk = 3
        · subst h3
          go_wp2_with fail
          refine (plainTag_any tag nw).mono ?_
          rintro e w2 ⟨b1, hb1, rfl, hw⟩
          have HT1 := Lib.hid hb1
          rw [← hw]
          clear hw w2 hb1
          cases b1
          · go_wp2
            go_ret
            exact ⟨_, kidsSay_false _ _, rfl, HQ.out.1⟩
          go_wp2_with fail
          refine (plainAttrs_any aa al ac attrs nw HAT.out HQ.out.2.2).mono ?_
          rintro e w3 ⟨b2, hb2, rfl, hbl3⟩
          have HA3 := Lib.hid (And.intro hb2 hbl3)
          clear hb2 hbl3
          cases b2
          · go_wp2
            go_ret
            exact ⟨_, kidsSay_false _ _, rfl, (HZ.out w3 HA3.out.2).1⟩
          go_wp2_with fail
          refine (HIH.out k w3 (HN.out.below (HZ.out w3 HA3.out.2).1) (HT.out.below (HZ.out w3 HA3.out.2).1) hkl (by omega)).mono ?_
          rintro e w4 ⟨b3, hb3, rfl, hbl4⟩
          have HA4 := Lib.hid (And.intro hb3 (HA3.out.2.trans (hbl4.mono HA3.out.2.size)))
          clear hb3 hbl4
          cases b3
          · go_wp2
            go_ret
            exact ⟨_, kidsSay_false _ _, rfl, (HZ.out w4 HA4.out.2).1⟩
          obtain ⟨_, f0, _, _, f4⟩ := HZ.out w4 HA4.out.2
          have HNX := Lib.hid (HKIND.out (.inl ⟨(by first | rfl | trivial), HT1.out rfl⟩) (fun _ => HA3.out.1 rfl) (HA4.out.1 rfl))
          clear e0 e1 e2 e3 d4 ck ck0 c0
          go_wp2
          refine ⟨?rel, ?measure⟩
          case rel => exact ⟨k + sz ts k, _, by go_num, by first | rfl | trivial, by omega, by omega, HNX, (HZ.out w4 HA4.out.2).1⟩
          case measure => simp [intOf]; omega
        by_cases h5 : nk = 5
        · subst h5
          have HZ1 := Lib.hid (HLE.out (by decide) (by decide))
          go_wp2_with fail
          refine (letters_any text nw HWT.out.2).mono ?_
          rintro e w2 ⟨b1, hb1, rfl, hw⟩
          have HT1 := Lib.hid hb1
          rw [← hw]
          clear hw w2 hb1
          cases b1
          · go_wp2
            go_ret
            exact ⟨_, kidsSay_false _ _, rfl, HQ.out.1⟩
          have HNX := Lib.hid (HKIND.out (.inr (.inr ⟨(by first | rfl | trivial), HT1.out rfl⟩)) (fun h => absurd h (by decide)) (fun i h1 h2 => by have := HZ1.out; omega))
          clear e1 e2 e3 d4 ck c0
          go_wp2
          refine ⟨?rel, ?measure⟩
          case rel => exact ⟨k + sz ts k, _, by go_num, by first | rfl | trivial, by omega, by omega, HNX, HQ.out.1⟩
          case measure => simp [intOf]; omega
        by_cases h4 : nk = 4
        · subst h4
          have HZ1 := Lib.hid (HLE.out (by decide) (by decide))
          cases hte : text.toList.isEmpty
          case true =>
            go_wp2
            go_ret
            exact ⟨_, kidsSay_false _ _, rfl, HQ.out.1⟩
          go_wp2_with fail
          refine (readText_any text nw HWT.out.2 HQ.out.2.2).mono ?_
          rintro e w3 ⟨b2, _, rfl, hbl3⟩
          have HA3 := Lib.hid hbl3
          clear hbl3
          cases b2
          · go_wp2
            go_ret
            exact ⟨_, kidsSay_false _ _, rfl, (HZ.out w3 HA3.out).1⟩
          cases tb
          case true =>
            go_wp2
            go_ret
            exact ⟨_, kidsSay_false _ _, rfl, (HZ.out w3 HA3.out).1⟩
          obtain ⟨_, f0, _, _, f4⟩ := HZ.out w3 HA3.out
          have HNX := Lib.hid (HKIND.out (.inr (.inl (by first | rfl | trivial))) (fun h => absurd h (by decide)) (fun i h1 h2 => by have := HZ1.out; omega))
          clear e0 e1 e2 e3 d4 ck ck0 c0
          go_wp2
          refine ⟨?rel, ?measure⟩
          case rel => exact ⟨k + sz ts k, _, by go_num, by first | rfl | trivial, by omega, by omega, HNX, (HZ.out w3 HA3.out).1⟩
          case measure => simp [intOf]; omega
        have g3 : (nk == 3) = false := by simpa using h3
        have g4 : (nk == 4) = false := by simpa using h4
        have g5 : (nk == 5) = false := by simpa using h5
        clear h3 h4 h5
        go_wp2
        go_ret
        exact ⟨_, kidsSay_false _ _, rfl, HQ.out.1⟩
      · obtain rfl : k = at_ + sz ts at_ := by omega
        have HB := Lib.hid hbel
        clear hbel
        go_wp2
        go_ret
        exact ⟨_, (fun _ => HP.out), rfl, HB.out⟩

end Go.Proofs.YtphppdbhofeagaaDoor
