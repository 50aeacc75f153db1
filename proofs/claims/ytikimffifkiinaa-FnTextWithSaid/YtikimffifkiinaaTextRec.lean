/- goquery.Text$1: at every node. -/
import Derived.Test.YtikimffifkiinaaTextLeaf
namespace Go.Proofs.Ytikimffifkiinaa
open Go.RowKit
set_option linter.unusedVariables false
set_option linter.unusedSimpArgs false

theorem tyOf_not1 {k : Int} (h : k ≠ 4) : tyOf k ≠ 1 := by
  unfold tyOf
  rw [if_neg h]
  split
  · omega
  · split
    · omega
    · split <;> omega

/-- The kid that a place stands at, up to a node's end. -/
def kidUp (z : Nat → Nat) (p j : Nat) : Option Nat := if j < p + z p then some j else none
theorem kidUp_lt {z : Nat → Nat} {p j : Nat} (h : j < p + z p) : kidUp z p j = some j := if_pos h
theorem kidUp_end {z : Nat → Nat} {p j : Nat} (h : ¬ j < p + z p) : kidUp z p j = none := if_neg h
theorem nxt_kidUp {z : Nat → Nat} {k p : Nat} (hk : par z k = some p) : nxtK (fun i => i + z i) 0 k = kidUp z p (k + z k) := by
  unfold nxtK
  rw [up_par, hk]
  rfl

theorem tsum_le (ts : List NodeD) : ∀ {n k : Nat}, k < n → (ts.getD k default).text.size ≤ tsum ts n
  | 0, k, h => by omega
  | n + 1, k, h => by
    rw [tsum]
    by_cases e : k = n
    · subst e; omega
    · have := tsum_le ts (n := n) (k := k) (by omega); omega

/-- Each text in a node that is trimmed is ASCII, without vertical tabs. -/
def Trimmable (ts : List NodeD) (x : Nat) (trim : Bool) (name : Option ByteArray) : Prop :=
  ∀ i, x ≤ i → i < x + sz ts x → (ts.getD i default).kind = 4 → trim = true → wanted ts name i = true → ∀ j (h : j < (ts.getD i default).text.size), ((ts.getD i default).text[j]'h).toNat < 128 ∧ ((ts.getD i default).text[j]'h).toNat ≠ 11

set_option maxRecDepth 100000 in
set_option maxHeartbeats 4000000 in
theorem clo_any {B' : Nat} {W : World} {bl len : Nat} {nb : Nat → Nat} {vv : Nat → Value} {ts : List NodeD} (hF : Forest B' W bl len nb vv ts) (hR : RightT ts len) (ob gb : Nat) (sep : ByteArray) (trim : Bool) (name : Option ByteArray) (ho : OptsAt W ob gb sep trim name) :
    ∀ (m x : Nat) (ps : List ByteArray) (w : World), x < len → sz ts x ≤ m → Below W.heap.size W w → W.heap.size + 3 ≤ w.heap.size → CloAt w W.heap.size ob ps → ps.length + sz ts x ≤ 90000 → Trimmable ts x trim name →
    Calls Try.prog 38 #[.pointer (some ⟨nb x, 0, none⟩), .pointer (some ⟨W.heap.size, 0, none⟩), .pointer (some ⟨W.heap.size + 1, 0, none⟩), .pointer (some ⟨W.heap.size + 2, 0, none⟩)] w (CloPost W.heap.size ob (ps ++ parts ts trim name x (sz ts x)) w) := by
  intro m
  induction m with
  | zero => intro x ps w hx hm; have := (hR.sizes x hx).1; omega
  | succ m ih =>
    intro x ps w hx hm hb hw3 hc hlim htr
    have hpos := (hR.sizes x hx).1
    have hone : parts ts trim name x 1 = part ts trim name x := by simp [parts]
    by_cases h4 : (ts.getD x default).kind = 4
    · have h0 : 0 < x := by
        rcases Nat.eq_zero_or_pos x with rfl | h
        · have := hR.kind
          unfold kd at this
          omega
        · exact h
      have hz1 : sz ts x = 1 := by
        rcases hR.kinds hx h0 with h | ⟨_, h⟩
        · omega
        · exact h
      have htl : (ts.getD x default).text.size ≤ 4000 := Nat.le_trans (tsum_le ts hx) hR.texts
      have htx := htr x (Nat.le_refl _) (by omega) h4
      rw [hz1, hone]
      cases trim
      · cases name
        · exact leaf_np hF hx h4 ob gb sep ps w hb hw3 hc ho (by omega) htl htx
        · exact leaf_sp hF hx h4 ob gb sep _ ps w hb hw3 hc ho (by omega) htl htx
      · cases name
        · exact leaf_nt hF hx h4 ob gb sep ps w hb hw3 hc ho (by omega) htl htx
        · exact leaf_st hF hx h4 ob gb sep _ ps w hb hw3 hc ho (by omega) htl htx
    · have hn := (hF.below hb).node hx
      have c5 := hn.ty
      have c1 := hn.fst
      simp only [nodeR] at c5 c1
      rw [show fstK (fun i => i + sz ts i) x = kidUp (sz ts) x (x + 1) from rfl] at c1
      have hq := tyOf_not1 h4
      obtain ⟨q, hqq⟩ : ∃ q, tyOf (ts.getD x default).kind = q := ⟨_, rfl⟩
      rw [hqq] at c5 hq
      have hq1 : (q == 1) = false := by simpa using hq
      have hpx : part ts trim name x = [] := by unfold part; rw [if_neg (fun h => h4 h.1)]
      have hbs : ps ++ parts ts trim name x 1 = ps := by rw [hone, hpx, List.append_nil]
      have HIH := Lib.hid ih
      have HB := Lib.hid hb
      have HF := Lib.hid hF
      have HR := Lib.hid hR
      have HNEST := Lib.hid hR.nest
      have HBS := Lib.hid hbs
      have HC := Lib.hid hc
      have HTRM := Lib.hid htr
      clear hn ih hF hR hb h4 hpx hbs hone hq hqq hc ho htr
      go_enter Try.func38, Try.ntmps38
      go_wp2
      go_loopg [6] (x + sz ts x - (x + 1)) (fun gk c wr => ∃ j, gk = x + sz ts x - j ∧ x + 1 ≤ j ∧ j ≤ x + sz ts x ∧ c = lk ((kidUp (sz ts) x j).map nb) ∧ (j < x + sz ts x → par (sz ts) j = some x) ∧ CloAt wr W.heap.size ob (ps ++ parts ts trim name x (j - x)) ∧ W.heap.size + 3 ≤ wr.heap.size ∧ Below W.heap.size w wr)
      case atStart =>
        refine ⟨x + 1, rfl, by omega, by omega, rfl, fun h => par_first hx (by omega), ?_, hw3, Below.refl _ _⟩
        rw [show x + 1 - x = 1 by omega, HBS.out]
        exact HC.out
      case round =>
        obtain ⟨j, rfl, hj1, hj2, rfl, hpar, hc1, hwr, hbel⟩ := hrel
        by_cases hlt : j < x + sz ts x
        · have hfit := HNEST.out.fit x hx
          have hjl : j < len := by omega
          have hlam := HNEST.out.lam x j hx (by omega) hlt
          have hjp := HNEST.out.pos j hjl
          have hpj := hpar hlt
          have hbW := HB.out.trans hbel
          have htl := parts_length ts trim name x (j - x)
          have hcall := HIH.out j (ps ++ parts ts trim name x (j - x)) wr hjl (by omega) hbW hwr hc1 (by rw [List.length_append]; omega) (fun i h1 h2 => HTRM.out i (by omega) (by omega))
          have hjoin : ps ++ parts ts trim name x (j - x) ++ parts ts trim name j (sz ts j) = ps ++ parts ts trim name x (j + sz ts j - x) := by
            rw [show j + sz ts j - x = (j - x) + sz ts j by omega, parts_add, show x + (j - x) = j by omega, List.append_assoc]
          rw [hjoin] at hcall
          rw [kidUp_lt hlt, Option.map_some, lk_some]
          have cf := hc1.fn
          have HCL := Lib.hid hcall
          have HBEL := Lib.hid hbel
          have HP := Lib.hid hpj
          clear hcall hbel hpj hpar hc1 hbW htl hjoin
          go_wp2_with fail
          refine HCL.out.mono ?_
          rintro e w2 ⟨rfl, hc2, hb2⟩
          have hb3 := HBEL.out.trans hb2
          have hsz2 := hb2.size
          have c4 := ((HF.out.below (HB.out.trans hb3)).node hjl).nxt
          simp only [nodeR] at c4
          rw [nxt_kidUp HP.out] at c4
          have HB3 := Lib.hid (And.intro hc2 hb3)
          clear hc2 hb2 hb3 HCL HBEL
          go_wp2
          go_roundg (x + sz ts x - (j + sz ts j))
          case measure => omega
          case rel => exact ⟨j + sz ts j, rfl, by omega, by omega, rfl, fun h => par_next HNEST.out HP.out hjl h, HB3.out.1, by omega, HB3.out.2⟩
        · obtain rfl : j = x + sz ts x := by omega
          rw [kidUp_end hlt, Option.map_none, lk_none]
          rw [show x + sz ts x - x = sz ts x by omega] at hc1
          have HB3 := Lib.hid (And.intro hc1 hbel)
          clear hc1 hbel hpar
          go_wp2
          go_end0
          exact ⟨rfl, HB3.out.1, HB3.out.2⟩

end Go.Proofs.Ytikimffifkiinaa
