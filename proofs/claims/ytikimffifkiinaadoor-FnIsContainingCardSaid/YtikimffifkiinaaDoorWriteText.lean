/- cascadia.writeNodeText, nodeText, nodeOwnText. -/
import Derived.Test.YtikimffifkiinaaDoorTextOf
import Derived.Test.YtikimffifkiinaaDoorBufShelf
import Derived.Test.YtikimffifkiinaaDoorGrowAll
import Derived.Test.YtikimffifkiinaaDoorImplRight
import Derived.Test.YtikimffifkiinaaDoorLinkAll
import Derived.Deep.LoopGhost
namespace Go.Proofs.YtikimffifkiinaaDoor
open Go.RowKit
set_option linter.unusedVariables false
set_option linter.unusedSimpArgs false

theorem tsum_mono (ts : List NodeD) : ∀ {n k : Nat}, k < n → (ts.getD k default).text.size ≤ tsum ts n
  | 0, k, h => by omega
  | n + 1, k, h => by
    rw [tsum]
    by_cases e : k = n
    · subst e; omega
    · have := tsum_mono ts (n := n) (k := k) (by omega); omega

theorem RightT.text_le {ts : List NodeD} {len : Nat} (h : RightT ts len) (hl : ts.length = len) (i : Nat) : (ts.getD i default).text.size ≤ 4000 := by
  by_cases hi : i < len
  · exact Nat.le_trans (tsum_mono ts hi) h.texts
  · rw [List.getD_eq_getElem?_getD, List.getElem?_eq_none (by omega)]
    exact Nat.zero_le _

/-- The kid that a place stands at, up to a node's end. -/
def kidTo (z : Nat → Nat) (p j : Nat) : Option Nat := if j < p + z p then some j else none
theorem kidTo_lt {z : Nat → Nat} {p j : Nat} (h : j < p + z p) : kidTo z p j = some j := if_pos h
theorem kidTo_end {z : Nat → Nat} {p j : Nat} (h : ¬ j < p + z p) : kidTo z p j = none := if_neg h
theorem nxt_kidTo {z : Nat → Nat} {k p : Nat} (hk : par z k = some p) : nxtK (fun i => i + z i) 0 k = kidTo z p (k + z k) := by
  unfold nxtK
  rw [up_par, hk]
  rfl

theorem txts_one (ts : List NodeD) (a : Nat) : txts ts a 1 = txt (ts.getD a default) := by simp [txts]

def WritePost (B b : Nat) (l : List UInt8) (w : World) (e : Ending) (w' : World) : Prop := e = .returned (.tuple #[]) ∧ Lib.IsBuffer 101 5 B b (Lib.byteCells l) w' ∧ Below B w w'

set_option maxRecDepth 100000 in
set_option maxHeartbeats 4000000 in
theorem writeNode_any {B' : Nat} {W : World} {bl len : Nat} {nb : Nat → Nat} {vv : Nat → Value} {ts : List NodeD} (hF : Forest B' W bl len nb vv ts) (hR : RightT ts len) (hl : ts.length = len) (b : Nat) : ∀ (m x : Nat) (l : List UInt8) (w : World), x < len → 0 < x → sz ts x ≤ m → Below W.heap.size W w →
    Lib.IsBuffer 101 5 W.heap.size b (Lib.byteCells l) w → l.length + sz ts x * 4000 ≤ 100000000000 →
    Calls Tryd.prog 61 #[.pointer (some ⟨nb x, 0, none⟩), .pointer (some ⟨b, 0, none⟩)] w (WritePost W.heap.size b (l ++ txts ts x (sz ts x)) w) := by
  intro m
  induction m with
  | zero => intro x l w hx h0 hm; have := (hR.sizes x hx).1; omega
  | succ m ih =>
    intro x l w hx h0 hm hb hbuf hlim
    have hn := (hF.below hb).node hx
    have c5 := hn.ty
    have c7 := hn.data
    have c1 := hn.fst
    have hpos := (hR.sizes x hx).1
    have hnest := hR.nest
    have hM := hR.text_le hl
    simp only [nodeR] at c5 c7 c1
    have hkinds := hR.kinds hx h0
    rcases hkinds with h3 | ⟨h3, hz1⟩
    · rw [h3] at c5
      rw [show fstK (fun i => i + sz ts i) x = kidTo (sz ts) x (x + 1) from rfl] at c1
      rw [show tyOf 3 = 3 from rfl] at c5
      have hIH := fun (y : Nat) (l' : List UInt8) (w' : World) (hy : y < len) (hy0 : 0 < y) (hym : sz ts y ≤ m) => ih y l' w' hy hy0 hym
      have htx : txt (ts.getD x default) = [] := by unfold txt; rw [if_neg (by omega)]
      have hbs : l ++ txts ts x 1 = l := by rw [txts_one, htx, List.append_nil]
      have HBUF := Lib.hid hbuf
      have HB := Lib.hid hb
      have HIH := Lib.hid hIH
      have HF := Lib.hid hF
      have HR := Lib.hid hR
      have HNEST := Lib.hid hnest
      have HBS := Lib.hid hbs
      have HM := Lib.hid hM
      clear hn ih hIH hF hR hnest hbuf hb h3 c7 htx hbs hM
      go_enter Tryd.func61, Tryd.ntmps61
      go_wp2
      go_loopg [4] (x + sz ts x - (x + 1)) (fun gk c wr => ∃ j, gk = x + sz ts x - j ∧ x + 1 ≤ j ∧ j ≤ x + sz ts x ∧ c = lk ((kidTo (sz ts) x j).map nb) ∧ (j < x + sz ts x → par (sz ts) j = some x) ∧
        Lib.IsBuffer 101 5 W.heap.size b (Lib.byteCells (l ++ txts ts x (j - x))) wr ∧ Below W.heap.size w wr)
      case atStart =>
        refine ⟨x + 1, rfl, by omega, by omega, rfl, fun h => par_first hx (by omega), ?_, Below.refl _ _⟩
        rw [show x + 1 - x = 1 by omega, HBS.out]
        exact HBUF.out
      case round =>
        obtain ⟨j, rfl, hj1, hj2, rfl, hpar, hbuf, hbel⟩ := hrel
        by_cases hlt : j < x + sz ts x
        · have hfit := HNEST.out.fit x hx
          have hjl : j < len := by omega
          have hlam := HNEST.out.lam x j hx (by omega) hlt
          have hjp := HNEST.out.pos j hjl
          have hpj := hpar hlt
          have hbW := HB.out.trans hbel
          have htl := txts_length HM.out x (j - x)
          have hcall := HIH.out j (l ++ txts ts x (j - x)) wr hjl (by omega) (by omega) hbW hbuf (by rw [List.length_append]; omega)
          have hjoin : l ++ txts ts x (j - x) ++ txts ts j (sz ts j) = l ++ txts ts x (j + sz ts j - x) := by
            rw [show j + sz ts j - x = (j - x) + sz ts j by omega, txts_add, show x + (j - x) = j by omega, List.append_assoc]
          rw [hjoin] at hcall
          rw [kidTo_lt hlt, Option.map_some, lk_some]
          have HC := Lib.hid hcall
          have HBEL := Lib.hid hbel
          have HP := Lib.hid hpj
          clear hcall hbel hpj hpar hbuf hbW htl hjoin
          go_wp2_with fail
          refine HC.out.mono ?_
          rintro e w2 ⟨rfl, hbuf2, hb2⟩
          have hb3 := HBEL.out.trans hb2
          have c4 := ((HF.out.below (HB.out.trans hb3)).node hjl).nxt
          simp only [nodeR] at c4
          rw [nxt_kidTo HP.out] at c4
          have HB3 := Lib.hid (And.intro hbuf2 hb3)
          clear hbuf2 hb2 hb3 HC HBEL
          go_wp2
          go_roundg (x + sz ts x - (j + sz ts j))
          case measure => omega
          case rel => exact ⟨j + sz ts j, rfl, by omega, by omega, rfl, fun h => par_next HNEST.out HP.out hjl h, HB3.out.1, HB3.out.2⟩
        · obtain rfl : j = x + sz ts x := by omega
          rw [kidTo_end hlt, Option.map_none, lk_none]
          rw [show x + sz ts x - x = sz ts x by omega] at hbuf
          have HB3 := Lib.hid (And.intro hbuf hbel)
          clear hbuf hbel hpar
          go_wp2
          go_end0
          exact ⟨rfl, HB3.out.1, HB3.out.2⟩
    · rw [hz1, txts_one]
      rcases h3 with h3 | h3 | h3
      · rw [h3, show tyOf 2 = 5 from rfl] at c5
        have htx : txt (ts.getD x default) = [] := by unfold txt; rw [if_neg (by omega)]
        rw [htx, List.append_nil]
        have HBUF := Lib.hid hbuf
        clear hn ih hF hR hnest hbuf hb h3 c7 htx hM c1 hz1
        go_enter Tryd.func61, Tryd.ntmps61
        go_wp2
        go_end0
        exact ⟨rfl, HBUF.out, Below.refl _ _⟩
      · have hd : dataOf (ts.getD x default) = (ts.getD x default).text := by unfold dataOf; rw [if_neg (by omega), if_neg (by omega)]
        have htx : txt (ts.getD x default) = (ts.getD x default).text.data.toList := by unfold txt; rw [if_pos h3]
        have htl := hM x
        rw [h3, show tyOf 4 = 1 from rfl] at c5
        rw [hd] at c7
        rw [htx]
        obtain ⟨t, ht⟩ : ∃ t, (ts.getD x default).text = t := ⟨_, rfl⟩
        rw [ht] at c7 htl ⊢
        have hws := Tryd.Buffer_WriteString W.heap.size b (Lib.byteCells l) t w hbuf hb.size (Lib.byteCells_one _) (by rw [Lib.byteCells_length]; omega)
        rw [← Lib.byteCells_append] at hws
        have HWS := Lib.hid hws
        clear hn ih hF hR hnest hbuf hb h3 htx hM c1 hz1 hd ht hws
        go_enter Tryd.func61, Tryd.ntmps61
        go_wp2_with fail
        refine HWS.out.mono ?_
        rintro e w2 ⟨rfl, hbuf2, hb2⟩
        have HB3 := Lib.hid (And.intro hbuf2 hb2)
        clear hbuf2 hb2
        go_wp2
        go_end0
        exact ⟨rfl, HB3.out.1, HB3.out.2⟩
      · rw [h3, show tyOf 5 = 4 from rfl] at c5
        have htx : txt (ts.getD x default) = [] := by unfold txt; rw [if_neg (by omega)]
        rw [htx, List.append_nil]
        have HBUF := Lib.hid hbuf
        clear hn ih hF hR hnest hbuf hb h3 c7 htx hM c1 hz1
        go_enter Tryd.func61, Tryd.ntmps61
        go_wp2
        go_end0
        exact ⟨rfl, HBUF.out, Below.refl _ _⟩

end Go.Proofs.YtikimffifkiinaaDoor
