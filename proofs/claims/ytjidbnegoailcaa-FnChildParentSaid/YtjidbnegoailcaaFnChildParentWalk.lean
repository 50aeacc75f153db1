/- The walk of FnChildParent. -/
import Derived.Test.YtjidbnegoailcaaSibEnd
import Derived.Test.YtjidbnegoailcaaParAll
import Derived.Test.YtjidbnegoailcaaRisingAll
namespace Go.Proofs.Ytjidbnegoailcaa
open Go.RowKit
set_option linter.unusedVariables false
set_option linter.unusedSimpArgs false

/-- The places that have kids that are elements. -/
def withKids (ts : List NodeD) (len : Nat) (l : List Nat) : List Nat := l.filter (fun x => decide (0 < (lb (elKid ts x) len).length))

theorem withKids_take {ts : List NodeD} {len : Nat} {l : List Nat} {k : Nat} (hk : k < l.length) : withKids ts len (l.take (k + 1)) = if decide (0 < (lb (elKid ts (l.getD k 0)) len).length) = true then withKids ts len (l.take k) ++ [l.getD k 0] else withKids ts len (l.take k) := by
  unfold withKids
  rw [take_snoc hk, List.filter_append]
  split
  · rename_i h; simp only [List.filter_cons, h, if_true, List.filter_nil]
  · rename_i h; simp only [List.filter_cons, h, List.filter_nil]; simp

theorem childParent_mem {ts : List NodeD} {len : Nat} {l : List Nat} (hl : ∀ x ∈ l, x < len) (hk : ∀ x ∈ l, kd ts x = 3) (y : Nat) :
    y ∈ onceF (parList ts (onceF (l.flatMap (kidL ts len)))) ↔ y ∈ withKids ts len l := by
  rw [onceF_mem]
  unfold parList withKids
  rw [List.mem_filterMap, List.mem_filter]
  constructor
  · rintro ⟨k, hk1, hk2⟩
    obtain ⟨x, hx, hkx⟩ := List.mem_flatMap.1 (onceF_mem.1 hk1)
    have hm := rb_mem.1 hkx
    have hp : par (sz ts) k = some x := by have h := hm.2.2; simp [elKid] at h; exact h.1
    rw [parEl_some hp, if_pos (hk x hx)] at hk2
    simp at hk2
    subst hk2
    refine ⟨hx, ?_⟩
    have hkl : k ∈ lb (elKid ts x) len := lb_mem_iff.2 ⟨by have := hl x hx; omega, hm.2.2⟩
    simpa using List.length_pos_of_mem hkl
  · rintro ⟨hy, h0⟩
    have h0' : 0 < (lb (elKid ts y) len).length := by simpa using h0
    obtain ⟨k, hkm⟩ := List.exists_mem_of_length_pos h0'
    obtain ⟨h1, h2⟩ := lb_mem hkm
    have hp : par (sz ts) k = some y := by simp [elKid] at h2; exact h2.1
    have hlt := (par_some hp).1
    refine ⟨k, onceF_mem.2 (List.mem_flatMap.2 ⟨y, hy, rb_mem.2 ⟨by omega, by omega, h2⟩⟩), ?_⟩
    rw [parEl_some hp, if_pos (hk y hy)]

namespace lawFnChildParent

set_option maxRecDepth 100000 in
set_option maxHeartbeats 4000000 in
theorem walk {W : World} (a : Option Addr) (len cap : Nat) (ts : List NodeD) (h : Nodes W a len ts ∧ len ≤ cap ∧ cap ≤ maxLen) (a1 : Option Addr) (n1 c1 : Nat) (z1 : List Int) (h1 : Ints W a1 n1 z1 ∧ n1 ≤ c1 ∧ c1 ≤ maxLen) :
    Calls Try.prog 3 #[.slice a len cap, .slice a1 n1 c1] W (YesB W) := by
  obtain ⟨hN, hN2⟩ := h
  obtain ⟨h1, hc1⟩ := h1
  have hm1 := h1.open.2.1
  have HN := Lib.hid hN
  have H1 := Lib.hid (And.intro h1 hc1)
  clear hN hN2 h1 hc1
  obtain ⟨i0, hi, hz0, hz1, hz2⟩ := info_parts Try.infoInt
  go_enter Try.func3, Try.ntmps3
  go_wp2_with fail
  refine (fits1_any a len cap ts W HN.out).mono ?_
  rintro e w1 ⟨b1, _, rfl, hb1⟩
  have HB1 := Lib.hid hb1
  clear hb1
  cases b1
  · go_wp2
    go_ret
    exact ⟨rfl, HB1.out⟩
  by_cases q1 : (2147483647 : Int) < (n1 : Int)
  · have g1 : decide ((2147483647 : Int) < (n1 : Int)) = true := by simp [q1]
    clear q1
    go_wp2
    go_ret
    exact ⟨rfl, HB1.out⟩
  have g1 : decide ((2147483647 : Int) < (n1 : Int)) = false := by simp [q1]
  clear q1
  go_wp2_with fail
  refine (rising3_any a len cap ts a1 n1 c1 z1 w1 (HN.out.below HB1.out) ⟨H1.out.1.below HB1.out, H1.out.2⟩).mono ?_
  rintro e w2 ⟨b2, hb2, rfl, hbel2⟩
  have HB2 := Lib.hid (HB1.out.trans (hbel2.mono HB1.out.size))
  clear hbel2 HB1
  cases b2
  · go_wp2
    go_ret
    exact ⟨rfl, HB2.out⟩
  obtain ⟨hR, l, hp, hk⟩ := hb2 rfl
  have hlen := hR.le
  have hle : l.length ≤ 200 := Nat.le_trans hp.le hR.le
  have hzl := hp.eq
  have hn1 : n1 = l.length := by rw [← H1.out.1.open.1, hzl]; simp
  have hrd := fun (w : World) (hb : Below W.heap.size W w) => hp.reads (H1.out.1.below hb) H1.out.2.1 H1.out.2.2
  have hel := fun (w : World) (hb : Below W.heap.size W w) (x : Nat) (hx : x < len) => elements_any a len cap ts x w (HN.out.below hb) hR hx
  have hch := fun (w : World) (hb : Below W.heap.size W w) => implChildrenOf w a len cap ts hR (HN.out.below hb) (.slice a1 n1 c1) l (hrd w hb) hp.lt hp.once hle
  have hkg : ∀ i ∈ onceF (l.flatMap (kidL ts len)), i < len := flat_lt (fun x hx => kidL_good ts len x (hp.lt x hx))
  have hkn : (onceF (l.flatMap (kidL ts len))).length ≤ 200 := Nat.le_trans (once_le (onceF_once _) hkg) hlen
  have hpa := fun (w : World) (hb : Below W.heap.size W w) (v : Value) (hv : ReadsAs w v ((onceF (l.flatMap (kidL ts len))).map intV)) => implParentOf_any w a len cap ts hR (HN.out.below hb) v (onceF (l.flatMap (kidL ts len))) hv hkg (onceF_once _) hkn
  have hmem := childParent_mem (ts := ts) hp.lt hk
  have hwo : Once (withKids ts len l) := hp.once.sub List.filter_sublist
  have hwl : (withKids ts len l).length = (onceF (parList ts (onceF (l.flatMap (kidL ts len))))).length := once_same_len hwo (onceF_once _) (fun x => (hmem x).symm)
  have hro := onceF_once (parList ts (onceF (l.flatMap (kidL ts len))))
  have hwn : (withKids ts len l).length ≤ 200 := Nat.le_trans (List.length_filter_le _ _) hle
  obtain ⟨K, hK⟩ : ∃ K, onceF (l.flatMap (kidL ts len)) = K := ⟨_, rfl⟩
  rw [hK] at hch hpa hmem hwl hro
  obtain ⟨R, hRR⟩ : ∃ R, onceF (parList ts K) = R := ⟨_, rfl⟩
  rw [hRR] at hpa hmem hwl hro
  have HEL := Lib.hid hel
  have HCHI := Lib.hid hch
  have HPA := Lib.hid hpa
  have HRD := Lib.hid hrd
  have HLT := Lib.hid hp.lt
  have HM := Lib.hid (And.intro hmem (And.intro hwl (And.intro hro hwn)))
  clear hb2 hR hp hrd hel hch hpa hmem hwo hwl hro hK hRR hk hkg hkn hzl hwn
  subst hn1
  go_wp2
  go_loopw [5, 6] (fun x i wr => ∃ (k : Nat) (done : List Nat), i = .int .i64 k ∧ k ≤ l.length ∧ done.length ≤ k ∧ withKids ts len (l.take k) = done ∧ OwnPl wr w2.heap.size x done ∧ Below w2.heap.size w2 wr)
    (fun _ i _ => l.length - (intOf i).toNat)
  case atStart => exact ⟨0, [], by go_num, by omega, by simp, rfl, World.ownsRow_nil _ _ _ _, Below.refl _ _⟩
  case round =>
    obtain ⟨k, done, rfl, hk, hdl, hdone, hown, hbel⟩ := hrel
    have hbW : Below W.heap.size W wr := HB2.out.trans (hbel.mono HB2.out.size)
    by_cases hlt : k < l.length
    · obtain ⟨av, cv, bv, offv, hve, hmv, hav, hcv⟩ := ints_open (HRD.out wr hbW)
      simp at hve
      obtain ⟨rfl, rfl⟩ := hve
      obtain rfl := hav (by omega)
      have ck := hcv k hlt
      have hxl := HLT.out _ (getD_mem' (d := 0) hlt)
      have hst := withKids_take (ts := ts) (len := len) hlt
      obtain ⟨x, hxx⟩ : ∃ x, l.getD k 0 = x := ⟨_, rfl⟩
      rw [hxx] at ck hxl hst
      rw [hdone] at hst
      have hel := HEL.out wr hbW x hxl
      obtain ⟨E, hE⟩ : ∃ E, lb (elKid ts x) len = E := ⟨_, rfl⟩
      rw [hE] at hel hst
      have hkI : (k : Int) < (l.length : Int) := by omega
      have HST := Lib.hid hst
      have HE := Lib.hid hel
      have HB := Lib.hid (And.intro hown (And.intro hbel hbW))
      clear hcv hav hxx hst hel hE hown hbel hbW hdone
      go_wp2_with fail
      refine HE.out.mono ?_
      rintro e w3 ⟨v3, rfl, ho3, hb3⟩
      have hown3 : w3.ownsRow w2.heap.size 3 1 u5 done.length (done.map intV) := ownsRow_kept HB.out.1 (fun q hq => hb3.out.block q (World.ownsRow.lt HB.out.1 q hq).2)
      have hbel3 : Below w2.heap.size w2 w3 := HB.out.2.1.trans (hb3.out.mono HB.out.2.1.size)
      have ck3 := cell_below hb3.out ck
      obtain ⟨a3, c3, hv3, _⟩ := ho3.out.reads.nil
      rw [List.length_map] at hv3
      subst hv3
      have HB3 := Lib.hid hbel3
      have hs3 := hbel3.size
      clear ho3 hb3 hbel3 HE ck
      by_cases h0 : 0 < E.length
      · have g2 : (0 : Int) < (E.length : Int) := by omega
        have g3 : decide ((0 : Int) < (E.length : Int)) = true := decide_eq_true g2
        have g4 : decide (0 < E.length) = true := decide_eq_true h0
        have HST2 : Hid (withKids ts len (l.take (k + 1)) = done ++ [x]) := Lib.hid (by rw [HST.out, if_pos g4])
        clear h0
        go_wp2_with (at_builtin; refine wpList_append_own _ rfl _ _ 23 rfl w2.heap.size 3 i0 (.int .i64 0) 1 8 Try.underlying23 hi hz0 hz1 hz2 rfl (by decide) _ _ _ rfl (hown3.alloc _) ⟨w3.heap.size, 0, none⟩ 1 1 [.int .i64 (x : Int)] rfl rfl ?c1 ?c2 ?c3 ?c4 ?c5 ?_)
        case c1 =>
          intro j u hj
          match j, hj with
          | 0, hj => simp at hj; subst hj; simp [Addr.add]
        case c2 => intro u hu; simp at hu; subst hu; rfl
        case c3 => unfold maxLen; omega
        case c4 => omega
        case c5 => simp; omega
        intro v' w4 hown4 hgrow _
        have hbel4 : Below w2.heap.size w2 w4 := (HB3.out.alloc HB3.out.size _).grown hgrow (by simp; omega) (fun q hq => (World.ownsRow.lt hown3 q hq).1)
        have hsn := ownInts_any_snoc (k := x) hown4
        have H4 := Lib.hid (And.intro hsn hbel4)
        clear hown4 hgrow hbel4 hsn hown3
        go_wp2
        go_roundw
        case rel => exact ⟨k + 1, done ++ [x], by go_num, by omega, by simp; omega, HST2.out, H4.out.1, H4.out.2⟩
        case measure => simp [intOf]; omega
      · have hE0 : E.length = 0 := by omega
        have HST2 : Hid (withKids ts len (l.take (k + 1)) = done) := Lib.hid (by rw [HST.out, if_neg (by rw [decide_eq_true_eq]; omega)])
        have HO3 := Lib.hid hown3
        rw [hE0]
        clear h0 hE0 hown3
        go_wp2
        go_roundw
        case rel => exact ⟨k + 1, done, by go_num, by omega, by omega, HST2.out, HO3.out, HB3.out⟩
        case measure => simp [intOf]; omega
    · obtain rfl : k = l.length := by omega
      rw [List.take_length] at hdone
      have hrw : ReadsAs wr u5 ((withKids ts len l).map intV) := by rw [hdone]; exact hown.reads
      have HRW := Lib.hid hrw
      have HBW := Lib.hid hbW
      obtain ⟨aw, cw, hvw, _⟩ := hown.reads.nil
      rw [List.length_map, ← hdone, HM.out.2.1] at hvw
      subst hvw
      clear hown hbel hbW hrw hlt hdone hdl
      go_wp2_with fail
      refine (HCHI.out wr HBW.out).mono ?_
      rintro e w5 ⟨v5, rfl, ho5, hb5⟩
      have HRW5 := Lib.hid (HRW.out.below hb5.out)
      have HB5 := Lib.hid (HBW.out.trans (hb5.out.mono HBW.out.size))
      have HR5 := Lib.hid ho5.out.reads
      obtain ⟨a5, c5, hv5, _⟩ := ho5.out.reads.nil
      rw [List.length_map] at hv5
      subst hv5
      clear ho5 hb5 HRW HBW
      go_wp2_with fail
      refine (HPA.out w5 HB5.out _ HR5.out).mono ?_
      rintro e w6 ⟨v6, rfl, ho6, hb6⟩
      have HRW6 := Lib.hid (HRW5.out.below hb6.out)
      have HB6 := Lib.hid (HB5.out.trans (hb6.out.mono HB5.out.size))
      have hso := sameOnce2_any v6 _ R (withKids ts len l) w6 ho6.out.reads HRW6.out HM.out.2.2.1 HM.out.2.1 (fun x hx => (HM.out.1 x).1 hx) (by have := HM.out.2.1; have := HM.out.2.2.2; omega)
      obtain ⟨a6, c6, hv6, _⟩ := ho6.out.reads.nil
      rw [List.length_map] at hv6
      subst hv6
      have HSO := Lib.hid hso
      clear ho6 hb6 hso HRW5 HRW6 HB5
      go_wp2_with fail
      refine HSO.out.mono ?_
      rintro e w7 ⟨rfl, hb7⟩
      have HB7 := Lib.hid (HB6.out.trans (hb7.mono HB6.out.size))
      clear hb7 HSO HB6
      go_wp2
      go_ret
      exact ⟨rfl, HB7.out⟩

end lawFnChildParent
end Go.Proofs.Ytjidbnegoailcaa
