/- The walk of FnFilterBy. -/
import Derived.Test.YtobnglgnoflbnaaFilterBy
import Derived.Test.YtobnglgnoflbnaaAsked
import Derived.Maps.AppendAt
namespace Go.Proofs.Ytobnglgnoflbnaa.lawFnFilterBy
open Go.RowKit
set_option linter.unusedVariables false
set_option linter.unusedSimpArgs false

/-- Two slices share no memory. -/
def Sep (v v' : Value) : Prop := ∀ b, v.ownBlock = some b → v'.ownBlock ≠ some b

/-- What holds at the head of the loop. -/
structure Mid (l : List Nat) (bs : List Bool) (W wr : World) (x y : Value) (k : Nat) (D1 D2 : List Nat) : Prop where
  len1 : D1.length ≤ k
  len2 : D2.length ≤ k
  eq1 : kept (fun k => bs.getD k false == true) l k = D1
  eq2 : kept (fun k => bs.getD k false == false) l k = D2
  own1 : OwnPl wr W.heap.size x D1
  own2 : OwnPl wr W.heap.size y D2
  sep : Sep x y
  below : Below W.heap.size W wr

theorem grow_keeps {w w' : World} {B : Nat} {v v' : Value} {l : List Nat} (h : OwnPl w B v' l) (hg : w.grownBy w' v.ownBlock) (hs : Sep v v') : OwnPl w' B v' l :=
  ownsRow_kept h (fun b hb => hg.block b (World.ownsRow.lt h b hb).2 (fun e => hs b e.symm hb))

theorem sep_at {w : World} {B : Nat} {v v' y : Value} {l : List Nat} (hs : Sep v y) (ho : OwnPl w B y l) (hat : v'.ownBlock = v.ownBlock ∨ v'.ownBlock = some w.heap.size) : Sep v' y := fun b hb hy => by
  rcases hat with h | h
  · exact hs b (h ▸ hb) hy
  · rw [h] at hb
    simp at hb
    have := (World.ownsRow.lt ho b hy).2
    omega

set_option maxRecDepth 100000 in
set_option maxHeartbeats 4000000 in
theorem walk {W : World} (a : Option Addr) (len cap : Nat) (ts : List NodeD) (h : Nodes W a len ts ∧ len ≤ cap ∧ cap ≤ maxLen) (a1 : Option Addr) (n1 c1 : Nat) (z1 : List Int) (h1 : Ints W a1 n1 z1 ∧ n1 ≤ c1 ∧ c1 ≤ maxLen) (a2 : Option Addr) (n2 c2 : Nat) (bs : List Bool) (h2 : Row W a2 n2 (bs.map .bool)) :
    Calls Try.prog 10 #[.slice a len cap, .slice a1 n1 c1, .slice a2 n2 c2] W (YesB W) := by
  obtain ⟨hN, hN2⟩ := h
  obtain ⟨h1, hc1⟩ := h1
  have hm1 := h1.open.2.1
  have hm2 := (show Bools W a2 n2 bs from h2).open.2.1
  have HN := Lib.hid hN
  have H1 := Lib.hid (And.intro h1 hc1)
  have H2 := Lib.hid (show Bools W a2 n2 bs from h2)
  clear hN hN2 h1 h2 hc1
  obtain ⟨i0, hi, hz0, hz1, hz2⟩ := info_parts Try.infoInt
  go_enter Try.func10, Try.ntmps10
  go_wp2_with fail
  refine (fits1_any a len cap ts W HN.out).mono ?_
  rintro e w1 ⟨b1, _, rfl, hb1⟩
  have HB1 := Lib.hid hb1
  clear hb1
  cases b1
  · go_wp2
    go_ret
    exact ⟨rfl, HB1.out⟩
  by_cases q1 : (2147483647 : Int) < (n1 : Int)
  · have g1 : decide ((2147483647 : Int) < (n1 : Int)) = true := by simp [q1]
    clear q1
    go_wp2
    go_ret
    exact ⟨rfl, HB1.out⟩
  have g1 : decide ((2147483647 : Int) < (n1 : Int)) = false := by simp [q1]
  clear q1
  by_cases q2 : (2147483647 : Int) < (n2 : Int)
  · have g2 : decide ((2147483647 : Int) < (n2 : Int)) = true := by simp [q2]
    clear q2
    go_wp2
    go_ret
    exact ⟨rfl, HB1.out⟩
  have g2 : decide ((2147483647 : Int) < (n2 : Int)) = false := by simp [q2]
  clear q2
  go_wp2_with fail
  refine (asked_any a len cap ts a1 n1 c1 z1 a2 n2 c2 w1 (HN.out.below HB1.out) (H1.out.1.below HB1.out) hm2).mono ?_
  rintro e w2 ⟨b2, hb2, rfl, hbel2⟩
  have HB2 := Lib.hid (HB1.out.trans (hbel2.mono HB1.out.size))
  clear hbel2 HB1
  cases b2
  · go_wp2
    go_ret
    exact ⟨rfl, HB2.out⟩
  obtain ⟨hR, hO, h300⟩ := hb2 rfl
  obtain ⟨l, hp⟩ := hO.places H1.out.1.open.1
  have hl : l.length = n1 := by rw [← hp.len]; exact H1.out.1.open.1
  have HR := Lib.hid hR
  have HP := Lib.hid hp
  clear hb2 hR hO hp
  subst hl
  have hle : l.length ≤ 200 := Nat.le_trans HP.out.le HR.out.le
  have hcF := fun (w : World) (hb : Below W.heap.size W w) => byF_any w a len cap ts HR.out (HN.out.below hb) (.slice a1 l.length c1) l (HP.out.reads (H1.out.1.below hb) H1.out.2.1 H1.out.2.2) HP.out.lt HP.out.once hle a2 n2 c2 bs (H2.out.below hb)
  have hcN := fun (w : World) (hb : Below W.heap.size W w) => byN_any w a len cap ts HR.out (HN.out.below hb) (.slice a1 l.length c1) l (HP.out.reads (H1.out.1.below hb) H1.out.2.1 H1.out.2.2) HP.out.lt HP.out.once hle a2 n2 c2 bs (H2.out.below hb)
  have HCF := Lib.hid hcF
  have HCN := Lib.hid hcN
  clear hcF hcN
  obtain ⟨_, _, b1, off1, ha1, hk1⟩ := H1.out.1.open
  have HA1 := Lib.hid (And.intro ha1 hk1)
  clear ha1 hk1
  go_wp2
  go_loopw [7, 8, 9] (fun x y i wr => ∃ (k : Nat) (D1 D2 : List Nat), i = .int .i64 (k : Int) ∧ k ≤ l.length ∧ Mid l bs W wr x y k D1 D2) (fun _ _ i _ => l.length - (intOf i).toNat)
  case atStart => exact ⟨0, [], [], by go_num, by omega, ⟨Nat.le_refl _, Nat.le_refl _, rfl, rfl, World.ownsRow_nil _ _ _ _, World.ownsRow_nil _ _ _ _, (fun b hb => by simp [Value.ownBlock] at hb), HB2.out⟩⟩
  case round =>
    obtain ⟨k, D1, D2, rfl, hk, hmid⟩ := hrel
    have HM := Lib.hid hmid
    clear hmid
    by_cases hlt : k < l.length
    · obtain rfl := HA1.out.1 (by omega)
      have hlI : (k : Int) < (l.length : Int) := by omega
      have hbelr := HM.out.below
      have hd1 := HM.out.len1
      have hd2 := HM.out.len2
      have hans := answered_any a2 n2 c2 bs k wr (H2.out.below hbelr)
      have hkk := HA1.out.2 k hlt
      rw [HP.out.get hlt] at hkk
      have hkk := (hbelr.cell (p := ⟨b1, off1 + k, none⟩) (World.block_lt_of_cell? _ _ hkk)).trans hkk
      obtain ⟨x, hx⟩ : ∃ x, l.getD k 0 = x := ⟨_, rfl⟩
      rw [hx] at hkk
      have hbase := hbelr.size
      obtain ⟨p, hp⟩ : ∃ p, bs.getD k false = p := ⟨_, rfl⟩
      rw [hp] at hans
      have HANS := Lib.hid hans
      have HX := Lib.hid (And.intro hx hp)
      clear hans hx hp hbelr
      go_wp2_with fail
      refine HANS.out.mono ?_
      rintro e w3 ⟨rfl, rfl⟩
      cases p
      · have hown' : wr.ownsRow W.heap.size 3 1 u8 D2.length (D2.map intV) := HM.out.own2
        go_wp2_with (at_builtin; refine wpList_append_own_at _ rfl _ _ 32 rfl W.heap.size 3 i0 (.int .i64 0) 1 8 Try.underlying32 hi hz0 hz1 hz2 rfl (by decide) _ _ _ rfl (hown'.alloc _) ⟨wr.heap.size, 0, none⟩ 1 1 [.int .i64 (x : Int)] rfl rfl ?c1 ?c2 ?c3 ?c4 ?c5 ?_)
        case c1 =>
          intro j u hj
          match j, hj with
          | 0, hj => simp at hj; subst hj; simp [Addr.add]
        case c2 => intro u hu; simp at hu; subst hu; rfl
        case c3 => unfold maxLen; omega
        case c4 => omega
        case c5 => simp; omega
        intro v' w4 hown2 hgrow _ hat
        have hM4 : Mid l bs W w4 u7 v' (k + 1) D1 (D2 ++ [x]) := by
          have ho1 : OwnPl (wr.alloc (.cells #[.int .i64 (x : Int)] 3)) W.heap.size u7 D1 := HM.out.own1.alloc _
          have ho2 : OwnPl (wr.alloc (.cells #[.int .i64 (x : Int)] 3)) W.heap.size u8 D2 := hown'.alloc _
          have hsep' : Sep u8 u7 := fun b hb hy => HM.out.sep b hy hb
          refine ⟨by omega, by simp; omega, ?_, ?_, grow_keeps ho1 hgrow hsep', ownInts_any_snoc hown2, ?_, (HM.out.below.alloc hbase _).grown hgrow (by simp; omega) (fun q hq => (World.ownsRow.lt hown' q hq).1)⟩
          · simp only [kept, HX.out.2]; exact HM.out.eq1
          · simp only [kept, HX.out.2, HX.out.1, HM.out.eq2]; rfl
          · have := sep_at hsep' ho1 (by simpa using hat)
            exact fun b hb hy => this b hy hb
        have H4 := Lib.hid hM4
        clear hM4 hown2 hgrow hat hown' hkk HANS HM
        go_wp2
        go_roundw
        case rel => exact ⟨k + 1, D1, D2 ++ [x], by go_num, by omega, H4.out⟩
        case measure => simp [intOf]; omega
      · have hown' : wr.ownsRow W.heap.size 3 1 u7 D1.length (D1.map intV) := HM.out.own1
        go_wp2_with (at_builtin; refine wpList_append_own_at _ rfl _ _ 32 rfl W.heap.size 3 i0 (.int .i64 0) 1 8 Try.underlying32 hi hz0 hz1 hz2 rfl (by decide) _ _ _ rfl (hown'.alloc _) ⟨wr.heap.size, 0, none⟩ 1 1 [.int .i64 (x : Int)] rfl rfl ?d1 ?d2 ?d3 ?d4 ?d5 ?_)
        case d1 =>
          intro j u hj
          match j, hj with
          | 0, hj => simp at hj; subst hj; simp [Addr.add]
        case d2 => intro u hu; simp at hu; subst hu; rfl
        case d3 => unfold maxLen; omega
        case d4 => omega
        case d5 => simp; omega
        intro v' w4 hown2 hgrow _ hat
        have hM4 : Mid l bs W w4 v' u8 (k + 1) (D1 ++ [x]) D2 := by
          have ho1 : OwnPl (wr.alloc (.cells #[.int .i64 (x : Int)] 3)) W.heap.size u8 D2 := HM.out.own2.alloc _
          refine ⟨by simp; omega, by omega, ?_, ?_, ownInts_any_snoc hown2, grow_keeps ho1 hgrow HM.out.sep, sep_at HM.out.sep ho1 (by simpa using hat), (HM.out.below.alloc hbase _).grown hgrow (by simp; omega) (fun q hq => (World.ownsRow.lt hown' q hq).1)⟩
          · simp only [kept, HX.out.2, HX.out.1, HM.out.eq1]; rfl
          · simp only [kept, HX.out.2]; exact HM.out.eq2
        have H4 := Lib.hid hM4
        clear hM4 hown2 hgrow hat hown' hkk HANS HM
        go_wp2
        go_roundw
        case rel => exact ⟨k + 1, D1 ++ [x], D2, by go_num, by omega, H4.out⟩
        case measure => simp [intOf]; omega
    · obtain rfl : k = l.length := by omega
      have hF := HCF.out wr HM.out.below
      have r7 := HM.out.own1.reads
      have r8 := HM.out.own2.reads
      rw [HM.out.eq1] at hF
      have HF := Lib.hid hF
      have R7 := Lib.hid r7
      have R8 := Lib.hid r8
      clear hF r7 r8
      go_wp2_with fail
      refine HF.out.mono ?_
      rintro e w5 ⟨v5, rfl, ho5, hb5⟩
      have hb05 : Below W.heap.size W w5 := HM.out.below.trans (hb5.out.mono HM.out.below.size)
      have hN5 := HCN.out w5 hb05
      rw [HM.out.eq2] at hN5
      have HN5 := Lib.hid hN5
      have HB05 := Lib.hid hb05
      clear hN5 hb05 HF
      go_wp2_with fail
      refine HN5.out.mono ?_
      rintro e w6 ⟨v6, rfl, ho6, hb6⟩
      have hb06 : Below W.heap.size W w6 := HB05.out.trans (hb6.out.mono HB05.out.size)
      have s1 := sameList_any v5 u7 D1 w6 (ho5.out.reads.below hb6.out) ((R7.out.below hb5.out).below hb6.out)
      have HS1 := Lib.hid s1
      have HB06 := Lib.hid hb06
      clear s1 hb06 HN5 HB05
      go_wp2_with fail
      refine HS1.out.mono ?_
      rintro e w7 ⟨rfl, hb7⟩
      have s2 := sameList_any v6 u8 D2 w7 (ho6.out.reads.below hb7) (((R8.out.below hb5.out).below hb6.out).below hb7)
      have HS2 := Lib.hid s2
      have HB07 := Lib.hid (HB06.out.trans (hb7.mono HB06.out.size))
      clear s2 hb7 HS1 HB06
      go_wp2_with fail
      refine HS2.out.mono ?_
      rintro e w8 ⟨rfl, hb8⟩
      have HB08 := Lib.hid (HB07.out.trans (hb8.mono HB07.out.size))
      clear hb8 HS2 HB07
      go_wp2
      go_ret
      exact ⟨rfl, HB08.out⟩

end Go.Proofs.Ytobnglgnoflbnaa.lawFnFilterBy
