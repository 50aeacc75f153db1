/- The reference's step: nodes are removed. What the reference says of nodes that are removed. -/
import Derived.Test.YtoleejaabiafcaaGreatChosenK
import Derived.Test.YtoleejaabiafcaaGreatKnotTurn
import Derived.Test.YtoleejaabiafcaaGreatWoodAll
import Derived.Test.YtoleejaabiafcaaGreatSure
namespace Go.Proofs.YtoleejaabiafcaaGreat
open Go.RowKit
set_option linter.unusedVariables false
set_option linter.unusedSimpArgs false

/-- Nodes removed. -/
def RemK (len : Nat) (pl0 : Nat → Int) (lab0 : Nat → NodeD) (F0 : Wd) (zs : List Int) (n : Nat) (pl : Nat → Int) (lab : Nat → NodeD) (F : Wd) : Prop := n = len ∧ pl = pl0 ∧ lab = lab0 ∧ ∃ l, Picks len zs l ∧ F = cutsW F0 l

set_option maxRecDepth 100000 in
set_option maxHeartbeats 4000000 in
theorem stepRem_any {B : Nat} (W : World) (f len : Nat) (vf : Value) (kn : Nat → Nat) (kv av : Nat → Value) (pl : Nat → Int) (lab : Nat → NodeD) (F : Wd) (many : Int) (hK : Knots B W len kn kv av pl lab F) (hF : WOk len F) (hFo : ForestK B W f vf len kn many false) (h0 : 0 < len) (hlen : len ≤ 600) (a : Option Addr) (n ncap : Nat) (zs : List Int) (h : Ints W a n zs) :
    Calls Tryz.prog 26 #[.pointer (some ⟨f, 0, none⟩), .agg #[.int .i64 6, .slice a n ncap, .slice none 0 0, .string ⟨#[]⟩, .string ⟨#[]⟩, .slice none 0 0]] W (fun e w' => StepKPost B f len vf kn (RemK len pl lab F zs) e w' W) := by
  obtain ⟨W0, hW0⟩ : ∃ W0, W.alloc (.cells #[.int .i64 6, .slice a n ncap, .slice none 0 0, .string ⟨#[]⟩, .string ⟨#[]⟩, .slice none 0 0] 28) = W0 := ⟨_, rfl⟩
  have hb0 : Below W.heap.size W W0 := by rw [← hW0]; exact (Below.refl _ _).alloc (Nat.le_refl _) _
  have hs0 : W0.heap.size = W.heap.size + 1 := by rw [← hW0]; simp
  have b0 : W0.cell? ⟨W.heap.size, 0, none⟩ = some (.int .i64 6) := by rw [← hW0]; exact cell_alloc_new' _ _ _ rfl rfl
  have b1 : W0.cell? ⟨W.heap.size, 1, none⟩ = some (.slice a n ncap) := by rw [← hW0]; exact cell_alloc_new' _ _ _ rfl rfl
  have b2 : W0.cell? ⟨W.heap.size, 2, none⟩ = some (.slice none 0 0) := by rw [← hW0]; exact cell_alloc_new' _ _ _ rfl rfl
  have hK0 := hK.below hb0
  have hFo0 := hFo.below hb0
  have hch := chosenK_any W0 f len vf kn many false hFo0 h0 hlen a n ncap zs (h.below hb0)
  have hch2 := fun (w1 : World) (hb : Below W0.heap.size W0 w1) => chosenK_any w1 f len vf kn many false (hFo0.below hb) h0 hlen none 0 0 [] ⟨rfl, Nat.zero_le _, fun h => absurd h (Nat.lt_irrefl 0)⟩
  have hBW : B ≤ W.heap.size := Nat.le_trans hFo.base (Nat.le_of_lt hFo.obj.lt)
  have HCH := Lib.hid hch
  have HCH2 := Lib.hid hch2
  have HK0 := Lib.hid (And.intro hK0 hFo0)
  have HB0 := Lib.hid hb0
  have HF := Lib.hid hF
  clear hch hch2 hK0 hFo0 hb0 hK hFo h hF
  go_enter Tryz.func26, Tryz.ntmps26
  go_wp2_with fail
  refine HCH.out.mono ?_
  intro e w1 hp
  rcases hp with ⟨rfl, hb1⟩ | ⟨v1, l, hpk, rfl, ho1, hb1⟩
  · have HC2 := Lib.hid (HCH2.out w1 hb1.out)
    have b2' := cell_below hb1.out b2
    clear b0 b1 b2 HCH
    go_wp2_with fail
    refine HC2.out.mono ?_
    intro e w2 hp
    have hend : ∀ w2, Below w1.heap.size w1 w2 → Below B W w2 := fun w2 hb2 => (HB0.out.mono hBW).trans ((hb1.out.mono (by omega)).trans (hb2.mono (by have := hb1.out.size; omega)))
    have HE := Lib.hid hend
    clear hend
    rcases hp with ⟨rfl, hb2⟩ | ⟨v2, l2, _, rfl, _, hb2⟩
    · go_wp2
      go_ret
      exact .inl ⟨rfl, Lib.hid (HE.out _ hb2.out)⟩
    · go_wp2
      go_ret
      exact .inl ⟨rfl, Lib.hid (HE.out _ hb2.out)⟩
  · have HC2 := Lib.hid (HCH2.out w1 hb1.out)
    have b2' := cell_below hb1.out b2
    have b0' := cell_below hb1.out b0
    have HP := Lib.hid hpk
    obtain ⟨va, vc, rfl⟩ := ownsRow_slice ho1.out
    clear b0 b1 b2 HCH hpk
    go_wp2_with fail
    refine HC2.out.mono ?_
    intro e w2 hp
    have hend : ∀ w2, Below w1.heap.size w1 w2 → Below B W w2 := fun w2 hb2 => (HB0.out.mono hBW).trans ((hb1.out.mono (by omega)).trans (hb2.mono (by have := hb1.out.size; omega)))
    have HE := Lib.hid hend
    clear hend
    rcases hp with ⟨rfl, hb2⟩ | ⟨v2, l2, hl2, rfl, hv2, hb2⟩
    · go_wp2
      go_ret
      exact .inl ⟨rfl, Lib.hid (HE.out _ hb2.out)⟩
    · have b0'' := cell_below hb2.out b0'
      by_cases hl0 : l.length = 0
      · have gl : ((l.length : Int) == 0) = true := by simp [hl0]
        clear hl0 hl2 hv2
        go_wp2
        go_ret
        exact .inl ⟨rfl, Lib.hid (HE.out _ hb2.out)⟩
      · have gl : ((l.length : Int) == 0) = false := by simp [hl0]
        have hb02 : Below W0.heap.size W0 w2 := hb1.out.trans (hb2.out.mono hb1.out.size)
        have HK2 := Lib.hid (HK0.out.1.below hb02)
        have HFo2 := Lib.hid (HK0.out.2.below hb02)
        have HO2 := Lib.hid (ownsRow_kept ho1.out (fun k hk => hb2.out.block k (World.ownsRow.lt ho1.out k hk).2))
        have HB2 := Lib.hid (HE.out _ hb2.out)
        have hlle : l.length ≤ 600 := Nat.le_trans HP.out.le hlen
        obtain ⟨gv, rfl⟩ : ∃ gv, va = some ⟨gv, 0, none⟩ := by
          rcases HO2.out.2 with ⟨_, h2⟩ | ⟨g0, c0_, cur, hv_, _⟩
          · exact absurd h2 hl0
          · simp at hv_; exact ⟨g0, hv_.1⟩
        clear hb02 hl2 hv2 b0' b2' ho1 hb1 hb2 HC2 HCH2 HE HK0 HB0 hl0
        go_wp2
        go_loopw [9] (fun iv wr => ∃ (k : Nat) (kv : Nat → Value), k ≤ l.length ∧ iv = .int .i64 (k : Int) ∧ Hid (Knots B wr len kn kv av pl lab (cutsW F (l.take k))) ∧ Hid (ForestK B wr f vf len kn many false) ∧ Hid (wr.ownsRow W0.heap.size 66 1 (.slice (some ⟨gv, 0, none⟩) l.length vc) l.length (l.map fun y => ptrV (kn y))) ∧ Hid (Below B W wr)) (fun i _ => l.length - (intOf i).toNat)
        case atStart => exact ⟨0, kv, by omega, by go_num, HK2, HFo2, HO2, HB2⟩
        case round =>
          obtain ⟨k, kv, hk, rfl, HKr, HFr, HOr, HBr⟩ := hrel
          by_cases hlt : k < l.length
          · have ck : wr.cell? ⟨gv, k, none⟩ = some (.pointer (some ⟨kn (l.getD k 0), 0, none⟩)) := by
              have := HOr.out.cells (g := gv) rfl k (ptrV (kn (l.getD k 0))) (by simp [List.getD, hlt])
              rwa [show (⟨gv, 0, none⟩ : Addr).add k = ⟨gv, k, none⟩ by unfold Addr.add; split <;> simp_all] at this
            have hx := HP.out.lt _ (getD_mem' (d := 0) hlt)
            have htk := cuts_take (F := F) hlt
            obtain ⟨x, hxx⟩ : ∃ x, l.getD k 0 = x := ⟨_, rfl⟩
            rw [hxx] at ck hx htk
            have hFk := HF.out.cuts (l.take k)
            have hkI : (k : Int) < (l.length : Int) := by omega
            cases hu : (cutsW F (l.take k)).up x with
            | none =>
              have hcn := cut_none HKr.out hx hu
              have HN := Lib.hid (show Knots B wr len kn kv av pl lab (cutsW F (l.take (k + 1))) by rw [htk, hFk.cut_none hu]; exact HKr.out)
              have HCN := Lib.hid hcn
              clear hcn htk hFk hu hxx
              go_wp2_with fail
              refine HCN.out.mono ?_
              rintro e w3 ⟨rfl, rfl⟩
              go_wp2
              refine ⟨?rel, ?measure⟩
              case rel => exact ⟨k + 1, kv, by omega, by go_num, HN, HFr, HOr, HBr⟩
              case measure => simp [intOf]; omega
            | some p =>
              obtain ⟨aa, bb, hab⟩ := List.append_of_mem ((hFk.iff p x).2 hu)
              have hcs := cutK_some HKr.out hFk (by omega) hab
              rw [← htk] at hcs
              have HCS := Lib.hid hcs
              clear hcs htk hFk hu hxx hab
              go_wp2_with fail
              refine HCS.out.mono ?_
              rintro e w3 ⟨kv3, rfl, hk3, ho3⟩
              have HF3 := Lib.hid (HFr.out.turn HKr.out ho3.out)
              have HO3 := Lib.hid (ownsRow_kept HOr.out (fun q hq => ho3.out.block q (World.ownsRow.lt HOr.out q hq).2 (fun i hi e => objAt_ne_own (HKr.out.node i hi) HOr.out (by decide) (by rw [hq, e]))))
              have HB3 := Lib.hid (HBr.out.trans (ho3.out.below B (by have := HBr.out.size; omega) HKr.out.base))
              clear ho3 HCS
              go_wp2
              refine ⟨?rel, ?measure⟩
              case rel => exact ⟨k + 1, kv3, by omega, by go_num, hk3, HF3, HO3, HB3⟩
              case measure => simp [intOf]; omega
          · obtain rfl : k = l.length := by omega
            have hkn := HKr.out
            rw [List.take_length] at hkn
            have HKN := Lib.hid hkn
            clear hkn
            go_wp2
            go_ret
            exact .inr (.inl ⟨len, kn, kv, av, pl, lab, cutsW F l, many, false, rfl, ⟨rfl, rfl, rfl, l, HP.out, rfl⟩, rfl, HKN, HFr, HBr⟩)

end Go.Proofs.YtoleejaabiafcaaGreat

namespace Go.Proofs.YtoleejaabiafcaaGreat
open Go.RowKit
set_option linter.unusedVariables false
set_option linter.unusedSimpArgs false

theorem Picks.reads {len : Nat} {zs : List Int} {l : List Nat} (h : Picks len zs l) {w : World} {a : Option Addr} {n cap : Nat} (hw : Ints w a n zs) (h1 : n ≤ cap) (h2 : cap ≤ maxLen) : ReadsAs w (.slice a n cap) (l.map intV) := by
  have hn : n = (l.map intV).length := by
    have := hw.1
    rw [h.eq] at this
    simpa using this.symm
  refine ⟨a, cap, by rw [← hn], by omega, h2, ?_⟩
  rw [← hn]
  have : l.map intV = zs.map intZ := by rw [h.eq]; simp [intV, intZ, Function.comp_def]
  rw [this]
  exact hw

theorem once_nodup {l : List Nat} (h : l.Nodup) : Once l := fun i j hi hj e => by
  simp only [List.getD_eq_getElem?_getD, List.getElem?_eq_getElem hi, List.getElem?_eq_getElem hj, Option.getD_some] at e
  exact (List.getElem_inj h).1 e

theorem Picks.det {len : Nat} {zs : List Int} {l l' : List Nat} (h : Picks len zs l) (h' : Picks len zs l') : l = l' := by
  have h1 := h.eq
  rw [h'.eq] at h1
  have h2 := congrArg (List.map Int.toNat) h1
  simp only [List.map_map] at h2
  have h3 : ∀ q : List Nat, q.map (Int.toNat ∘ fun (n : Nat) => (n : Int)) = q := fun q => by
    conv => rhs; rw [← List.map_id q]
    exact List.map_congr_left (fun x _ => rfl)
  rw [h3, h3] at h2
  exact h2.symm

/-- Nodes of a right tree that are removed. -/
def RemPhi (len : Nat) (ts : List NodeD) (zs : List Int) : Nat → (Nat → Int) → (Nat → NodeD) → Wd → Prop := RemK len (fun i => (i : Int)) (fun i => ts.getD i default) (wd0 (sz ts) len) zs

theorem remPhi_ok (len : Nat) (ts : List NodeD) (zs : List Int) : PhiOk len ts (RemPhi len ts zs) := by
  rintro n pl lab F hR ⟨rfl, rfl, rfl, l, hl, rfl⟩
  exact ⟨(wd0_ok hR.nest).cuts l, by have := hR.le; omega, hR.pos, fun i hi => by simp only; omega⟩

theorem remSays {W : World} {len : Nat} {ts : List NodeD} {a1 : Option Addr} {n1 c1 : Nat} {zs : List Int} (h : Ints W a1 n1 zs) : StepSays len ts 6 a1 n1 c1 none 0 0 (RemPhi len ts zs) W := by
  intro W' hb w f vf kn kv av hR hK hF hb2
  exact stepRem_any w f len vf kn kv av _ _ _ _ hK (wd0_ok hR.nest) hF hR.pos hR.le a1 n1 c1 zs (h.below (hb.trans (hb2.mono hb.size)))

end Go.Proofs.YtoleejaabiafcaaGreat

