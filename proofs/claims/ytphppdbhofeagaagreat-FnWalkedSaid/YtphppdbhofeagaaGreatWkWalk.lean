/- spec.Walk. -/
import Derived.Test.YtphppdbhofeagaaGreatWkRelMore
import Derived.Test.YtphppdbhofeagaaGreatWkOffAll
import Derived.Test.YtphppdbhofeagaaGreatViewsAll
import Derived.Test.YtphppdbhofeagaaGreatPlaceAll
import Derived.Test.YtphppdbhofeagaaGreatWalked
namespace Go.Proofs.YtphppdbhofeagaaGreat
open Go.RowKit
set_option linter.unusedVariables false
set_option linter.unusedSimpArgs false

theorem Tryz.infoBool : (Tryz.prog.info? 4).map (fun i => (i.zero, i.size, i.bytes)) = some (some (.bool false), 1, 1) := by kernel_rfl

/-- A pick whose places are places. -/
structure PickOk (len : Nat) (d : PickD) (wl : List Nat) : Prop where
  places : Places len d.zs wl
  pos : ∀ x ∈ wl, 0 < x

def pkOf (d : PickD) (wl : List Nat) : PickP := ⟨d.op, wl, d.a, d.b⟩

/-- A chain, as far as it went. -/
structure ChainS (ts : List NodeD) (len : Nat) (ps : List PickD) (wl : Nat → List Nat) (l0 : List Nat) (cl : Nat → List Nat) (ck : Nat → Bool) (n : Nat) : Prop where
  l0 : cl 0 = l0
  k0 : ck 0 = true
  step : ∀ i, i < n → StepS ts len (pkOf (ps.getD i default) (wl i)) (cl i) (ck i) (cl (i + 1)) (ck (i + 1))

theorem ChainS.snoc {ts : List NodeD} {len : Nat} {ps : List PickD} {wl : Nat → List Nat} {l0 : List Nat} {cl : Nat → List Nat} {ck : Nat → Bool} {n : Nat} (h : ChainS ts len ps wl l0 cl ck n) {M : List Nat} {k' : Bool}
    (hs : StepS ts len (pkOf (ps.getD n default) (wl n)) (cl n) (ck n) M k') : ChainS ts len ps wl l0 (fun i => if i = n + 1 then M else cl i) (fun i => if i = n + 1 then k' else ck i) (n + 1) := by
  refine ⟨?_, ?_, fun i hi => ?_⟩
  · simp [h.l0]
  · simp [h.k0]
  · by_cases hin : i = n
    · subst hin
      simp only [if_true]
      rw [if_neg (by omega), if_neg (by omega)]
      exact hs
    · rw [if_neg (by omega), if_neg (by omega), if_neg (by omega), if_neg (by omega)]
      exact h.step i (by omega)

/-- What stands in the chain's rows. -/
def rowsL (cl : Nat → List Nat) (n : Nat) : List (List Nat) := (List.range n).map fun i => cl (i + 1)
def rowsK (ck : Nat → Bool) (n : Nat) : List Value := (List.range n).map fun i => .bool (ck (i + 1))

theorem rowsL_snoc (cl : Nat → List Nat) (n : Nat) (M : List Nat) : rowsL (fun i => if i = n + 1 then M else cl i) (n + 1) = rowsL cl n ++ [M] := by
  unfold rowsL
  rw [List.range_succ, List.map_append]
  congr 1
  · apply List.map_congr_left
    intro i hi
    have := List.mem_range.1 hi
    simp; omega
  · simp
theorem rowsK_snoc (ck : Nat → Bool) (n : Nat) (k : Bool) : rowsK (fun i => if i = n + 1 then k else ck i) (n + 1) = rowsK ck n ++ [.bool k] := by
  unfold rowsK
  rw [List.range_succ, List.map_append]
  congr 1
  · apply List.map_congr_left
    intro i hi
    have := List.mem_range.1 hi
    simp; omega
  · simp

theorem rowsL_len (cl : Nat → List Nat) (n : Nat) : (rowsL cl n).length = n := by simp [rowsL]
theorem rowsK_len (ck : Nat → Bool) (n : Nat) : (rowsK ck n).length = n := by simp [rowsK]

/-- The places of a chain are places, each once. -/
theorem ChainS.agree {ts : List NodeD} {len : Nat} (hR : RightT ts len) {ps : List PickD} {wl : Nat → List Nat} {l0 : List Nat} {cl : Nat → List Nat} {ck : Nat → Bool} {n : Nat} (h : ChainS ts len ps wl l0 cl ck n)
    (hw : ∀ i, i < n → PickOk len (ps.getD i default) (wl i)) (ho : Once l0) (hl : ∀ x ∈ l0, x < len ∧ 0 < x) : ∀ i, i ≤ n → Agree len (cl i) (cl i) false := by
  intro i
  induction i with
  | zero =>
    intro _
    rw [h.l0]
    exact ⟨ho, ho, fun _ => Iff.rfl, hl, fun h => by cases h⟩
  | succ i ih =>
    intro hi
    have ha := ih (by omega)
    have hs := h.step i (by omega)
    have hk : Agree len (cl i) (cl i) (ck i) := ⟨ha.onceP, ha.onceS, ha.mem, ha.lt, fun _ => rfl⟩
    obtain ⟨N, _, hN⟩ := step_agree hR (p := pkOf (ps.getD i default) (wl i)) (fun x hx => ⟨(hw i (by omega)).places.lt x hx, (hw i (by omega)).pos x hx⟩) hk hs
    exact ⟨hN.onceS, hN.onceS, fun _ => Iff.rfl, hN.lt, fun h => by cases h⟩

theorem part_false (p : PickP) (h : ¬(32 ≤ p.op ∧ p.op ≤ 36)) : p.part = false := by
  unfold PickP.part
  by_cases h1 : 32 ≤ p.op
  · have h2 : ¬(p.op ≤ 36) := fun h2 => h ⟨h1, h2⟩
    simp [h2]
  · simp [h1]

/-- What the reference's loop knows. -/
structure WkAt (W w : World) (ts : List NodeD) (len : Nat) (ps : List PickD) (wl : Nat → List Nat) (l0 : List Nat) (cl : Nat → List Nat) (ck : Nat → Bool) (n : Nat) (von vset vord : Value) (vs : List Value) : Prop where
  chain : ChainS ts len ps wl l0 cl ck n
  on : IntsOn w von (cl n)
  oset : OffBlk von vset.ownBlock
  oord : OffBlk von vord.ownBlock
  oold : ∀ b, von.ownBlock = some b → b < w.heap.size
  set : w.ownsRow W.heap.size 23 1 vset n vs
  ord : w.ownsRow W.heap.size 4 1 vord n (rowsK ck n)
  so : OffBlk vset vord.ownBlock
  rs : RowsAt w vs (rowsL cl n) vset.ownBlock vord.ownBlock
  bel : Below W.heap.size W w

def WalkRPost (ts : List NodeD) (len : Nat) (ps : List PickD) (wl : Nat → List Nat) (l0 : List Nat) (n : Nat) (W : World) (e : Ending) (w' : World) : Prop :=
  ∃ v1 v2 b, e = .returned (.tuple #[v1, v2, .bool b]) ∧ Hid (Below W.heap.size W w') ∧
    Hid (b = true → ∃ cl ck vs, ChainS ts len ps wl l0 cl ck n ∧ ReadsAs w' v1 vs ∧ vs.length = n ∧ (∀ j, j < n → ReadsAs w' (vs.getD j undef) ((cl (j + 1)).map intV)) ∧ ReadsAs w' v2 (rowsK ck n))

theorem own_nil_value {w : World} {B n : Nat} {t : TypeId} {v : Value} {xs : List Value} (h : w.ownsRow B t 1 v n xs) : ∃ a c, v = .slice a n c ∧ ReadsAs w v xs := by
  have hl : xs.length = n := by have := h.1; omega
  have hr : ReadsAs w v xs := owns_reads (by rw [hl]; exact h)
  obtain ⟨a, c, rfl, _⟩ := hr.nil
  exact ⟨a, c, by rw [hl], by rw [hl] at hr ⊢; exact hr⟩

theorem WkAt.step {W wr w3 w4 w5 : World} {ts : List NodeD} {len : Nat} {ps : List PickD} {wl : Nat → List Nat} {l0 : List Nat} {cl : Nat → List Nat} {ck : Nat → Bool} {n : Nat} {von vset vord : Value} {vs : List Value} (h : WkAt W wr ts len ps wl l0 cl ck n von vset vord vs)
    (hb3 : Below wr.heap.size wr w3) {v' : Value} {M : List Nat} {k' : Bool} (hon : IntsOn w3 v' M) (hown : ∀ j, v'.ownBlock = some j → von.ownBlock = some j ∨ (wr.heap.size ≤ j ∧ j < w3.heap.size)) (hs : StepS ts len (pkOf (ps.getD n default) (wl n)) (cl n) (ck n) M k')
    {g1 c1 g2 c2 : Nat} {x y : Obj} (h4 : w4.ownsRow W.heap.size 23 1 (.slice (some ⟨g1, 0, none⟩) (n + 1) c1) (n + 1) (vs ++ [v'])) (hg4 : (w3.alloc x).grownBy w4 vset.ownBlock) (hat4 : vset.ownBlock = some g1 ∨ w3.heap.size ≤ g1)
    (h5 : w5.ownsRow W.heap.size 4 1 (.slice (some ⟨g2, 0, none⟩) (n + 1) c2) (n + 1) (rowsK ck n ++ [.bool k'])) (hg5 : (w4.alloc y).grownBy w5 vord.ownBlock) (hat5 : vord.ownBlock = some g2 ∨ w4.heap.size ≤ g2) :
    WkAt W w5 ts len ps wl l0 (fun i => if i = n + 1 then M else cl i) (fun i => if i = n + 1 then k' else ck i) (n + 1) v' (.slice (some ⟨g1, 0, none⟩) (n + 1) c1) (.slice (some ⟨g2, 0, none⟩) (n + 1) c2) (vs ++ [v']) := by
  have k4 : KeepBut vset.ownBlock w3 w4 := grown_keep hg4
  have k5 : KeepBut vord.ownBlock w4 w5 := grown_keep hg5
  have hsz3 := hb3.size
  have hsz4 := k4.size
  have hsz5 := k5.size
  have hset : ∀ q, vset.ownBlock = some q → W.heap.size ≤ q ∧ q < wr.heap.size := fun q hq => World.ownsRow.lt h.set q hq
  have hord : ∀ q, vord.ownBlock = some q → W.heap.size ≤ q ∧ q < wr.heap.size := fun q hq => World.ownsRow.lt h.ord q hq
  have hvl : ∀ j, v'.ownBlock = some j → j < w3.heap.size := fun j hj => by
    rcases hown j hj with h1 | h1
    · have := h.oold j h1; omega
    · exact h1.2
  have hvs : OffBlk v' vset.ownBlock := fun j hj e => by
    rcases hown j hj with h1 | h1
    · exact h.oset j h1 e
    · have := (hset j e).2; omega
  have hvo : OffBlk v' vord.ownBlock := fun j hj e => by
    rcases hown j hj with h1 | h1
    · exact h.oord j h1 e
    · have := (hord j e).2; omega
  have hr4 : ReadsAs w4 v' (M.map intV) := hon.1.kept fun j hj => k4.block j (hvl j hj) (hvs j hj)
  have hr5 : ReadsAs w5 v' (M.map intV) := hr4.kept fun j hj => k5.block j (by have := hvl j hj; omega) (hvo j hj)
  have t1 : ∀ b, (some g1 : Option Nat) = some b → vset.ownBlock = some b ∨ w3.heap.size ≤ b := fun b hb => by
    simp at hb
    subst hb
    exact hat4
  have t2 : ∀ b, (some g2 : Option Nat) = some b → vord.ownBlock = some b ∨ w4.heap.size ≤ b := fun b hb => by
    simp at hb
    subst hb
    exact hat5
  have hrows := ((h.rs.below hb3).one (o' := some g1) k4 t1)
  have hrows2 := hrows.snoc (v := v') (L := M) hr4 (fun j hj e => by
    rcases t1 j e with h1 | h1
    · exact hvs j hj h1
    · have := hvl j hj; omega) hvo (fun j hj => by have := hvl j hj; omega)
  have hrows3 := hrows2.two (p' := some g2) k5 t2
  have hg1o : (some g1 : Option Nat) ≠ vord.ownBlock := fun e => by
    have h9 := (hord g1 e.symm).2
    rcases hat4 with h1 | h1
    · exact h.so g1 h1 e.symm
    · omega
  have hbel4 : Below W.heap.size W w4 := ((h.bel.trans (hb3.mono h.bel.size)).alloc (by have := h.bel.size; omega) x).grown hg4 (by have := h.bel.size; simp; omega) (fun q hq => (hset q hq).1)
  have hbel5 : Below W.heap.size W w5 := (hbel4.alloc hbel4.size y).grown hg5 (by have := hbel4.size; simp; omega) (fun q hq => (hord q hq).1)
  refine ⟨h.chain.snoc hs, ⟨?_, hon.2⟩, ?_, ?_, ?_, ?_, ?_, ?_, ?_, hbel5⟩
  · simp only [if_true]
    exact hr5
  · intro j hj e
    rcases t1 j e with h1 | h1
    · exact hvs j hj h1
    · have := hvl j hj; omega
  · intro j hj e
    rcases t2 j e with h1 | h1
    · exact hvo j hj h1
    · have := hvl j hj; omega
  · intro j hj
    have := hvl j hj
    omega
  · exact ownsRow_kept h4 fun q hq => by
      have hl := (World.ownsRow.lt h4 q hq).2
      simp [Value.ownBlock] at hq
      subst hq
      exact k5.block g1 hl (fun e => hg1o e.symm)
  · rw [rowsK_snoc]
    exact h5
  · intro q hq e
    simp [Value.ownBlock] at hq e
    subst hq
    rcases hat5 with h1 | h1
    · exact hg1o (by rw [h1, e])
    · have := (World.ownsRow.lt h4 g1 rfl).2; omega
  · rw [rowsL_snoc]
    exact hrows3

set_option maxRecDepth 100000 in
set_option maxHeartbeats 8000000 in
theorem walkR_any (W : World) (ta : Option Addr) (len cap : Nat) (ts : List NodeD) (hR : RightT ts len) (hN : Nodes W ta len ts) (v0 : Value) (l0 : List Nat) (h0 : IntsOn W v0 l0) (ho0 : Once l0) (hl0 : ∀ x ∈ l0, x < len ∧ 0 < x)
    (hv0 : ∀ b, v0.ownBlock = some b → b < W.heap.size) (pa : Option Addr) (n pc : Nat) (ps : List PickD) (hP : Picks W pa n ps) (hn : n ≤ 8) (wl : Nat → List Nat) (hw : ∀ i, i < n → PickOk len (ps.getD i default) (wl i)) :
    Calls Tryz.prog 14 #[.slice ta len cap, v0, .slice pa n pc] W (WalkRPost ts len ps wl l0 n W) := by
  have hlen := hR.le
  obtain ⟨b, off, hpa, hcells⟩ := hP.open
  obtain ⟨i0, hi, hz0, hz1, hz2⟩ := info_parts Tryz.infoInts
  obtain ⟨j0, hj, hy0, hy1, hy2⟩ := info_parts Tryz.infoBool
  have HPA := Lib.hid hpa
  have HPC := Lib.hid hcells
  have HT := Lib.hid (And.intro hR hN)
  have HL0 := Lib.hid (And.intro ho0 (And.intro hl0 hw))
  have hstart : WkAt W W ts len ps wl l0 (fun _ => l0) (fun _ => true) 0 v0 (.slice none 0 0) (.slice none 0 0) [] :=
    ⟨⟨rfl, rfl, fun i hi => by omega⟩, h0, fun b _ h => by simp [Value.ownBlock] at h, fun b _ h => by simp [Value.ownBlock] at h, hv0, World.ownsRow_nil _ _ _ _, World.ownsRow_nil _ _ _ _, fun b h => by simp [Value.ownBlock] at h, RowsAt.nil _ _ _, Below.refl _ _⟩
  have HS := Lib.hid hstart
  clear hR hN h0 ho0 hl0 hv0 hP hpa hcells hstart hw
  go_enter Tryz.func14, Tryz.ntmps14
  go_wp2
  go_loopw [1, 6, 7, 9, 10] (fun von vset vord vk iv wr => ∃ (k : Nat) (cl : Nat → List Nat) (ck : Nat → Bool) (vs : List Value), iv = .int .i64 (k : Int) ∧ k ≤ n ∧ vk = .bool (ck k) ∧ Hid (WkAt W wr ts len ps wl l0 cl ck k von vset vord vs)) (fun _ _ _ _ iv _ => n - (intOf iv).toNat)
  case atStart => exact ⟨0, _, _, _, by go_num, by omega, rfl, HS⟩
  case round =>
    obtain ⟨k, cl, ck, vs, rfl, hk, rfl, hat⟩ := hrel
    by_cases hlt : k < n
    · obtain rfl := HPA.out (by omega)
      have hpc := (HPC.out k hlt).below hat.out.bel
      have hpk := HL0.out.2.2 k hlt
      have hag := hat.out.chain.agree HT.out.1 (fun i hi => HL0.out.2.2 i (by omega)) HL0.out.1 HL0.out.2.1 k (Nat.le_refl _)
      have hwn : (wl k).length ≤ 200 := Nat.le_trans hpk.places.le hlen
      obtain ⟨d, hd⟩ : ∃ d, ps.getD k default = d := ⟨_, rfl⟩
      have HD := Lib.hid hd
      rw [hd] at hpc hpk
      clear hd
      obtain ⟨op, tx, wa, wn, wc, zs, pa', pb'⟩ := d
      obtain ⟨x0, x1, x2, x3, x4, hints, hcap, hra, hrb, _⟩ := hpc
      simp only at x0 x1 x2 x3 x4 hints hcap hra hrb
      have hwl : (wl k).length = wn := by
        have h1 := hpk.places.eq
        have h2 := hints.open.1
        simp only at h1
        rw [← h2, h1, List.length_map]
      subst hwl
      have hrd := hpk.places.reads hints hcap.1 hcap.2
      have hkI : (k : Int) < (n : Int) := by omega
      have hadd0 : off + k * 5 + 0 = off + k * 5 := rfl
      have hb0 : Below wr.heap.size wr (wr.alloc (.cells #[.int .i64 op, .string tx, .slice wa (wl k).length wc, .int .i64 pa', .int .i64 pb'] 27)) := (Below.refl _ _).alloc (Nat.le_refl _) _
      have hp : ∀ i u, (#[.int .i64 op, .string tx, .slice wa (wl k).length wc, .int .i64 pa', .int .i64 pb'] : Array Value)[i]? = some u → (wr.alloc (.cells #[.int .i64 op, .string tx, .slice wa (wl k).length wc, .int .i64 pa', .int .i64 pb'] 27)).cell? ⟨wr.heap.size, i, none⟩ = some u := fun i u h => cell_alloc_new' _ _ _ rfl h
      obtain ⟨wp, hwp⟩ : ∃ wp, wr.alloc (.cells #[.int .i64 op, .string tx, .slice wa (wl k).length wc, .int .i64 pa', .int .i64 pb'] 27) = wp := ⟨_, rfl⟩
      rw [hwp] at hb0 hp
      have q0 : wp.cell? ⟨wr.heap.size, 0, none⟩ = some (.int .i64 op) := hp 0 _ rfl
      have q1 : wp.cell? ⟨wr.heap.size, 1, none⟩ = some (.string tx) := hp 1 _ rfl
      have q2 : wp.cell? ⟨wr.heap.size, 2, none⟩ = some (.slice wa (wl k).length wc) := hp 2 _ rfl
      have q3 : wp.cell? ⟨wr.heap.size, 3, none⟩ = some (.int .i64 pa') := hp 3 _ rfl
      have q4 : wp.cell? ⟨wr.heap.size, 4, none⟩ = some (.int .i64 pb') := hp 4 _ rfl
      have HBW := Lib.hid (hat.out.bel.trans (hb0.mono hat.out.bel.size))
      have hrel := fun h40 => related_any (ts := ts) (len := len) tx wa wc (pkOf ⟨op, tx, wa, (wl k).length, wc, zs, pa', pb'⟩ (wl k)) hra hrb ta cap u1 (cl k) wp HT.out.1 (HT.out.2.below HBW.out) (hat.out.on.below hb0) (fun i hi => (hag.lt i hi).1) (Nat.le_trans hag.leS hlen) (hrd.below hb0) hwn (fun F hF x hx => by have := rel_len hF hx; omega) h40
      obtain ⟨κ, hκ⟩ : ∃ κ, ck k = κ := ⟨_, rfl⟩
      have HREL := Lib.hid hrel
      have HB0 := Lib.hid (And.intro hb0 hκ)
      have HPK := Lib.hid hpk
      rw [hκ]
      clear hp hrel hints hcap hra hrb hrd hb0 hpk hag hκ hwn
      by_cases hpart : 32 ≤ op ∧ op ≤ 36
      · have g1 : decide ((32 : Int) ≤ op) = true := by simp [hpart.1]
        have g2 : decide (op ≤ 36) = true := by simp [hpart.2]
        have g40 : (op == 40) = false := by simp; omega
        cases κ
        · clear hpart
          go_wp2
          go_ret3
          exact ⟨_, _, false, rfl, HBW, Lib.hid (fun h => by cases h)⟩
        · have H := Lib.hid (HREL.out (show op ≠ 40 by omega))
          have HPART := Lib.hid hpart
          clear hpart HREL
          go_wp2_with fail
          obtain ⟨o, ho⟩ : ∃ o, relS ts len (pkOf ⟨op, tx, wa, (wl k).length, wc, zs, pa', pb'⟩ (wl k)) (cl k) = o := ⟨_, rfl⟩
          have HC := H
          rw [ho] at HC
          have HEQ := Lib.hid ho
          clear ho H
          cases o with
          | none =>
            have HC2 : Hid (Calls Tryz.prog 8 #[.slice ta len cap, u1, .agg #[.int .i64 op, .string tx, .slice wa (wl k).length wc, .int .i64 pa', .int .i64 pb']] wp (RelNot wp)) := HC
            refine HC2.out.mono ?_
            rintro e w3 ⟨v3, rfl, hb3⟩
            have HBW3 := Lib.hid (HBW.out.trans (hb3.out.mono HBW.out.size))
            clear hb3 HC HC2
            go_wp2
            go_ret3
            exact ⟨_, _, false, rfl, HBW3, Lib.hid (fun h => by cases h)⟩
          | some M =>
            have HC2 : Hid (Calls Tryz.prog 8 #[.slice ta len cap, u1, .agg #[.int .i64 op, .string tx, .slice wa (wl k).length wc, .int .i64 pa', .int .i64 pb']] wp (RelYes M u1 wp)) := HC
            refine HC2.out.mono ?_
            rintro e w3 ⟨v3, rfl, hon3, hown3, hb3⟩
            have HBW3 := Lib.hid (HBW.out.trans (hb3.out.mono HBW.out.size))
            have HB3 := Lib.hid (HB0.out.1.trans (hb3.out.mono HB0.out.1.size))
            have r0 := cell_below hb3.out q0
            obtain ⟨na, nc, hv3, _⟩ := hon3.out.1.nil
            rw [List.length_map] at hv3
            subst hv3
            have HON : Hid (IntsOn w3 (.slice na M.length nc) M ∧ ∀ j, (Value.slice na M.length nc).ownBlock = some j → u1.ownBlock = some j ∨ (wr.heap.size ≤ j ∧ j < w3.heap.size)) := Lib.hid ⟨hon3.out, fun j hj => by
              rcases hown3.out j hj with h | h
              · exact .inl h
              · have := HB0.out.1.size; exact .inr ⟨by omega, h.2⟩⟩
            have HAT := hat
            obtain ⟨sa, sc, hs, _⟩ := own_nil_value HAT.out.set
            obtain ⟨oa, oc, ho', _⟩ := own_nil_value HAT.out.ord
            clear hb3 hon3 hown3 HC HC2 q0 q1 q2 q3 q4 x0 x1 x2 x3 x4 hat
            subst hs ho'
            have hs5 : W.heap.size ≤ w3.heap.size := HBW3.out.size
            have hset3 : w3.ownsRow W.heap.size 23 1 (Value.slice sa k sc) k vs := ownsRow_kept HAT.out.set (fun q hq => HB3.out.block q (World.ownsRow.lt HAT.out.set q hq).2)
            have hord3 : w3.ownsRow W.heap.size 4 1 (Value.slice oa k oc) k (rowsK ck k) := ownsRow_kept HAT.out.ord (fun q hq => HB3.out.block q (World.ownsRow.lt HAT.out.ord q hq).2)
            have hnews : ∀ j u, [Value.slice na M.length nc][j]? = some u → (w3.alloc (.cells #[.slice na M.length nc] 23)).cell? ((⟨w3.heap.size, 0, none⟩ : Addr).add j) = some u := by
              intro j u hj
              match j, hj with
              | 0, hj => simp at hj; subst hj; simp [Addr.add]
            have HNS := Lib.hid (And.intro hnews (And.intro (hset3.alloc (.cells #[.slice na M.length nc] 23)) hord3))
            clear hnews hset3 hord3
            go_wp2_with (at_builtin; refine wpList_append_lies _ rfl _ _ 36 rfl W.heap.size 23 i0 (.slice none 0 0) 1 24 Tryz.underlying36 hi hz0 hz1 hz2 rfl (by decide) _ _ _ rfl HNS.out.2.1 ⟨w3.heap.size, 0, none⟩ 1 1 [.slice na M.length nc] rfl rfl HNS.out.1 (by intro u hu; simp at hu; subst hu; rfl) (by omega) (by unfold maxLen; omega) (by omega) (by simp; omega) _ rfl ?_)
            intro g1' c1' w4 hown4 hgrow4 hat4 hlt4
            have hat4' : (Value.slice sa k sc).ownBlock = some g1' ∨ w3.heap.size ≤ g1' := by
              rcases hat4 with h | h
              · exact .inl h
              · right; omega
            have hord4 : w4.ownsRow W.heap.size 4 1 (Value.slice oa k oc) k (rowsK ck k) := ownsRow_kept HNS.out.2.2 (fun q hq => (grown_keep hgrow4).block q (World.ownsRow.lt HNS.out.2.2 q hq).2 (fun e => HAT.out.so q e hq))
            have hs6 : W.heap.size ≤ w4.heap.size := Nat.le_trans hs5 (grown_keep hgrow4).size
            have hnews : ∀ j u, [Value.bool true][j]? = some u → (w4.alloc (.cells #[.bool true] 4)).cell? ((⟨w4.heap.size, 0, none⟩ : Addr).add j) = some u := by
              intro j u hj
              match j, hj with
              | 0, hj => simp at hj; subst hj; simp [Addr.add]
            have HNO := Lib.hid (And.intro hnews (hord4.alloc (.cells #[.bool true] 4)))
            have H4 := Lib.hid (And.intro hown4 (And.intro hgrow4 hat4'))
            clear hnews hord4 hown4 hgrow4 hat4 hat4' hlt4
            go_wp2_with (at_builtin; refine wpList_append_lies _ rfl _ _ 37 rfl W.heap.size 4 j0 (.bool false) 1 1 Tryz.underlying37 hj hy0 hy1 hy2 rfl (by decide) _ _ _ rfl HNO.out.2 ⟨w4.heap.size, 0, none⟩ 1 1 [.bool true] rfl rfl HNO.out.1 (by intro u hu; simp at hu; subst hu; rfl) (by omega) (by unfold maxLen; omega) (by omega) (by simp; omega) _ rfl ?_)
            intro g2' c2' w5 hown5 hgrow5 hat5 hlt5
            have hat5' : (Value.slice oa k oc).ownBlock = some g2' ∨ w4.heap.size ≤ g2' := by
              rcases hat5 with h | h
              · exact .inl h
              · right; omega
            have hstep : StepS ts len (pkOf (ps.getD k default) (wl k)) (cl k) (ck k) M true := by
              rw [HD.out, HB0.out.2]
              exact ⟨fun _ => rfl, by intro h; have h : op = 40 := h; have := HPART.out; omega, HEQ.out, by unfold nextK; simp [pkOf, PickP.part, HPART.out]⟩
            have hfin := Lib.hid (WkAt.step HAT.out HB3.out HON.out.1 HON.out.2 hstep H4.out.1 H4.out.2.1 H4.out.2.2 hown5 hgrow5 hat5')
            clear hown5 hgrow5 hat5 hat5' hlt5 hstep
            go_wp2
            go_roundw
            case rel => exact ⟨k + 1, _, _, _, by go_num, by omega, by simp, hfin⟩
            case measure => simp [intOf]; omega
      · by_cases h40 : op = 40
        · subst h40
          clear hpart HREL
          cases κ
          · go_wp2
            go_ret3
            exact ⟨_, _, false, rfl, HBW, Lib.hid (fun h => by cases h)⟩
          · go_wp2
            go_ret3
            exact ⟨_, _, false, rfl, HBW, Lib.hid (fun h => by cases h)⟩
        · have g40 : (op == 40) = false := by simp [h40]
          have H := Lib.hid (HREL.out h40)
          have HPART := Lib.hid (And.intro hpart h40)
          clear HREL
          by_cases g1p : (32 : Int) ≤ op
          · have g1 : decide ((32 : Int) ≤ op) = true := by simp [g1p]
            have g2 : decide (op ≤ 36) = false := by simp; omega
            clear hpart h40 g1p
            go_wp2_with fail
            obtain ⟨o, ho⟩ : ∃ o, relS ts len (pkOf ⟨op, tx, wa, (wl k).length, wc, zs, pa', pb'⟩ (wl k)) (cl k) = o := ⟨_, rfl⟩
            have HC := H
            rw [ho] at HC
            have HEQ := Lib.hid ho
            clear ho H
            cases o with
            | none =>
              have HC2 : Hid (Calls Tryz.prog 8 #[.slice ta len cap, u1, .agg #[.int .i64 op, .string tx, .slice wa (wl k).length wc, .int .i64 pa', .int .i64 pb']] wp (RelNot wp)) := HC
              refine HC2.out.mono ?_
              rintro e w3 ⟨v3, rfl, hb3⟩
              have HBW3 := Lib.hid (HBW.out.trans (hb3.out.mono HBW.out.size))
              clear hb3 HC HC2
              go_wp2
              go_ret3
              exact ⟨_, _, false, rfl, HBW3, Lib.hid (fun h => by cases h)⟩
            | some M =>
              have HC2 : Hid (Calls Tryz.prog 8 #[.slice ta len cap, u1, .agg #[.int .i64 op, .string tx, .slice wa (wl k).length wc, .int .i64 pa', .int .i64 pb']] wp (RelYes M u1 wp)) := HC
              refine HC2.out.mono ?_
              rintro e w3 ⟨v3, rfl, hon3, hown3, hb3⟩
              have HBW3 := Lib.hid (HBW.out.trans (hb3.out.mono HBW.out.size))
              have HB3 := Lib.hid (HB0.out.1.trans (hb3.out.mono HB0.out.1.size))
              have r0 := cell_below hb3.out q0
              obtain ⟨na, nc, hv3, _⟩ := hon3.out.1.nil
              rw [List.length_map] at hv3
              subst hv3
              have HON : Hid (IntsOn w3 (.slice na M.length nc) M ∧ ∀ j, (Value.slice na M.length nc).ownBlock = some j → u1.ownBlock = some j ∨ (wr.heap.size ≤ j ∧ j < w3.heap.size)) := Lib.hid ⟨hon3.out, fun j hj => by
                rcases hown3.out j hj with h | h
                · exact .inl h
                · have := HB0.out.1.size; exact .inr ⟨by omega, h.2⟩⟩
              have HAT := hat
              obtain ⟨sa, sc, hs, _⟩ := own_nil_value HAT.out.set
              obtain ⟨oa, oc, ho', _⟩ := own_nil_value HAT.out.ord
              clear hb3 hon3 hown3 HC HC2 q0 q1 q2 q3 q4 x0 x1 x2 x3 x4 hat
              subst hs ho'
              by_cases hM : M.length < 2
              · have g5 : decide ((M.length : Int) < 2) = true := by simp; omega
                have HM := Lib.hid hM
                clear hM
                have hs5 : W.heap.size ≤ w3.heap.size := HBW3.out.size
                have hset3 : w3.ownsRow W.heap.size 23 1 (Value.slice sa k sc) k vs := ownsRow_kept HAT.out.set (fun q hq => HB3.out.block q (World.ownsRow.lt HAT.out.set q hq).2)
                have hord3 : w3.ownsRow W.heap.size 4 1 (Value.slice oa k oc) k (rowsK ck k) := ownsRow_kept HAT.out.ord (fun q hq => HB3.out.block q (World.ownsRow.lt HAT.out.ord q hq).2)
                have hnews : ∀ j u, [Value.slice na M.length nc][j]? = some u → (w3.alloc (.cells #[.slice na M.length nc] 23)).cell? ((⟨w3.heap.size, 0, none⟩ : Addr).add j) = some u := by
                  intro j u hj
                  match j, hj with
                  | 0, hj => simp at hj; subst hj; simp [Addr.add]
                have HNS := Lib.hid (And.intro hnews (And.intro (hset3.alloc (.cells #[.slice na M.length nc] 23)) hord3))
                clear hnews hset3 hord3
                go_wp2_with (at_builtin; refine wpList_append_lies _ rfl _ _ 36 rfl W.heap.size 23 i0 (.slice none 0 0) 1 24 Tryz.underlying36 hi hz0 hz1 hz2 rfl (by decide) _ _ _ rfl HNS.out.2.1 ⟨w3.heap.size, 0, none⟩ 1 1 [.slice na M.length nc] rfl rfl HNS.out.1 (by intro u hu; simp at hu; subst hu; rfl) (by omega) (by unfold maxLen; omega) (by omega) (by simp; omega) _ rfl ?_)
                intro g1' c1' w4 hown4 hgrow4 hat4 hlt4
                have hat4' : (Value.slice sa k sc).ownBlock = some g1' ∨ w3.heap.size ≤ g1' := by
                  rcases hat4 with h | h
                  · exact .inl h
                  · right; omega
                have hord4 : w4.ownsRow W.heap.size 4 1 (Value.slice oa k oc) k (rowsK ck k) := ownsRow_kept HNS.out.2.2 (fun q hq => (grown_keep hgrow4).block q (World.ownsRow.lt HNS.out.2.2 q hq).2 (fun e => HAT.out.so q e hq))
                have hs6 : W.heap.size ≤ w4.heap.size := Nat.le_trans hs5 (grown_keep hgrow4).size
                have hnews : ∀ j u, [Value.bool true][j]? = some u → (w4.alloc (.cells #[.bool true] 4)).cell? ((⟨w4.heap.size, 0, none⟩ : Addr).add j) = some u := by
                  intro j u hj
                  match j, hj with
                  | 0, hj => simp at hj; subst hj; simp [Addr.add]
                have HNO := Lib.hid (And.intro hnews (hord4.alloc (.cells #[.bool true] 4)))
                have H4 := Lib.hid (And.intro hown4 (And.intro hgrow4 hat4'))
                clear hnews hord4 hown4 hgrow4 hat4 hat4' hlt4
                go_wp2_with (at_builtin; refine wpList_append_lies _ rfl _ _ 37 rfl W.heap.size 4 j0 (.bool false) 1 1 Tryz.underlying37 hj hy0 hy1 hy2 rfl (by decide) _ _ _ rfl HNO.out.2 ⟨w4.heap.size, 0, none⟩ 1 1 [.bool true] rfl rfl HNO.out.1 (by intro u hu; simp at hu; subst hu; rfl) (by omega) (by unfold maxLen; omega) (by omega) (by simp; omega) _ rfl ?_)
                intro g2' c2' w5 hown5 hgrow5 hat5 hlt5
                have hat5' : (Value.slice oa k oc).ownBlock = some g2' ∨ w4.heap.size ≤ g2' := by
                  rcases hat5 with h | h
                  · exact .inl h
                  · right; omega
                have hstep : StepS ts len (pkOf (ps.getD k default) (wl k)) (cl k) (ck k) M true := by
                  rw [HD.out, HB0.out.2]
                  exact ⟨fun h => absurd ((part_false (pkOf (⟨op, tx, wa, (wl k).length, wc, zs, pa', pb'⟩ : PickD) (wl k)) HPART.out.1).symm.trans h) (by decide), HPART.out.2, HEQ.out, by unfold nextK; simp [HM.out]⟩
                have hfin := Lib.hid (WkAt.step HAT.out HB3.out HON.out.1 HON.out.2 hstep H4.out.1 H4.out.2.1 H4.out.2.2 hown5 hgrow5 hat5')
                clear hown5 hgrow5 hat5 hat5' hlt5 hstep
                go_wp2
                go_roundw
                case rel => exact ⟨k + 1, _, _, _, by go_num, by omega, by simp, hfin⟩
                case measure => simp [intOf]; omega
              · have g5 : decide ((M.length : Int) < 2) = false := by simp; omega
                have HM := Lib.hid hM
                clear hM
                cases κ
                · skip
                  have hs5 : W.heap.size ≤ w3.heap.size := HBW3.out.size
                  have hset3 : w3.ownsRow W.heap.size 23 1 (Value.slice sa k sc) k vs := ownsRow_kept HAT.out.set (fun q hq => HB3.out.block q (World.ownsRow.lt HAT.out.set q hq).2)
                  have hord3 : w3.ownsRow W.heap.size 4 1 (Value.slice oa k oc) k (rowsK ck k) := ownsRow_kept HAT.out.ord (fun q hq => HB3.out.block q (World.ownsRow.lt HAT.out.ord q hq).2)
                  have hnews : ∀ j u, [Value.slice na M.length nc][j]? = some u → (w3.alloc (.cells #[.slice na M.length nc] 23)).cell? ((⟨w3.heap.size, 0, none⟩ : Addr).add j) = some u := by
                    intro j u hj
                    match j, hj with
                    | 0, hj => simp at hj; subst hj; simp [Addr.add]
                  have HNS := Lib.hid (And.intro hnews (And.intro (hset3.alloc (.cells #[.slice na M.length nc] 23)) hord3))
                  clear hnews hset3 hord3
                  go_wp2_with (at_builtin; refine wpList_append_lies _ rfl _ _ 36 rfl W.heap.size 23 i0 (.slice none 0 0) 1 24 Tryz.underlying36 hi hz0 hz1 hz2 rfl (by decide) _ _ _ rfl HNS.out.2.1 ⟨w3.heap.size, 0, none⟩ 1 1 [.slice na M.length nc] rfl rfl HNS.out.1 (by intro u hu; simp at hu; subst hu; rfl) (by omega) (by unfold maxLen; omega) (by omega) (by simp; omega) _ rfl ?_)
                  intro g1' c1' w4 hown4 hgrow4 hat4 hlt4
                  have hat4' : (Value.slice sa k sc).ownBlock = some g1' ∨ w3.heap.size ≤ g1' := by
                    rcases hat4 with h | h
                    · exact .inl h
                    · right; omega
                  have hord4 : w4.ownsRow W.heap.size 4 1 (Value.slice oa k oc) k (rowsK ck k) := ownsRow_kept HNS.out.2.2 (fun q hq => (grown_keep hgrow4).block q (World.ownsRow.lt HNS.out.2.2 q hq).2 (fun e => HAT.out.so q e hq))
                  have hs6 : W.heap.size ≤ w4.heap.size := Nat.le_trans hs5 (grown_keep hgrow4).size
                  have hnews : ∀ j u, [Value.bool false][j]? = some u → (w4.alloc (.cells #[.bool false] 4)).cell? ((⟨w4.heap.size, 0, none⟩ : Addr).add j) = some u := by
                    intro j u hj
                    match j, hj with
                    | 0, hj => simp at hj; subst hj; simp [Addr.add]
                  have HNO := Lib.hid (And.intro hnews (hord4.alloc (.cells #[.bool false] 4)))
                  have H4 := Lib.hid (And.intro hown4 (And.intro hgrow4 hat4'))
                  clear hnews hord4 hown4 hgrow4 hat4 hat4' hlt4
                  go_wp2_with (at_builtin; refine wpList_append_lies _ rfl _ _ 37 rfl W.heap.size 4 j0 (.bool false) 1 1 Tryz.underlying37 hj hy0 hy1 hy2 rfl (by decide) _ _ _ rfl HNO.out.2 ⟨w4.heap.size, 0, none⟩ 1 1 [.bool false] rfl rfl HNO.out.1 (by intro u hu; simp at hu; subst hu; rfl) (by omega) (by unfold maxLen; omega) (by omega) (by simp; omega) _ rfl ?_)
                  intro g2' c2' w5 hown5 hgrow5 hat5 hlt5
                  have hat5' : (Value.slice oa k oc).ownBlock = some g2' ∨ w4.heap.size ≤ g2' := by
                    rcases hat5 with h | h
                    · exact .inl h
                    · right; omega
                  have hstep : StepS ts len (pkOf (ps.getD k default) (wl k)) (cl k) (ck k) M false := by
                    rw [HD.out, HB0.out.2]
                    exact ⟨fun h => absurd ((part_false (pkOf (⟨op, tx, wa, (wl k).length, wc, zs, pa', pb'⟩ : PickD) (wl k)) HPART.out.1).symm.trans h) (by decide), HPART.out.2, HEQ.out, by unfold nextK; have hpf : (pkOf (⟨op, tx, wa, (wl k).length, wc, zs, pa', pb'⟩ : PickD) (wl k)).part = false := part_false _ HPART.out.1; simp [HM.out, hpf]⟩
                  have hfin := Lib.hid (WkAt.step HAT.out HB3.out HON.out.1 HON.out.2 hstep H4.out.1 H4.out.2.1 H4.out.2.2 hown5 hgrow5 hat5')
                  clear hown5 hgrow5 hat5 hat5' hlt5 hstep
                  go_wp2
                  go_roundw
                  case rel => exact ⟨k + 1, _, _, _, by go_num, by omega, by simp, hfin⟩
                  case measure => simp [intOf]; omega
                · by_cases h39 : op = 39
                  · have g39 : (op == 39) = true := by simp [h39]
                    have H39 := Lib.hid h39
                    clear h39
                    have hs5 : W.heap.size ≤ w3.heap.size := HBW3.out.size
                    have hset3 : w3.ownsRow W.heap.size 23 1 (Value.slice sa k sc) k vs := ownsRow_kept HAT.out.set (fun q hq => HB3.out.block q (World.ownsRow.lt HAT.out.set q hq).2)
                    have hord3 : w3.ownsRow W.heap.size 4 1 (Value.slice oa k oc) k (rowsK ck k) := ownsRow_kept HAT.out.ord (fun q hq => HB3.out.block q (World.ownsRow.lt HAT.out.ord q hq).2)
                    have hnews : ∀ j u, [Value.slice na M.length nc][j]? = some u → (w3.alloc (.cells #[.slice na M.length nc] 23)).cell? ((⟨w3.heap.size, 0, none⟩ : Addr).add j) = some u := by
                      intro j u hj
                      match j, hj with
                      | 0, hj => simp at hj; subst hj; simp [Addr.add]
                    have HNS := Lib.hid (And.intro hnews (And.intro (hset3.alloc (.cells #[.slice na M.length nc] 23)) hord3))
                    clear hnews hset3 hord3
                    go_wp2_with (at_builtin; refine wpList_append_lies _ rfl _ _ 36 rfl W.heap.size 23 i0 (.slice none 0 0) 1 24 Tryz.underlying36 hi hz0 hz1 hz2 rfl (by decide) _ _ _ rfl HNS.out.2.1 ⟨w3.heap.size, 0, none⟩ 1 1 [.slice na M.length nc] rfl rfl HNS.out.1 (by intro u hu; simp at hu; subst hu; rfl) (by omega) (by unfold maxLen; omega) (by omega) (by simp; omega) _ rfl ?_)
                    intro g1' c1' w4 hown4 hgrow4 hat4 hlt4
                    have hat4' : (Value.slice sa k sc).ownBlock = some g1' ∨ w3.heap.size ≤ g1' := by
                      rcases hat4 with h | h
                      · exact .inl h
                      · right; omega
                    have hord4 : w4.ownsRow W.heap.size 4 1 (Value.slice oa k oc) k (rowsK ck k) := ownsRow_kept HNS.out.2.2 (fun q hq => (grown_keep hgrow4).block q (World.ownsRow.lt HNS.out.2.2 q hq).2 (fun e => HAT.out.so q e hq))
                    have hs6 : W.heap.size ≤ w4.heap.size := Nat.le_trans hs5 (grown_keep hgrow4).size
                    have hnews : ∀ j u, [Value.bool true][j]? = some u → (w4.alloc (.cells #[.bool true] 4)).cell? ((⟨w4.heap.size, 0, none⟩ : Addr).add j) = some u := by
                      intro j u hj
                      match j, hj with
                      | 0, hj => simp at hj; subst hj; simp [Addr.add]
                    have HNO := Lib.hid (And.intro hnews (hord4.alloc (.cells #[.bool true] 4)))
                    have H4 := Lib.hid (And.intro hown4 (And.intro hgrow4 hat4'))
                    clear hnews hord4 hown4 hgrow4 hat4 hat4' hlt4
                    go_wp2_with (at_builtin; refine wpList_append_lies _ rfl _ _ 37 rfl W.heap.size 4 j0 (.bool false) 1 1 Tryz.underlying37 hj hy0 hy1 hy2 rfl (by decide) _ _ _ rfl HNO.out.2 ⟨w4.heap.size, 0, none⟩ 1 1 [.bool true] rfl rfl HNO.out.1 (by intro u hu; simp at hu; subst hu; rfl) (by omega) (by unfold maxLen; omega) (by omega) (by simp; omega) _ rfl ?_)
                    intro g2' c2' w5 hown5 hgrow5 hat5 hlt5
                    have hat5' : (Value.slice oa k oc).ownBlock = some g2' ∨ w4.heap.size ≤ g2' := by
                      rcases hat5 with h | h
                      · exact .inl h
                      · right; omega
                    have hstep : StepS ts len (pkOf (ps.getD k default) (wl k)) (cl k) (ck k) M true := by
                      rw [HD.out, HB0.out.2]
                      exact ⟨fun h => absurd ((part_false (pkOf (⟨op, tx, wa, (wl k).length, wc, zs, pa', pb'⟩ : PickD) (wl k)) HPART.out.1).symm.trans h) (by decide), HPART.out.2, HEQ.out, by unfold nextK; have h9 : (pkOf (⟨op, tx, wa, (wl k).length, wc, zs, pa', pb'⟩ : PickD) (wl k)).op = 39 := H39.out; simp [h9]⟩
                    have hfin := Lib.hid (WkAt.step HAT.out HB3.out HON.out.1 HON.out.2 hstep H4.out.1 H4.out.2.1 H4.out.2.2 hown5 hgrow5 hat5')
                    clear hown5 hgrow5 hat5 hat5' hlt5 hstep
                    go_wp2
                    go_roundw
                    case rel => exact ⟨k + 1, _, _, _, by go_num, by omega, by simp, hfin⟩
                    case measure => simp [intOf]; omega
                  · have g39 : (op == 39) = false := by simp [h39]
                    have H39 := Lib.hid h39
                    clear h39
                    have hs5 : W.heap.size ≤ w3.heap.size := HBW3.out.size
                    have hset3 : w3.ownsRow W.heap.size 23 1 (Value.slice sa k sc) k vs := ownsRow_kept HAT.out.set (fun q hq => HB3.out.block q (World.ownsRow.lt HAT.out.set q hq).2)
                    have hord3 : w3.ownsRow W.heap.size 4 1 (Value.slice oa k oc) k (rowsK ck k) := ownsRow_kept HAT.out.ord (fun q hq => HB3.out.block q (World.ownsRow.lt HAT.out.ord q hq).2)
                    have hnews : ∀ j u, [Value.slice na M.length nc][j]? = some u → (w3.alloc (.cells #[.slice na M.length nc] 23)).cell? ((⟨w3.heap.size, 0, none⟩ : Addr).add j) = some u := by
                      intro j u hj
                      match j, hj with
                      | 0, hj => simp at hj; subst hj; simp [Addr.add]
                    have HNS := Lib.hid (And.intro hnews (And.intro (hset3.alloc (.cells #[.slice na M.length nc] 23)) hord3))
                    clear hnews hset3 hord3
                    go_wp2_with (at_builtin; refine wpList_append_lies _ rfl _ _ 36 rfl W.heap.size 23 i0 (.slice none 0 0) 1 24 Tryz.underlying36 hi hz0 hz1 hz2 rfl (by decide) _ _ _ rfl HNS.out.2.1 ⟨w3.heap.size, 0, none⟩ 1 1 [.slice na M.length nc] rfl rfl HNS.out.1 (by intro u hu; simp at hu; subst hu; rfl) (by omega) (by unfold maxLen; omega) (by omega) (by simp; omega) _ rfl ?_)
                    intro g1' c1' w4 hown4 hgrow4 hat4 hlt4
                    have hat4' : (Value.slice sa k sc).ownBlock = some g1' ∨ w3.heap.size ≤ g1' := by
                      rcases hat4 with h | h
                      · exact .inl h
                      · right; omega
                    have hord4 : w4.ownsRow W.heap.size 4 1 (Value.slice oa k oc) k (rowsK ck k) := ownsRow_kept HNS.out.2.2 (fun q hq => (grown_keep hgrow4).block q (World.ownsRow.lt HNS.out.2.2 q hq).2 (fun e => HAT.out.so q e hq))
                    have hs6 : W.heap.size ≤ w4.heap.size := Nat.le_trans hs5 (grown_keep hgrow4).size
                    have hnews : ∀ j u, [Value.bool false][j]? = some u → (w4.alloc (.cells #[.bool false] 4)).cell? ((⟨w4.heap.size, 0, none⟩ : Addr).add j) = some u := by
                      intro j u hj
                      match j, hj with
                      | 0, hj => simp at hj; subst hj; simp [Addr.add]
                    have HNO := Lib.hid (And.intro hnews (hord4.alloc (.cells #[.bool false] 4)))
                    have H4 := Lib.hid (And.intro hown4 (And.intro hgrow4 hat4'))
                    clear hnews hord4 hown4 hgrow4 hat4 hat4' hlt4
                    go_wp2_with (at_builtin; refine wpList_append_lies _ rfl _ _ 37 rfl W.heap.size 4 j0 (.bool false) 1 1 Tryz.underlying37 hj hy0 hy1 hy2 rfl (by decide) _ _ _ rfl HNO.out.2 ⟨w4.heap.size, 0, none⟩ 1 1 [.bool false] rfl rfl HNO.out.1 (by intro u hu; simp at hu; subst hu; rfl) (by omega) (by unfold maxLen; omega) (by omega) (by simp; omega) _ rfl ?_)
                    intro g2' c2' w5 hown5 hgrow5 hat5 hlt5
                    have hat5' : (Value.slice oa k oc).ownBlock = some g2' ∨ w4.heap.size ≤ g2' := by
                      rcases hat5 with h | h
                      · exact .inl h
                      · right; omega
                    have hstep : StepS ts len (pkOf (ps.getD k default) (wl k)) (cl k) (ck k) M false := by
                      rw [HD.out, HB0.out.2]
                      exact ⟨fun h => absurd ((part_false (pkOf (⟨op, tx, wa, (wl k).length, wc, zs, pa', pb'⟩ : PickD) (wl k)) HPART.out.1).symm.trans h) (by decide), HPART.out.2, HEQ.out, by unfold nextK; have hpf : (pkOf (⟨op, tx, wa, (wl k).length, wc, zs, pa', pb'⟩ : PickD) (wl k)).part = false := part_false _ HPART.out.1; have h9 : (pkOf (⟨op, tx, wa, (wl k).length, wc, zs, pa', pb'⟩ : PickD) (wl k)).op ≠ 39 := H39.out; simp [h9, hpf, HM.out]⟩
                    have hfin := Lib.hid (WkAt.step HAT.out HB3.out HON.out.1 HON.out.2 hstep H4.out.1 H4.out.2.1 H4.out.2.2 hown5 hgrow5 hat5')
                    clear hown5 hgrow5 hat5 hat5' hlt5 hstep
                    go_wp2
                    go_roundw
                    case rel => exact ⟨k + 1, _, _, _, by go_num, by omega, by simp, hfin⟩
                    case measure => simp [intOf]; omega
          · have g1 : decide ((32 : Int) ≤ op) = false := by simp [g1p]
            clear hpart h40 g1p
            go_wp2_with fail
            obtain ⟨o, ho⟩ : ∃ o, relS ts len (pkOf ⟨op, tx, wa, (wl k).length, wc, zs, pa', pb'⟩ (wl k)) (cl k) = o := ⟨_, rfl⟩
            have HC := H
            rw [ho] at HC
            have HEQ := Lib.hid ho
            clear ho H
            cases o with
            | none =>
              have HC2 : Hid (Calls Tryz.prog 8 #[.slice ta len cap, u1, .agg #[.int .i64 op, .string tx, .slice wa (wl k).length wc, .int .i64 pa', .int .i64 pb']] wp (RelNot wp)) := HC
              refine HC2.out.mono ?_
              rintro e w3 ⟨v3, rfl, hb3⟩
              have HBW3 := Lib.hid (HBW.out.trans (hb3.out.mono HBW.out.size))
              clear hb3 HC HC2
              go_wp2
              go_ret3
              exact ⟨_, _, false, rfl, HBW3, Lib.hid (fun h => by cases h)⟩
            | some M =>
              have HC2 : Hid (Calls Tryz.prog 8 #[.slice ta len cap, u1, .agg #[.int .i64 op, .string tx, .slice wa (wl k).length wc, .int .i64 pa', .int .i64 pb']] wp (RelYes M u1 wp)) := HC
              refine HC2.out.mono ?_
              rintro e w3 ⟨v3, rfl, hon3, hown3, hb3⟩
              have HBW3 := Lib.hid (HBW.out.trans (hb3.out.mono HBW.out.size))
              have HB3 := Lib.hid (HB0.out.1.trans (hb3.out.mono HB0.out.1.size))
              have r0 := cell_below hb3.out q0
              obtain ⟨na, nc, hv3, _⟩ := hon3.out.1.nil
              rw [List.length_map] at hv3
              subst hv3
              have HON : Hid (IntsOn w3 (.slice na M.length nc) M ∧ ∀ j, (Value.slice na M.length nc).ownBlock = some j → u1.ownBlock = some j ∨ (wr.heap.size ≤ j ∧ j < w3.heap.size)) := Lib.hid ⟨hon3.out, fun j hj => by
                rcases hown3.out j hj with h | h
                · exact .inl h
                · have := HB0.out.1.size; exact .inr ⟨by omega, h.2⟩⟩
              have HAT := hat
              obtain ⟨sa, sc, hs, _⟩ := own_nil_value HAT.out.set
              obtain ⟨oa, oc, ho', _⟩ := own_nil_value HAT.out.ord
              clear hb3 hon3 hown3 HC HC2 q0 q1 q2 q3 q4 x0 x1 x2 x3 x4 hat
              subst hs ho'
              by_cases hM : M.length < 2
              · have g5 : decide ((M.length : Int) < 2) = true := by simp; omega
                have HM := Lib.hid hM
                clear hM
                have hs5 : W.heap.size ≤ w3.heap.size := HBW3.out.size
                have hset3 : w3.ownsRow W.heap.size 23 1 (Value.slice sa k sc) k vs := ownsRow_kept HAT.out.set (fun q hq => HB3.out.block q (World.ownsRow.lt HAT.out.set q hq).2)
                have hord3 : w3.ownsRow W.heap.size 4 1 (Value.slice oa k oc) k (rowsK ck k) := ownsRow_kept HAT.out.ord (fun q hq => HB3.out.block q (World.ownsRow.lt HAT.out.ord q hq).2)
                have hnews : ∀ j u, [Value.slice na M.length nc][j]? = some u → (w3.alloc (.cells #[.slice na M.length nc] 23)).cell? ((⟨w3.heap.size, 0, none⟩ : Addr).add j) = some u := by
                  intro j u hj
                  match j, hj with
                  | 0, hj => simp at hj; subst hj; simp [Addr.add]
                have HNS := Lib.hid (And.intro hnews (And.intro (hset3.alloc (.cells #[.slice na M.length nc] 23)) hord3))
                clear hnews hset3 hord3
                go_wp2_with (at_builtin; refine wpList_append_lies _ rfl _ _ 36 rfl W.heap.size 23 i0 (.slice none 0 0) 1 24 Tryz.underlying36 hi hz0 hz1 hz2 rfl (by decide) _ _ _ rfl HNS.out.2.1 ⟨w3.heap.size, 0, none⟩ 1 1 [.slice na M.length nc] rfl rfl HNS.out.1 (by intro u hu; simp at hu; subst hu; rfl) (by omega) (by unfold maxLen; omega) (by omega) (by simp; omega) _ rfl ?_)
                intro g1' c1' w4 hown4 hgrow4 hat4 hlt4
                have hat4' : (Value.slice sa k sc).ownBlock = some g1' ∨ w3.heap.size ≤ g1' := by
                  rcases hat4 with h | h
                  · exact .inl h
                  · right; omega
                have hord4 : w4.ownsRow W.heap.size 4 1 (Value.slice oa k oc) k (rowsK ck k) := ownsRow_kept HNS.out.2.2 (fun q hq => (grown_keep hgrow4).block q (World.ownsRow.lt HNS.out.2.2 q hq).2 (fun e => HAT.out.so q e hq))
                have hs6 : W.heap.size ≤ w4.heap.size := Nat.le_trans hs5 (grown_keep hgrow4).size
                have hnews : ∀ j u, [Value.bool true][j]? = some u → (w4.alloc (.cells #[.bool true] 4)).cell? ((⟨w4.heap.size, 0, none⟩ : Addr).add j) = some u := by
                  intro j u hj
                  match j, hj with
                  | 0, hj => simp at hj; subst hj; simp [Addr.add]
                have HNO := Lib.hid (And.intro hnews (hord4.alloc (.cells #[.bool true] 4)))
                have H4 := Lib.hid (And.intro hown4 (And.intro hgrow4 hat4'))
                clear hnews hord4 hown4 hgrow4 hat4 hat4' hlt4
                go_wp2_with (at_builtin; refine wpList_append_lies _ rfl _ _ 37 rfl W.heap.size 4 j0 (.bool false) 1 1 Tryz.underlying37 hj hy0 hy1 hy2 rfl (by decide) _ _ _ rfl HNO.out.2 ⟨w4.heap.size, 0, none⟩ 1 1 [.bool true] rfl rfl HNO.out.1 (by intro u hu; simp at hu; subst hu; rfl) (by omega) (by unfold maxLen; omega) (by omega) (by simp; omega) _ rfl ?_)
                intro g2' c2' w5 hown5 hgrow5 hat5 hlt5
                have hat5' : (Value.slice oa k oc).ownBlock = some g2' ∨ w4.heap.size ≤ g2' := by
                  rcases hat5 with h | h
                  · exact .inl h
                  · right; omega
                have hstep : StepS ts len (pkOf (ps.getD k default) (wl k)) (cl k) (ck k) M true := by
                  rw [HD.out, HB0.out.2]
                  exact ⟨fun h => absurd ((part_false (pkOf (⟨op, tx, wa, (wl k).length, wc, zs, pa', pb'⟩ : PickD) (wl k)) HPART.out.1).symm.trans h) (by decide), HPART.out.2, HEQ.out, by unfold nextK; simp [HM.out]⟩
                have hfin := Lib.hid (WkAt.step HAT.out HB3.out HON.out.1 HON.out.2 hstep H4.out.1 H4.out.2.1 H4.out.2.2 hown5 hgrow5 hat5')
                clear hown5 hgrow5 hat5 hat5' hlt5 hstep
                go_wp2
                go_roundw
                case rel => exact ⟨k + 1, _, _, _, by go_num, by omega, by simp, hfin⟩
                case measure => simp [intOf]; omega
              · have g5 : decide ((M.length : Int) < 2) = false := by simp; omega
                have HM := Lib.hid hM
                clear hM
                cases κ
                · skip
                  have hs5 : W.heap.size ≤ w3.heap.size := HBW3.out.size
                  have hset3 : w3.ownsRow W.heap.size 23 1 (Value.slice sa k sc) k vs := ownsRow_kept HAT.out.set (fun q hq => HB3.out.block q (World.ownsRow.lt HAT.out.set q hq).2)
                  have hord3 : w3.ownsRow W.heap.size 4 1 (Value.slice oa k oc) k (rowsK ck k) := ownsRow_kept HAT.out.ord (fun q hq => HB3.out.block q (World.ownsRow.lt HAT.out.ord q hq).2)
                  have hnews : ∀ j u, [Value.slice na M.length nc][j]? = some u → (w3.alloc (.cells #[.slice na M.length nc] 23)).cell? ((⟨w3.heap.size, 0, none⟩ : Addr).add j) = some u := by
                    intro j u hj
                    match j, hj with
                    | 0, hj => simp at hj; subst hj; simp [Addr.add]
                  have HNS := Lib.hid (And.intro hnews (And.intro (hset3.alloc (.cells #[.slice na M.length nc] 23)) hord3))
                  clear hnews hset3 hord3
                  go_wp2_with (at_builtin; refine wpList_append_lies _ rfl _ _ 36 rfl W.heap.size 23 i0 (.slice none 0 0) 1 24 Tryz.underlying36 hi hz0 hz1 hz2 rfl (by decide) _ _ _ rfl HNS.out.2.1 ⟨w3.heap.size, 0, none⟩ 1 1 [.slice na M.length nc] rfl rfl HNS.out.1 (by intro u hu; simp at hu; subst hu; rfl) (by omega) (by unfold maxLen; omega) (by omega) (by simp; omega) _ rfl ?_)
                  intro g1' c1' w4 hown4 hgrow4 hat4 hlt4
                  have hat4' : (Value.slice sa k sc).ownBlock = some g1' ∨ w3.heap.size ≤ g1' := by
                    rcases hat4 with h | h
                    · exact .inl h
                    · right; omega
                  have hord4 : w4.ownsRow W.heap.size 4 1 (Value.slice oa k oc) k (rowsK ck k) := ownsRow_kept HNS.out.2.2 (fun q hq => (grown_keep hgrow4).block q (World.ownsRow.lt HNS.out.2.2 q hq).2 (fun e => HAT.out.so q e hq))
                  have hs6 : W.heap.size ≤ w4.heap.size := Nat.le_trans hs5 (grown_keep hgrow4).size
                  have hnews : ∀ j u, [Value.bool false][j]? = some u → (w4.alloc (.cells #[.bool false] 4)).cell? ((⟨w4.heap.size, 0, none⟩ : Addr).add j) = some u := by
                    intro j u hj
                    match j, hj with
                    | 0, hj => simp at hj; subst hj; simp [Addr.add]
                  have HNO := Lib.hid (And.intro hnews (hord4.alloc (.cells #[.bool false] 4)))
                  have H4 := Lib.hid (And.intro hown4 (And.intro hgrow4 hat4'))
                  clear hnews hord4 hown4 hgrow4 hat4 hat4' hlt4
                  go_wp2_with (at_builtin; refine wpList_append_lies _ rfl _ _ 37 rfl W.heap.size 4 j0 (.bool false) 1 1 Tryz.underlying37 hj hy0 hy1 hy2 rfl (by decide) _ _ _ rfl HNO.out.2 ⟨w4.heap.size, 0, none⟩ 1 1 [.bool false] rfl rfl HNO.out.1 (by intro u hu; simp at hu; subst hu; rfl) (by omega) (by unfold maxLen; omega) (by omega) (by simp; omega) _ rfl ?_)
                  intro g2' c2' w5 hown5 hgrow5 hat5 hlt5
                  have hat5' : (Value.slice oa k oc).ownBlock = some g2' ∨ w4.heap.size ≤ g2' := by
                    rcases hat5 with h | h
                    · exact .inl h
                    · right; omega
                  have hstep : StepS ts len (pkOf (ps.getD k default) (wl k)) (cl k) (ck k) M false := by
                    rw [HD.out, HB0.out.2]
                    exact ⟨fun h => absurd ((part_false (pkOf (⟨op, tx, wa, (wl k).length, wc, zs, pa', pb'⟩ : PickD) (wl k)) HPART.out.1).symm.trans h) (by decide), HPART.out.2, HEQ.out, by unfold nextK; have hpf : (pkOf (⟨op, tx, wa, (wl k).length, wc, zs, pa', pb'⟩ : PickD) (wl k)).part = false := part_false _ HPART.out.1; simp [HM.out, hpf]⟩
                  have hfin := Lib.hid (WkAt.step HAT.out HB3.out HON.out.1 HON.out.2 hstep H4.out.1 H4.out.2.1 H4.out.2.2 hown5 hgrow5 hat5')
                  clear hown5 hgrow5 hat5 hat5' hlt5 hstep
                  go_wp2
                  go_roundw
                  case rel => exact ⟨k + 1, _, _, _, by go_num, by omega, by simp, hfin⟩
                  case measure => simp [intOf]; omega
                · by_cases h39 : op = 39
                  · have g39 : (op == 39) = true := by simp [h39]
                    have H39 := Lib.hid h39
                    clear h39
                    have hs5 : W.heap.size ≤ w3.heap.size := HBW3.out.size
                    have hset3 : w3.ownsRow W.heap.size 23 1 (Value.slice sa k sc) k vs := ownsRow_kept HAT.out.set (fun q hq => HB3.out.block q (World.ownsRow.lt HAT.out.set q hq).2)
                    have hord3 : w3.ownsRow W.heap.size 4 1 (Value.slice oa k oc) k (rowsK ck k) := ownsRow_kept HAT.out.ord (fun q hq => HB3.out.block q (World.ownsRow.lt HAT.out.ord q hq).2)
                    have hnews : ∀ j u, [Value.slice na M.length nc][j]? = some u → (w3.alloc (.cells #[.slice na M.length nc] 23)).cell? ((⟨w3.heap.size, 0, none⟩ : Addr).add j) = some u := by
                      intro j u hj
                      match j, hj with
                      | 0, hj => simp at hj; subst hj; simp [Addr.add]
                    have HNS := Lib.hid (And.intro hnews (And.intro (hset3.alloc (.cells #[.slice na M.length nc] 23)) hord3))
                    clear hnews hset3 hord3
                    go_wp2_with (at_builtin; refine wpList_append_lies _ rfl _ _ 36 rfl W.heap.size 23 i0 (.slice none 0 0) 1 24 Tryz.underlying36 hi hz0 hz1 hz2 rfl (by decide) _ _ _ rfl HNS.out.2.1 ⟨w3.heap.size, 0, none⟩ 1 1 [.slice na M.length nc] rfl rfl HNS.out.1 (by intro u hu; simp at hu; subst hu; rfl) (by omega) (by unfold maxLen; omega) (by omega) (by simp; omega) _ rfl ?_)
                    intro g1' c1' w4 hown4 hgrow4 hat4 hlt4
                    have hat4' : (Value.slice sa k sc).ownBlock = some g1' ∨ w3.heap.size ≤ g1' := by
                      rcases hat4 with h | h
                      · exact .inl h
                      · right; omega
                    have hord4 : w4.ownsRow W.heap.size 4 1 (Value.slice oa k oc) k (rowsK ck k) := ownsRow_kept HNS.out.2.2 (fun q hq => (grown_keep hgrow4).block q (World.ownsRow.lt HNS.out.2.2 q hq).2 (fun e => HAT.out.so q e hq))
                    have hs6 : W.heap.size ≤ w4.heap.size := Nat.le_trans hs5 (grown_keep hgrow4).size
                    have hnews : ∀ j u, [Value.bool true][j]? = some u → (w4.alloc (.cells #[.bool true] 4)).cell? ((⟨w4.heap.size, 0, none⟩ : Addr).add j) = some u := by
                      intro j u hj
                      match j, hj with
                      | 0, hj => simp at hj; subst hj; simp [Addr.add]
                    have HNO := Lib.hid (And.intro hnews (hord4.alloc (.cells #[.bool true] 4)))
                    have H4 := Lib.hid (And.intro hown4 (And.intro hgrow4 hat4'))
                    clear hnews hord4 hown4 hgrow4 hat4 hat4' hlt4
                    go_wp2_with (at_builtin; refine wpList_append_lies _ rfl _ _ 37 rfl W.heap.size 4 j0 (.bool false) 1 1 Tryz.underlying37 hj hy0 hy1 hy2 rfl (by decide) _ _ _ rfl HNO.out.2 ⟨w4.heap.size, 0, none⟩ 1 1 [.bool true] rfl rfl HNO.out.1 (by intro u hu; simp at hu; subst hu; rfl) (by omega) (by unfold maxLen; omega) (by omega) (by simp; omega) _ rfl ?_)
                    intro g2' c2' w5 hown5 hgrow5 hat5 hlt5
                    have hat5' : (Value.slice oa k oc).ownBlock = some g2' ∨ w4.heap.size ≤ g2' := by
                      rcases hat5 with h | h
                      · exact .inl h
                      · right; omega
                    have hstep : StepS ts len (pkOf (ps.getD k default) (wl k)) (cl k) (ck k) M true := by
                      rw [HD.out, HB0.out.2]
                      exact ⟨fun h => absurd ((part_false (pkOf (⟨op, tx, wa, (wl k).length, wc, zs, pa', pb'⟩ : PickD) (wl k)) HPART.out.1).symm.trans h) (by decide), HPART.out.2, HEQ.out, by unfold nextK; have h9 : (pkOf (⟨op, tx, wa, (wl k).length, wc, zs, pa', pb'⟩ : PickD) (wl k)).op = 39 := H39.out; simp [h9]⟩
                    have hfin := Lib.hid (WkAt.step HAT.out HB3.out HON.out.1 HON.out.2 hstep H4.out.1 H4.out.2.1 H4.out.2.2 hown5 hgrow5 hat5')
                    clear hown5 hgrow5 hat5 hat5' hlt5 hstep
                    go_wp2
                    go_roundw
                    case rel => exact ⟨k + 1, _, _, _, by go_num, by omega, by simp, hfin⟩
                    case measure => simp [intOf]; omega
                  · have g39 : (op == 39) = false := by simp [h39]
                    have H39 := Lib.hid h39
                    clear h39
                    have hs5 : W.heap.size ≤ w3.heap.size := HBW3.out.size
                    have hset3 : w3.ownsRow W.heap.size 23 1 (Value.slice sa k sc) k vs := ownsRow_kept HAT.out.set (fun q hq => HB3.out.block q (World.ownsRow.lt HAT.out.set q hq).2)
                    have hord3 : w3.ownsRow W.heap.size 4 1 (Value.slice oa k oc) k (rowsK ck k) := ownsRow_kept HAT.out.ord (fun q hq => HB3.out.block q (World.ownsRow.lt HAT.out.ord q hq).2)
                    have hnews : ∀ j u, [Value.slice na M.length nc][j]? = some u → (w3.alloc (.cells #[.slice na M.length nc] 23)).cell? ((⟨w3.heap.size, 0, none⟩ : Addr).add j) = some u := by
                      intro j u hj
                      match j, hj with
                      | 0, hj => simp at hj; subst hj; simp [Addr.add]
                    have HNS := Lib.hid (And.intro hnews (And.intro (hset3.alloc (.cells #[.slice na M.length nc] 23)) hord3))
                    clear hnews hset3 hord3
                    go_wp2_with (at_builtin; refine wpList_append_lies _ rfl _ _ 36 rfl W.heap.size 23 i0 (.slice none 0 0) 1 24 Tryz.underlying36 hi hz0 hz1 hz2 rfl (by decide) _ _ _ rfl HNS.out.2.1 ⟨w3.heap.size, 0, none⟩ 1 1 [.slice na M.length nc] rfl rfl HNS.out.1 (by intro u hu; simp at hu; subst hu; rfl) (by omega) (by unfold maxLen; omega) (by omega) (by simp; omega) _ rfl ?_)
                    intro g1' c1' w4 hown4 hgrow4 hat4 hlt4
                    have hat4' : (Value.slice sa k sc).ownBlock = some g1' ∨ w3.heap.size ≤ g1' := by
                      rcases hat4 with h | h
                      · exact .inl h
                      · right; omega
                    have hord4 : w4.ownsRow W.heap.size 4 1 (Value.slice oa k oc) k (rowsK ck k) := ownsRow_kept HNS.out.2.2 (fun q hq => (grown_keep hgrow4).block q (World.ownsRow.lt HNS.out.2.2 q hq).2 (fun e => HAT.out.so q e hq))
                    have hs6 : W.heap.size ≤ w4.heap.size := Nat.le_trans hs5 (grown_keep hgrow4).size
                    have hnews : ∀ j u, [Value.bool false][j]? = some u → (w4.alloc (.cells #[.bool false] 4)).cell? ((⟨w4.heap.size, 0, none⟩ : Addr).add j) = some u := by
                      intro j u hj
                      match j, hj with
                      | 0, hj => simp at hj; subst hj; simp [Addr.add]
                    have HNO := Lib.hid (And.intro hnews (hord4.alloc (.cells #[.bool false] 4)))
                    have H4 := Lib.hid (And.intro hown4 (And.intro hgrow4 hat4'))
                    clear hnews hord4 hown4 hgrow4 hat4 hat4' hlt4
                    go_wp2_with (at_builtin; refine wpList_append_lies _ rfl _ _ 37 rfl W.heap.size 4 j0 (.bool false) 1 1 Tryz.underlying37 hj hy0 hy1 hy2 rfl (by decide) _ _ _ rfl HNO.out.2 ⟨w4.heap.size, 0, none⟩ 1 1 [.bool false] rfl rfl HNO.out.1 (by intro u hu; simp at hu; subst hu; rfl) (by omega) (by unfold maxLen; omega) (by omega) (by simp; omega) _ rfl ?_)
                    intro g2' c2' w5 hown5 hgrow5 hat5 hlt5
                    have hat5' : (Value.slice oa k oc).ownBlock = some g2' ∨ w4.heap.size ≤ g2' := by
                      rcases hat5 with h | h
                      · exact .inl h
                      · right; omega
                    have hstep : StepS ts len (pkOf (ps.getD k default) (wl k)) (cl k) (ck k) M false := by
                      rw [HD.out, HB0.out.2]
                      exact ⟨fun h => absurd ((part_false (pkOf (⟨op, tx, wa, (wl k).length, wc, zs, pa', pb'⟩ : PickD) (wl k)) HPART.out.1).symm.trans h) (by decide), HPART.out.2, HEQ.out, by unfold nextK; have hpf : (pkOf (⟨op, tx, wa, (wl k).length, wc, zs, pa', pb'⟩ : PickD) (wl k)).part = false := part_false _ HPART.out.1; have h9 : (pkOf (⟨op, tx, wa, (wl k).length, wc, zs, pa', pb'⟩ : PickD) (wl k)).op ≠ 39 := H39.out; simp [h9, hpf, HM.out]⟩
                    have hfin := Lib.hid (WkAt.step HAT.out HB3.out HON.out.1 HON.out.2 hstep H4.out.1 H4.out.2.1 H4.out.2.2 hown5 hgrow5 hat5')
                    clear hown5 hgrow5 hat5 hat5' hlt5 hstep
                    go_wp2
                    go_roundw
                    case rel => exact ⟨k + 1, _, _, _, by go_num, by omega, by simp, hfin⟩
                    case measure => simp [intOf]; omega
    · obtain rfl : k = n := by omega
      have H := hat
      obtain ⟨sa, sc, hs, hsr⟩ := own_nil_value H.out.set
      obtain ⟨oa, oc, ho, hor⟩ := own_nil_value H.out.ord
      have hvl : vs.length = k := by have := H.out.set.1; omega
      have HF : Hid (ChainS ts len ps wl l0 cl ck k ∧ ReadsAs wr u6 vs ∧ vs.length = k ∧ (∀ j, j < k → ReadsAs wr (vs.getD j undef) ((cl (j + 1)).map intV)) ∧ ReadsAs wr u7 (rowsK ck k)) := Lib.hid ⟨H.out.chain, hsr, hvl, fun j hj => by
        have h1 := H.out.rs.reads j (by rw [rowsL_len]; exact hj)
        have h2 : (rowsL cl k).getD j [] = cl (j + 1) := by simp [rowsL, List.getD, hj]
        rw [h2] at h1
        exact h1, hor⟩
      have HB := Lib.hid H.out.bel
      clear hat hlt H hs ho hsr hor
      go_wp2
      go_ret3
      exact ⟨u6, u7, true, rfl, HB, Lib.hid (fun _ => ⟨cl, ck, vs, HF.out⟩)⟩

end Go.Proofs.YtphppdbhofeagaaGreat
