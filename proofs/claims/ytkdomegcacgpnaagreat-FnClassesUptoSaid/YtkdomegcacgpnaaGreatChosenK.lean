/- The reference's chosen: nodes of its forest by their first places. -/
import Derived.Test.YtkdomegcacgpnaaGreatGrownKAll
import Derived.Test.YtkdomegcacgpnaaGreatIntsAll
import Derived.Deep.RegionLaw
namespace Go.Proofs.YtkdomegcacgpnaaGreat
open Go.RowKit
set_option linter.unusedVariables false
set_option linter.unusedSimpArgs false

/-- Places of nodes but the root, no place twice, up to n. -/
def PicksTo (len : Nat) (zs : List Int) (n : Nat) : Prop := ∀ i, i < n → 1 ≤ zs.getD i 0 ∧ zs.getD i 0 < len ∧ ∀ j, j < i → zs.getD j 0 ≠ zs.getD i 0

theorem PicksTo.succ {len : Nat} {zs : List Int} {n : Nat} (h : PicksTo len zs n) (h1 : 1 ≤ zs.getD n 0) (h2 : zs.getD n 0 < len) (h3 : ∀ j, j < n → zs.getD j 0 ≠ zs.getD n 0) : PicksTo len zs (n + 1) := fun i hi => by
  by_cases e : i = n
  · subst e; exact ⟨h1, h2, h3⟩
  · exact h i (by omega)

/-- The places as numbers. -/
structure Picks (len : Nat) (zs : List Int) (l : List Nat) : Prop where
  eq : zs = l.map (fun (n : Nat) => (n : Int))
  lt : ∀ i ∈ l, i < len
  pos : ∀ i ∈ l, 1 ≤ i
  nd : l.Nodup
  le : l.length ≤ len

def natsOf (zs : List Int) (k : Nat) : List Nat := (zs.take k).map Int.toNat

theorem natsOf_len {zs : List Int} {k : Nat} (h : k ≤ zs.length) : (natsOf zs k).length = k := by simp [natsOf]; omega

theorem natsOf_get {zs : List Int} {k i : Nat} (h : k ≤ zs.length) (hi : i < (natsOf zs k).length) : (natsOf zs k)[i] = (zs.getD i 0).toNat := by
  have h1 : i < k := by rw [natsOf_len h] at hi; exact hi
  simp [natsOf, List.getD, show i < zs.length by omega]

theorem PicksTo.nats {len : Nat} {zs : List Int} {k : Nat} (h : PicksTo len zs k) (hk : k ≤ zs.length) : (natsOf zs k).Nodup ∧ (∀ x ∈ natsOf zs k, 1 ≤ x ∧ x < len) ∧ k ≤ len := by
  have h1 : (natsOf zs k).Nodup := by
    refine List.pairwise_iff_getElem.2 (fun i j hi hj hij => ?_)
    rw [natsOf_get hk hi, natsOf_get hk hj]
    rw [natsOf_len hk] at hi hj
    have a := h i hi
    have b := h j hj
    have c := b.2.2 i hij
    omega
  have h2 : ∀ x ∈ natsOf zs k, 1 ≤ x ∧ x < len := fun x hx => by
    obtain ⟨i, hi, rfl⟩ := List.getElem_of_mem hx
    rw [natsOf_get hk hi]
    rw [natsOf_len hk] at hi
    have a := h i hi
    omega
  refine ⟨h1, h2, ?_⟩
  have := nodup_len len _ h1 (fun x hx => (h2 x hx).2)
  rwa [natsOf_len hk] at this

theorem PicksTo.picks {len : Nat} {zs : List Int} (h : PicksTo len zs zs.length) : Picks len zs (natsOf zs zs.length) := by
  obtain ⟨h1, h2, h3⟩ := h.nats (Nat.le_refl _)
  refine ⟨?_, fun i hi => (h2 i hi).2, fun i hi => (h2 i hi).1, h1, by rw [natsOf_len (Nat.le_refl _)]; exact h3⟩
  refine List.ext_getElem (by simp [natsOf]) (fun i a b => ?_)
  have h4 := (h i a).1
  rw [List.getElem_map, natsOf_get (Nat.le_refl _)]
  rw [List.getD_eq_getElem?_getD, List.getElem?_eq_getElem a] at h4 ⊢
  simp only [Option.getD_some] at h4 ⊢
  omega

theorem natsOf_succ {zs : List Int} {k : Nat} (h : k < zs.length) : natsOf zs (k + 1) = natsOf zs k ++ [(zs.getD k 0).toNat] := by
  unfold natsOf
  rw [List.take_add_one, List.getElem?_eq_getElem h, List.map_append, List.getD_eq_getElem?_getD, List.getElem?_eq_getElem h]
  rfl

def ChosenKPost (len : Nat) (kn : Nat → Nat) (zs : List Int) (w : World) (e : Ending) (w' : World) : Prop :=
  (e = .returned (.tuple #[.slice none 0 0, .bool false]) ∧ Hid (Below w.heap.size w w')) ∨
  ∃ v l, Picks len zs l ∧ e = .returned (.tuple #[v, .bool true]) ∧ Hid (w'.ownsRow w.heap.size 69 1 v l.length (l.map fun y => ptrV (kn y))) ∧ Hid (Below w.heap.size w w')

set_option maxRecDepth 100000 in
set_option maxHeartbeats 4000000 in
theorem chosenK_any {B : Nat} (w : World) (f len : Nat) (vf : Value) (kn : Nat → Nat) (many : Int) (opn : Bool) (hF : ForestK B w f vf len kn many opn) (h0 : 0 < len) (hlen : len ≤ 200) (a : Option Addr) (n ncap : Nat) (zs : List Int) (h : Ints w a n zs) :
    Calls Tryz.prog 57 #[.pointer (some ⟨f, 0, none⟩), .slice a n ncap] w (ChosenKPost len kn zs w) := by
  obtain ⟨hl, hm, b, off, ha, hc⟩ := h.open
  obtain ⟨g, fcap, hvf, hfc1, hfc2, f0, _, _, frow⟩ := hF.open h0
  obtain ⟨j0, hj, hy0, hy1, hy2⟩ := info_parts Tryz.infoKnotP
  have HA := Lib.hid ha
  have HC := Lib.hid hc
  have HR := Lib.hid frow
  have HZL := Lib.hid hl
  clear h ha hc frow hF hvf hl
  go_enter Tryz.func57, Tryz.ntmps57
  go_wp2
  go_loopw [6, 7] (fun x iv wr => ∃ k : Nat, k ≤ n ∧ iv = .int .i64 (k : Int) ∧ Hid (PicksTo len zs k) ∧ Hid (wr.ownsRow w.heap.size 69 1 x k ((natsOf zs k).map fun y => ptrV (kn y))) ∧ Hid (Below w.heap.size w wr)) (fun _ i _ => n - (intOf i).toNat)
  case atStart => exact ⟨0, by omega, by go_num, Lib.hid (fun i hi => by omega), Lib.hid (World.ownsRow_nil _ _ _ _), Lib.hid (Below.refl _ _)⟩
  case round =>
    obtain ⟨k, hk, rfl, HP, HOWN, HBEL⟩ := hrel
    by_cases hlt : k < n
    · obtain rfl := HA.out (by omega)
      have ck := cell_below HBEL.out (HC.out k hlt)
      have f0' := cell_below HBEL.out f0
      have hkI : (k : Int) < (n : Int) := by omega
      have hkl : k ≤ len := (HP.out.nats (by rw [HZL.out]; omega)).2.2
      obtain ⟨z, hz⟩ : ∃ z, zs.getD k 0 = z := ⟨_, rfl⟩
      rw [hz] at ck
      have HZ := Lib.hid hz
      clear hz
      by_cases b1 : z < 1
      · have g1 : decide (z < 1) = true := by simp [b1]
        clear b1
        go_wp2
        go_quiet (fail)
        go_wp2
        go_ret2
        exact .inl ⟨rfl, Lib.hid (below_drewN HBEL.out _)⟩
      have g1 : decide (z < 1) = false := by simp [b1]
      by_cases b2 : (len : Int) ≤ z
      · have g2 : decide ((len : Int) ≤ z) = true := by simp [b2]
        clear b1 b2
        go_wp2
        go_quiet (fail)
        go_wp2
        go_ret2
        exact .inl ⟨rfl, Lib.hid (below_drewN HBEL.out _)⟩
      have g2 : decide ((len : Int) ≤ z) = false := by simp [b2]
      obtain ⟨zn, rfl⟩ : ∃ zn : Nat, z = (zn : Int) := Int.eq_ofNat_of_zero_le (by omega)
      have hzn : 1 ≤ zn ∧ zn < len := by omega
      have HZN := Lib.hid hzn
      have hznI : (zn : Int) < (len : Int) := by omega
      clear b1 b2 hzn
      go_wp2
      go_quiet (fail)
      obtain ⟨wz, hwz⟩ : ∃ wz, wr.drewN nq = wz := ⟨_, rfl⟩
      have HBZ := Lib.hid (show Below w.heap.size w wz by rw [← hwz]; exact below_drewN HBEL.out _)
      have HOZ := Lib.hid (show wz.ownsRow w.heap.size 69 1 u6 k ((natsOf zs k).map fun y => ptrV (kn y)) by rw [← hwz]; exact HOWN.out)
      rw [hwz]
      clear hwz ck f0' HBEL HOWN
      go_wp2
      go_loopw [8] (fun jv w1 => ∃ j : Nat, j ≤ k ∧ jv = .int .i64 (j : Int) ∧ Hid (∀ i, i < j → zs.getD i 0 ≠ zs.getD k 0) ∧ Hid (w1.ownsRow w.heap.size 69 1 u6 k ((natsOf zs k).map fun y => ptrV (kn y))) ∧ Hid (Below w.heap.size w w1)) (fun i _ => k - (intOf i).toNat)
      case atStart => exact ⟨0, by omega, by go_num, Lib.hid (fun i hi => by omega), HOZ, HBZ⟩
      case round =>
        obtain ⟨j, hjk, rfl, HNE, HO1, HB1⟩ := hrel
        by_cases hjl : j < k
        · have cj := cell_below HB1.out (HC.out j (by omega))
          have ck := cell_below HB1.out (HC.out k hlt)
          rw [HZ.out] at ck
          obtain ⟨y, hy⟩ : ∃ y, zs.getD j 0 = y := ⟨_, rfl⟩
          rw [hy] at cj
          have hjI : (j : Int) < (k : Int) := by omega
          have hjI2 : (j : Int) < (n : Int) := by omega
          by_cases he : y = (zn : Int)
          · have ge : (y == (zn : Int)) = true := by simp [he]
            clear he hy
            go_wp2
            go_quiet (fail)
            go_wp2
            go_ret2
            exact .inl ⟨rfl, Lib.hid (below_drewN HB1.out _)⟩
          · have ge : (y == (zn : Int)) = false := by simp [he]
            have HY := Lib.hid (And.intro he hy)
            clear he hy
            go_wp2
            go_quiet (fail)
            go_wp2
            refine ⟨?rel, ?measure⟩
            case rel =>
              refine ⟨j + 1, by omega, by go_num, Lib.hid (fun i hi => ?_), Lib.hid HO1.out, Lib.hid (below_drewN HB1.out _)⟩
              by_cases e : i = j
              · subst e
                rw [HY.out.2, HZ.out]
                exact HY.out.1
              · exact HNE.out i (by omega)
            case measure => simp [intOf]; omega
        · obtain rfl : j = k := by omega
          have ck := cell_below HB1.out (HC.out j hlt)
          rw [HZ.out] at ck
          have f0'' := cell_below HB1.out f0
          have cz := cell_below HB1.out (HR.out zn HZN.out.2)
          have hjlen : j ≤ 200 := by omega
          have hownA := (World.ownsRow.alloc HO1.out (.cells #[.pointer (some ⟨kn zn, 0, none⟩)] 69)).drew
          have hnews : ∀ i u, [Value.pointer (some ⟨kn zn, 0, none⟩)][i]? = some u → (wr.alloc (.cells #[.pointer (some ⟨kn zn, 0, none⟩)] 69)).drew.cell? ((⟨wr.heap.size, 0, none⟩ : Addr).add i) = some u :=
            World.news_of_block (cs := #[.pointer (some ⟨kn zn, 0, none⟩)]) (t := 69) (fr := (0, 0)) (heap_alloc_new wr _)
          have hbs := HB1.out.size
          have HOA := Lib.hid hownA
          have HNEWS := Lib.hid hnews
          clear hownA hnews
          go_wp2
          go_region_law (first | (refine step_append_lies _ rfl (.tmp 46) (.tmp 57) 66 rfl w.heap.size 69 j0 (.pointer none) 1 8 Tryz.underlying66 hj hy0 hy1 hy2 rfl (by decide) u6 j ((natsOf zs j).map fun y => ptrV (kn y)) (by simp [Act.eval, Act.put]) HOA.out ⟨wr.heap.size, 0, none⟩ 1 1 [.pointer (some ⟨kn zn, 0, none⟩)] (by simp [Act.eval, Act.put]) rfl HNEWS.out (by simp [Value.oneCell']) (by omega) (by unfold maxLen; omega) (by omega) (by simp; omega) _ rfl ?_; intro g6 cap6 w6 hown6 hgrow6 hat6 hlt6))
          all_goals
            have hb6 : Below w.heap.size w w6 := ((HB1.out.alloc hbs _).drew).grown hgrow6 (by simp; omega) (fun q hq => (World.ownsRow.lt HO1.out q hq).1)
            have hsn : w6.ownsRow w.heap.size 69 1 (.slice (some ⟨g6, 0, none⟩) (j + 1) cap6) (j + 1) ((natsOf zs (j + 1)).map fun y => ptrV (kn y)) := by
              rw [natsOf_succ (by rw [HZL.out]; exact hlt), HZ.out, List.map_append]
              simpa [ptrV] using hown6
            have hp := HP.out.succ (by rw [HZ.out]; have := HZN.out; omega) (by rw [HZ.out]; exact hznI) HNE.out
            have H6 := Lib.hid (And.intro hsn hb6)
            have HP6 := Lib.hid hp
            clear hown6 hgrow6 hat6 hlt6 hb6 hsn hp ck f0'' cz
            go_wp2
            refine ⟨?rel, ?measure⟩
            case rel => exact ⟨j + 1, by omega, by go_num, HP6, Lib.hid H6.out.1, Lib.hid H6.out.2⟩
            case measure => simp [intOf]; omega
    · obtain rfl : k = n := by omega
      go_wp2
      go_ret2
      have hzl := HZL.out
      refine .inr ⟨_, natsOf zs k, ?_, rfl, ?_, HBEL⟩
      · have := HP.out
        rw [← hzl] at this ⊢
        exact this.picks
      · rw [natsOf_len (by omega)]
        exact HOWN

/-- What a step leaves. -/
def StepKPost (B f len : Nat) (vf : Value) (kn : Nat → Nat) (Φ : Nat → (Nat → Int) → (Nat → NodeD) → Wd → Prop) (e : Ending) (w' : World) (w : World) : Prop :=
  (e = .returned (.bool false) ∧ Hid (Below B w w')) ∨
  (∃ n kn' kv av pl lab F many opn, e = .returned (.bool true) ∧ Φ n pl lab F ∧ kn' 0 = kn 0 ∧ Hid (Knots B w' n kn' kv av pl lab F) ∧ Hid (ForestK B w' f vf len kn many opn) ∧ Hid (Below B w w')) ∨
  (e = .returned (.bool true) ∧ ∃ many, Hid (ForestK B w' f vf len kn many true) ∧ Hid (Below B w w'))

end Go.Proofs.YtkdomegcacgpnaaGreat
