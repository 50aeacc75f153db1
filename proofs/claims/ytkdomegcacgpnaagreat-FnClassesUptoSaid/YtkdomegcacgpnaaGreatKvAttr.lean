/- spec.Attr and spec.withAttr, in plain words. -/
import Derived.Test.YtkdomegcacgpnaaGreatGrownKAll
import Derived.Test.YtkdomegcacgpnaaGreatListed
namespace Go.Proofs.YtkdomegcacgpnaaGreat
open Go.RowKit
set_option linter.unusedVariables false
set_option linter.unusedSimpArgs false

def AttrIs (l : KVs) (key : ByteArray) (w : World) (e : Ending) (w' : World) : Prop := e = .returned (.tuple #[.string ((lookKV l key).getD ByteArray.empty), .bool (lookKV l key).isSome]) ∧ Hid (Below w.heap.size w w')

set_option maxRecDepth 100000 in
set_option maxHeartbeats 1000000 in
theorem attrIs_any (k z : Int) (tag text : ByteArray) (aa : Option Addr) (al ac : Nat) (l : KVs) (key : ByteArray) (w : World) (h : AttrsAt w aa al l) :
    Calls Tryz.prog 10 #[.agg #[.int .i64 k, .string tag, .string text, .slice aa al ac, .int .i64 z], .string key] w (AttrIs l key w) := by
  have hm := h.2.1
  unfold maxLen at hm
  have hll := h.1
  have hb0 : Below w.heap.size w (w.alloc (.cells #[.int .i64 k, .string tag, .string text, .slice aa al ac, .int .i64 z] 38)) := (Below.refl _ _).alloc (Nat.le_refl _) _
  have cb : (w.alloc (.cells #[.int .i64 k, .string tag, .string text, .slice aa al ac, .int .i64 z] 38)).cell? ⟨w.heap.size, 3, none⟩ = some (.slice aa al ac) := cell_alloc_new' _ _ _ rfl rfl
  have h0 := h.below hb0
  have HA := Lib.hid h0
  have HB := Lib.hid hb0
  clear h hb0 h0
  subst hll
  go_enter Tryz.func10, Tryz.ntmps10
  go_wp2
  go_loop [6] (fun i => ∃ n : Nat, n ≤ l.length ∧ i = .int .i64 (n : Int) ∧ NoneBefore l key n) (fun i => l.length - (intOf i).toNat)
  case atStart => exact ⟨0, by omega, by go_num, fun j hj => by omega⟩
  case round =>
    obtain ⟨n, hn, rfl, hno⟩ := hrel
    have HNO := Lib.hid hno
    clear hno
    by_cases hlt : n < l.length
    · obtain ⟨_, _, _, hcc⟩ := HA.out
      obtain ⟨b, off, rfl, hc⟩ := hcc (by omega)
      obtain ⟨c1, c2⟩ := hc n hlt
      have hnI : (n : Int) < (l.length : Int) := by omega
      obtain ⟨x, hx⟩ : ∃ x, (l.getD n default).1 = x := ⟨_, rfl⟩
      obtain ⟨y, hy⟩ : ∃ y, (l.getD n default).2 = y := ⟨_, rfl⟩
      rw [hx] at c1
      rw [hy] at c2
      have HX := Lib.hid (And.intro hx hy)
      clear hx hy hcc hc
      cases hke : (x.toList == key.toList)
      · have HN2 := Lib.hid (HNO.out.succ HX.out.1 hke)
        go_wp2
        go_round
        case rel => exact ⟨n + 1, by omega, by go_num, HN2.out⟩
        case measure => simp [intOf]; omega
      · have hfin : lookKV l key = some y := by rw [← HX.out.2]; exact look_at hlt HNO.out (by rw [HX.out.1]; exact hke)
        have HFIN := Lib.hid hfin
        clear hfin
        go_wp2
        go_ret2
        exact ⟨by rw [HFIN.out]; rfl, HB⟩
    · obtain rfl : n = l.length := by omega
      have HFIN := Lib.hid (look_none HNO.out)
      go_wp2
      go_ret2
      exact ⟨by rw [HFIN.out]; rfl, HB⟩

theorem kvCells_set : ∀ (l : KVs) (k : Nat) (v : ByteArray), k < l.length → (kvCells l).set (k * 2 + 1) (.string v) = kvCells (l.set k ((l.getD k default).1, v)) := by
  intro l
  induction l with
  | nil => intro k v h; simp at h
  | cons x r ih =>
    intro k v h
    have hc : ∀ (y : ByteArray × ByteArray) (q : KVs), kvCells (y :: q) = .string y.1 :: .string y.2 :: kvCells q := fun y q => by simp [kvCells]
    cases k with
    | zero => rw [hc]; simp [hc]
    | succ k =>
      have hk : k < r.length := by simpa using h
      rw [hc, show (k + 1) * 2 + 1 = (k * 2 + 1) + 1 + 1 by omega, List.set_cons_succ, List.set_cons_succ, ih k v hk, List.set_cons_succ, hc]
      simp

def WithPost (l : KVs) (w : World) (e : Ending) (w' : World) : Prop := ∃ pv, e = .returned pv ∧ Hid (OwnKV w' w.heap.size pv l) ∧ Hid (Below w.heap.size w w')

set_option maxRecDepth 100000 in
set_option maxHeartbeats 2000000 in
theorem withAttr_any (aa : Option Addr) (al ac : Nat) (l : KVs) (key val : ByteArray) (w : World) (h : AttrsAt w aa al l) (hal : al ≤ 1000) :
    Calls Tryz.prog 112 #[.slice aa al ac, .string key, .string val] w (WithPost (setKV l key val) w) := by
  obtain ⟨i0, hi, hz0, hz1, hz2⟩ := info_parts Tryz.infoKV
  have hll := h.1
  have hE : (w.alloc (.cells #[] 61)).ownsRow w.heap.size 61 2 (.slice (some ⟨w.heap.size, 0, none⟩) 0 0) 0 [] := owns_empty2 w w.heap.size (Nat.le_refl _) 61
  have hb0 : Below w.heap.size w (w.alloc (.cells #[] 61)) := (Below.refl _ _).alloc (Nat.le_refl _) _
  have hAT := h.below hb0
  have HE := Lib.hid hE
  have HAT := Lib.hid hAT
  have HB0 := Lib.hid hb0
  clear hE hAT hb0 h
  subst hll
  go_enter Tryz.func112, Tryz.ntmps112
  go_wp2_with (at_builtin; refine wpList_append_kv rfl _ _ 36 rfl w.heap.size 61 i0 (.agg #[.string ByteArray.empty, .string ByteArray.empty]) 32 Tryz.underlying36 hi hz0 hz1 hz2 rfl (some ⟨w.heap.size, 0, none⟩) 0 0 [] rfl HE.out aa l.length ac l rfl HAT.out (by unfold maxLen; omega) (by omega) (by simp) ?_)
  intro b2 c2 w3 hown3 hgrow3
  have hs3 := hgrow3.size
  simp only [World.size_alloc] at hs3
  have HB3 : Hid (Below w.heap.size w w3) := Lib.hid (HB0.out.grown hgrow3 (by simp) (fun q hq => by simp [Value.ownBlock] at hq; omega))
  have HO3 : Hid (w3.ownsRow w.heap.size 61 2 (.slice b2 l.length c2) l.length (kvCells l)) := Lib.hid (by simpa using hown3)
  clear hown3 hgrow3
  go_wp2
  go_loop [8] (fun i => ∃ n : Nat, n ≤ l.length ∧ i = .int .i64 (n : Int) ∧ NoneBefore l key n) (fun i => l.length - (intOf i).toNat)
  case atStart => exact ⟨0, by omega, by go_num, fun j hj => by omega⟩
  case round =>
    obtain ⟨n, hn, rfl, hno⟩ := hrel
    have HNO := Lib.hid hno
    clear hno
    by_cases hlt : n < l.length
    · obtain ⟨g, rfl⟩ : ∃ g, b2 = some ⟨g, 0, none⟩ := by
        rcases HO3.out.2 with ⟨_, h2⟩ | ⟨g0, c0_, cur, hv, _⟩
        · omega
        · simp at hv; exact ⟨g0, hv.1⟩
      obtain ⟨k1, k2⟩ := kvCells_get l n hlt
      have hadd : ∀ j, (⟨g, 0, none⟩ : Addr).add j = ⟨g, j, none⟩ := fun j => by unfold Addr.add; split <;> simp_all
      have c1 := World.ownsRow.cells (h := HO3.out) (g := g) rfl _ _ k1
      have c2' := World.ownsRow.cells (h := HO3.out) (g := g) rfl _ _ k2
      rw [hadd] at c1 c2'
      have cf := own_free HO3.out (n * 2 + 1)
      have hnI : (n : Int) < (l.length : Int) := by omega
      obtain ⟨x, hx⟩ : ∃ x, (l.getD n default).1 = x := ⟨_, rfl⟩
      rw [hx] at c1
      have HX := Lib.hid hx
      obtain ⟨y, hy⟩ : ∃ y, (l.getD n default).2 = y := ⟨_, rfl⟩
      rw [hy] at c2'
      clear hx hy k1 k2 hadd
      cases hke : (x.toList == key.toList)
      · have HN2 := Lib.hid (HNO.out.succ HX.out hke)
        go_wp2
        go_round
        case rel => exact ⟨n + 1, by omega, by go_num, HN2.out⟩
        case measure => simp [intOf]; omega
      · have hset := ownsRow_set HO3.out (i := n * 2 + 1) (by omega) (.string val)
        rw [kvCells_set l n val hlt, ← set_at val hlt HNO.out (by rw [HX.out]; exact hke)] at hset
        have hlen : (setKV l key val).length = l.length := by rw [set_at val hlt HNO.out (by rw [HX.out]; exact hke), List.length_set]
        have HSET : Hid (OwnKV (w3.setCell ⟨g, n * 2 + 1, none⟩ (.string val)) w.heap.size (.slice (some ⟨g, 0, none⟩) l.length c2) (setKV l key val)) := Lib.hid (by unfold OwnKV; rw [hlen]; exact hset)
        have HBS : Hid (Below w.heap.size w (w3.setCell ⟨g, n * 2 + 1, none⟩ (.string val))) := Lib.hid (Below.setCell (p := ⟨g, n * 2 + 1, none⟩) HB3.out (World.ownsRow.lt HO3.out g rfl).1 _)
        clear hset hlen
        go_wp2
        go_ret
        exact ⟨_, rfl, HSET, HBS⟩
    · obtain rfl : n = l.length := by omega
      have hown := World.ownsRow.alloc HO3.out (.cells #[.string key, .string val] 61)
      have hnews : ∀ j u, [Value.string key, .string val][j]? = some u → (w3.alloc (.cells #[.string key, .string val] 61)).cell? ((⟨w3.heap.size, 0, none⟩ : Addr).add j) = some u :=
        World.news_of_block (cs := #[.string key, .string val]) (t := 61) (fr := (0, 0)) (heap_alloc_new w3 _)
      have HW := Lib.hid hown
      have HNEWS := Lib.hid hnews
      have HSN := Lib.hid (set_none val HNO.out)
      clear hown hnews
      go_wp2_with (at_builtin; refine wpList_append_lies _ rfl _ _ 36 rfl w.heap.size 61 i0 (.agg #[.string ByteArray.empty, .string ByteArray.empty]) 2 32 Tryz.underlying36 hi hz0 hz1 hz2 rfl (by decide) (.slice b2 l.length c2) l.length (kvCells l) rfl HW.out ⟨w3.heap.size, 0, none⟩ 1 1 [.string key, .string val] rfl rfl HNEWS.out (by simp [Value.oneCell']) (by omega) (by unfold maxLen; omega) (by omega) (by simp; omega) _ rfl ?_)
      intro g6 cap6 w6 hown6 hgrow6 hat6 hlt6
      have HB6 : Hid (Below w.heap.size w w6) := Lib.hid ((HB3.out.alloc (by omega) _).grown hgrow6 (by simp; omega) (fun q hq => (World.ownsRow.lt HW.out q hq).1))
      have HO6 : Hid (OwnKV w6 w.heap.size (.slice (some ⟨g6, 0, none⟩) (l.length + 1) cap6) (setKV l key val)) := Lib.hid (by
        unfold OwnKV
        rw [HSN.out, kvCells_snoc]
        simpa using hown6)
      clear hown6 hgrow6 hat6 hlt6
      go_wp2
      go_ret
      exact ⟨_, rfl, HO6, HB6⟩

end Go.Proofs.YtkdomegcacgpnaaGreat
