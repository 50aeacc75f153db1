/- spec.Attr, spec.simple at an id, Matches of one simple selector. -/
import Derived.Test.YtobnglgnoflbnaaMatchAttr
namespace Go.Proofs.Ytobnglgnoflbnaa
open Go.RowKit
set_option linter.unusedVariables false
set_option linter.unusedSimpArgs false

theorem hasKV_none {l : List (ByteArray × ByteArray)} {key id : ByteArray} : ∀ n, (∀ j, j < n → ((l.getD j default).1.toList == key.toList) = false) → hasKV l key id n = false := by
  intro n
  induction n with
  | zero => intro _; rfl
  | succ n ih => intro h; simp only [hasKV]; rw [ih (fun j hj => h j (by omega)), h n (by omega)]; rfl

theorem hasKV_only {l : List (ByteArray × ByteArray)} {key id : ByteArray} {k : Nat} (hk : ((l.getD k default).1.toList == key.toList) = true) : ∀ n, k < n → (∀ j, j < n → j ≠ k → ((l.getD j default).1.toList == key.toList) = false) → hasKV l key id n = ((l.getD k default).2.toList == id.toList) := by
  intro n
  induction n with
  | zero => intro h; omega
  | succ n ih =>
    intro h1 h2
    simp only [hasKV]
    by_cases e : k = n
    · subst e
      rw [hasKV_none k (fun j hj => h2 j (by omega) (by omega)), hk]; simp
    · rw [ih (by omega) (fun j hj hne => h2 j (by omega) hne), h2 n (by omega) (fun e' => e e'.symm)]; simp

def AttrPost (l : List (ByteArray × ByteArray)) (key : ByteArray) (w : World) (e : Ending) (w' : World) : Prop := ∃ s b, e = .returned (.tuple #[.string s, .bool b]) ∧ Hid (∀ id : ByteArray, (b && (s.toList == id.toList)) = hasKV l key id l.length) ∧ Hid (Below w.heap.size w w')

set_option maxRecDepth 100000 in
set_option maxHeartbeats 1000000 in
theorem attr_any (k z : Int) (tag text : ByteArray) (aa : Option Addr) (al ac : Nat) (l : List (ByteArray × ByteArray)) (key : ByteArray) (w : World) (h : AttrsAt w aa al l) (hap : Apart l l.length) :
    Calls Try.prog 121 #[.agg #[.int .i64 k, .string tag, .string text, .slice aa al ac, .int .i64 z], .string key] w (AttrPost l key w) := by
  have hm := h.2.1
  unfold maxLen at hm
  have hll := h.1
  have hb0 : Below w.heap.size w (w.alloc (.cells #[.int .i64 k, .string tag, .string text, .slice aa al ac, .int .i64 z] 64)) := (Below.refl _ _).alloc (Nat.le_refl _) _
  have cb : (w.alloc (.cells #[.int .i64 k, .string tag, .string text, .slice aa al ac, .int .i64 z] 64)).cell? ⟨w.heap.size, 3, none⟩ = some (.slice aa al ac) := cell_alloc_new' _ _ _ rfl rfl
  have h0 := h.below hb0
  have HA := Lib.hid h0
  have HB := Lib.hid hb0
  have HAP := Lib.hid hap
  clear h hb0 h0 hap
  subst hll
  go_enter Try.func121, Try.ntmps121
  go_wp2
  go_loop [6] (fun i => ∃ n : Nat, n ≤ l.length ∧ i = .int .i64 (n : Int) ∧ ∀ j, j < n → ((l.getD j default).1.toList == key.toList) = false) (fun i => l.length - (intOf i).toNat)
  case atStart => exact ⟨0, by omega, by go_num, fun j hj => by omega⟩
  case round =>
    obtain ⟨n, hn, rfl, hno⟩ := hrel
    have HNO := Lib.hid hno
    clear hno
    by_cases hlt : n < l.length
    · obtain ⟨_, _, _, hcc⟩ := HA.out
      obtain ⟨b, off, rfl, hc⟩ := hcc (by omega)
      obtain ⟨c1, c2⟩ := hc n hlt
      have hnI : (n : Int) < (l.length : Int) := by omega
      obtain ⟨x, hx⟩ : ∃ x, (l.getD n default).1 = x := ⟨_, rfl⟩
      obtain ⟨y, hy⟩ : ∃ y, (l.getD n default).2 = y := ⟨_, rfl⟩
      rw [hx] at c1
      rw [hy] at c2
      have HX := Lib.hid (And.intro hx hy)
      clear hx hy hcc hc
      cases hke : (x.toList == key.toList)
      · have HKE := Lib.hid hke
        go_wp2
        go_round
        case rel => exact ⟨n + 1, by omega, by go_num, fun j hj => by
            by_cases e : j = n
            · subst e; rw [HX.out.1]; exact HKE.out
            · exact HNO.out j (by omega)⟩
        case measure => simp [intOf]; omega
      · have hfin : ∀ id : ByteArray, (true && (y.toList == id.toList)) = hasKV l key id l.length := fun id => by
          have hk2 : ((l.getD n default).1.toList == key.toList) = true := by rw [HX.out.1]; exact hke
          rw [hasKV_only hk2 l.length hlt (fun j hj hne => by
            rcases Nat.lt_or_ge j n with h | h
            · exact HNO.out j h
            · have h3 := HAP.out j n (by omega) hj
              have h4 : (l.getD n default).1.toList = key.toList := by simpa using hk2
              rw [h4] at h3
              simp at h3 ⊢
              exact fun e => h3 e.symm), HX.out.2]
          simp
        have HFIN := Lib.hid hfin
        clear hfin
        go_wp2
        go_ret2
        exact ⟨y, true, rfl, HFIN, HB⟩
    · obtain rfl : n = l.length := by omega
      have hfin : ∀ id : ByteArray, (false && (ByteArray.empty.toList == id.toList)) = hasKV l key id l.length := fun id => by rw [hasKV_none _ HNO.out]; rfl
      have HFIN := Lib.hid hfin
      clear hfin
      go_wp2
      go_ret2
      exact ⟨ByteArray.empty, false, rfl, HFIN, HB⟩

end Go.Proofs.Ytobnglgnoflbnaa
