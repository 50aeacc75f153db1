/- spec.rightRoot: it returns. -/
import Derived.Test.YtikimffifkiinaaKids
import Derived.BigGuardPart
namespace Go.Proofs.Ytikimffifkiinaa
open Go.RowKit
set_option linter.unusedVariables false
set_option linter.unusedSimpArgs false

theorem kidsFrom_mem {z : Nat → Nat} {e : Nat} (hpos : ∀ i, i < e → 1 ≤ z i) : ∀ {f k x}, x ∈ kidsFrom z e f k → k ≤ x ∧ x < e := by
  intro f
  induction f with
  | zero => intro k x h; simp [kidsFrom] at h
  | succ f ih =>
    intro k x h
    simp only [kidsFrom] at h
    split at h
    · rename_i hlt
      rcases List.mem_cons.1 h with rfl | h
      · exact ⟨Nat.le_refl _, hlt⟩
      · have := ih h
        have := hpos k hlt
        omega
    · simp at h

theorem kids_mem {z : Nat → Nat} {at_ x n : Nat} (hz : Nest z n) (hat : at_ < n) (h : x ∈ kids z at_) : at_ < x ∧ x < at_ + z at_ ∧ x < n := by
  have hf := hz.fit at_ hat
  have := kidsFrom_mem (z := z) (e := at_ + z at_) (fun i hi => hz.pos i (by omega)) h
  omega

theorem getD_mem {α : Type} {l : List α} {i : Nat} {d : α} (h : i < l.length) : l.getD i d ∈ l := by
  rw [List.getD_eq_getElem?_getD, List.getElem?_eq_getElem h]
  exact List.getElem_mem _

theorem Row.at {w : World} {a : Option Addr} {len : Nat} {vs : List Value} (h : Row w a len vs) (hl : 0 < len) : ∃ b off, a = some ⟨b, off, none⟩ ∧ ∀ i, i < len → w.cell? ⟨b, off + i, none⟩ = some (vs.getD i undef) := h.2.2 hl

/-- A cell of a slice of places. -/
theorem ints_cell {w : World} {a : Option Addr} {l : List Nat} (h : Row w a l.length (l.map fun (n : Nat) => Value.int .i64 (n : Int))) (hl : 0 < l.length) :
    ∃ b off, a = some ⟨b, off, none⟩ ∧ ∀ i, i < l.length → w.cell? ⟨b, off + i, none⟩ = some (.int .i64 ((l.getD i 0 : Nat) : Int)) := by
  obtain ⟨b, off, rfl, hc⟩ := h.at hl
  refine ⟨b, off, rfl, fun i hi => ?_⟩
  rw [hc i hi]
  simp [List.getD_eq_getElem?_getD, hi]

set_option maxRecDepth 100000 in
set_option maxHeartbeats 2000000 in
theorem rightRoot_any (a : Option Addr) (len cap : Nat) (ts : List NodeD) (w : World) (h : Nodes w a len ts) (hsz : ∀ j, j < len → Sz ts j) (h0 : sz ts 0 = len) (hlen : len ≤ 200) (hpos : 0 < len) :
    Calls Try.prog 31 #[.slice a len cap] w (SomeBoolB (fun _ => True) w) := by
  have hnest := nest_of h0 hsz hpos
  have HN := Lib.hid h
  have hmem : ∀ x, x ∈ kids (sz ts) 0 → x < len := fun x hx => (kids_mem hnest hpos hx).2.2
  have HM := Lib.hid hmem
  have hcall := kids_any a len cap ts 0 w h hsz (fun j hj => hnest.fit j hj) hpos hlen
  have HCALL := Lib.hid hcall
  clear h hsz h0 hnest hmem hcall
  go_enter Try.func31, Try.ntmps31
  go_wp2_with fail
  refine HCALL.out.mono ?_
  rintro e w1 ⟨v, rfl, hown, hbel⟩
  obtain ⟨al, cl, hv, hl1, hl2, hrow⟩ := hown.ints
  generalize kids (sz ts) 0 = l at *
  rw [hv]
  clear hv hown HCALL
  unfold maxLen at hl2
  have HB := Lib.hid hbel
  have HR := Lib.hid hrow
  have HN1 := Lib.hid (HN.out.below hbel)
  clear hbel hrow HN
  go_wp2
  go_loop [4, 5] (fun s i => ∃ (b : Bool) (k : Nat), k ≤ l.length ∧ i = .int .i64 k ∧ s = .bool b) (fun _ i => l.length - (intOf i).toNat)
  case atStart => exact ⟨false, 0, by omega, rfl, rfl⟩
  case round =>
    obtain ⟨b, k, hk, rfl, rfl⟩ := hrel
    by_cases hlt : k < l.length
    · obtain ⟨bl, ol, rfl, hc⟩ := ints_cell HR.out (by omega)
      have ck := hc k hlt
      have hx : l.getD k 0 < len := HM.out _ (getD_mem hlt)
      generalize l.getD k 0 = x at ck hx
      obtain ⟨bt, ot, rfl, hct⟩ := HN1.out.at hpos
      have cx := (hct x hx).kind
      obtain ⟨q, hq⟩ : ∃ q, (ts.getD x default).kind = q := ⟨_, rfl⟩
      rw [hq] at cx
      clear hc hct hq
      by_cases h4 : q = 4
      · subst h4
        go_wp2
        all_goals (go_ret; exact ⟨_, trivial, rfl, HB.out⟩)
      have g4 : (q == 4) = false := by simp [h4]
      by_cases h2 : q = 2
      · subst h2
        cases b
        · go_wp2
          go_round
          case rel => exact ⟨true, k + 1, by omega, by go_num, rfl⟩
          case measure => simp [intOf]; omega
        · go_wp2
          go_ret
          exact ⟨_, trivial, rfl, HB.out⟩
      have g2 : (q == 2) = false := by simp [h2]
      by_cases h3 : q = 3
      · subst h3
        cases b
        all_goals
          go_wp2
          go_round
          case rel => exact ⟨true, k + 1, by omega, by go_num, rfl⟩
          case measure => simp [intOf]; omega
      have g3 : (q == 3) = false := by simp [h3]
      go_wp2
      go_round
      case rel => exact ⟨b, k + 1, by omega, by go_num, rfl⟩
      case measure => simp [intOf]; omega
    · go_wp2
      go_ret
      exact ⟨_, trivial, rfl, HB.out⟩

end Go.Proofs.Ytikimffifkiinaa
