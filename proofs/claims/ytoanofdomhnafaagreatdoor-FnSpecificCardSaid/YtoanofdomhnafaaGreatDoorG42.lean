/- Parts of a proof: WriteNth. -/
import Derived.Test.YtoanofdomhnafaaGreatDoorG04
import Derived.Test.YtoanofdomhnafaaGreatDoorG00
import Derived.Test.YtoanofdomhnafaaGreatDoorG03
import Derived.Test.YtoanofdomhnafaaGreatDoorG41
set_option linter.unusedVariables false
set_option linter.unusedSimpArgs false
namespace Go.Proofs.YtoanofdomhnafaaGreatDoor
open Go.RowKit
/-- A row of texts that a region makes. -/
def RowAt (w : World) (n : Nat) (W : Nat → ByteArray) (v : Value) : Prop := ∃ g, v = .slice (some ⟨g, 0, none⟩) n n ∧ ∀ i, i < n → w.cell? ⟨g, i, none⟩ = some (.string (W i))
def SpotAt (w : World) (t : ByteArray) (v : Value) : Prop := ∃ p, v = .pointer (some p) ∧ w.cell? p = some (.string t)
theorem RowAt.below {w w' : World} {n : Nat} {W : Nat → ByteArray} {v : Value} (h : RowAt w n W v) (hb : Below w.heap.size w w') : RowAt w' n W v := by
  obtain ⟨g, h1, h2⟩ := h
  exact ⟨g, h1, fun i hi => cell_belowS hb (h2 i hi)⟩
theorem SpotAt.below {w w' : World} {t : ByteArray} {v : Value} (h : SpotAt w t v) (hb : Below w.heap.size w w') : SpotAt w' t v := by
  obtain ⟨p, h1, h2⟩ := h
  exact ⟨p, h1, cell_belowS hb h2⟩
def nthW (i : Nat) : ByteArray := bs ([[99, 104, 105, 108, 100], [108, 97, 115, 116, 45, 99, 104, 105, 108, 100], [111, 102, 45, 116, 121, 112, 101], [108, 97, 115, 116, 45, 111, 102, 45, 116, 121, 112, 101]].getD i [])
/-- The plan of the region. -/
def nthG (S f : Nat) (a b : Int) (N : ByteArray) (i : Nat) (v : Value) (w : World) : Prop :=
  match i with
  | 0 => RowAt w 4 nthW v
  | 1 => v = .pointer (some ⟨S, 6, none⟩)
  | 2 => v = .int .i64 (f : Int)
  | 3 => SpotAt w (nthW f) v
  | 4 => v = .string (nthW f)
  | 5 => v = .string (⟨#[58, 110, 116, 104, 45]⟩ ++ nthW f)
  | 6 => v = .string (⟨#[58, 110, 116, 104, 45]⟩ ++ nthW f ++ ⟨#[40]⟩)
  | 7 => v = .pointer (some ⟨S, 4, none⟩)
  | 8 => v = .int .i64 a
  | 9 => v = .pointer (some ⟨S, 5, none⟩)
  | 10 => v = .int .i64 b
  | 11 => v = .string N
  | 12 => v = .string (⟨#[58, 110, 116, 104, 45]⟩ ++ nthW f ++ ⟨#[40]⟩ ++ N)
  | 13 => v = .string (⟨#[58, 110, 116, 104, 45]⟩ ++ nthW f ++ ⟨#[40]⟩ ++ N ++ ⟨#[41]⟩)
  | 14 => v = .string (⟨#[58, 110, 116, 104, 45]⟩ ++ nthW f ++ ⟨#[40]⟩ ++ N ++ ⟨#[41]⟩)
  | _ => True
theorem nthG_mono {S f : Nat} {a b : Int} {N : ByteArray} (i : Nat) (v : Value) (w w' : World) (h : nthG S f a b N i v w) (hb : Below w.heap.size w w') : nthG S f a b N i v w' := by
  unfold nthG at h ⊢
  split at h
  all_goals first
    | exact h.below hb
    | exact h
set_option maxRecDepth 100000 in
set_option maxHeartbeats 8000000 in
theorem ws_nth (op : Int) (key val : ByteArray) (a b : Int) (f : Nat) (sz : Int) (w : World) (ha : -9999 ≤ a ∧ a ≤ 9999) (hb : -9999 ≤ b ∧ b ≤ 9999) (hf : f < 4) :
    Calls Tryz.prog 25 #[.agg #[.int .i64 6, .int .i64 op, .string key, .string val, .int .i64 a, .int .i64 b, .int .i64 (f : Int), .int .i64 sz]] w (StrPost (bs (58 :: (nthL (f : Int) ++ 40 :: (cntL a b ++ [41])))) w) := by
  have h0 := objAt_alloc_new w #[.int .i64 6, .int .i64 op, .string key, .string val, .int .i64 a, .int .i64 b, .int .i64 (f : Int), .int .i64 sz] 25
  have hb0 : Below w.heap.size w (w.alloc (.cells #[.int .i64 6, .int .i64 op, .string key, .string val, .int .i64 a, .int .i64 b, .int .i64 (f : Int), .int .i64 sz] 25)) := (Below.refl _ _).alloc (Nat.le_refl _) _
  obtain ⟨w0, hw0⟩ : ∃ w0, w.alloc (.cells #[.int .i64 6, .int .i64 op, .string key, .string val, .int .i64 a, .int .i64 b, .int .i64 (f : Int), .int .i64 sz] 25) = w0 := ⟨_, rfl⟩
  obtain ⟨S, hS⟩ : ∃ S, w.heap.size = S := ⟨_, rfl⟩
  rw [hw0] at h0 hb0
  rw [hS] at h0
  have H0 := Lib.hid h0
  have HB0 := Lib.hid hb0
  clear h0 hb0
  have HN := Lib.hid (fun w' => counted_any a b ha hb w')
  have hNs0 : (cntL a b).length ≤ 11 := by
    have h1 := sgnL_len hb
    have h2 := decL_len 3 a.natAbs (by omega)
    have h3 := decL_len 3 a.toNat (by omega)
    rw [bs_size] at h1
    unfold cntL
    split <;> simp <;> omega
  obtain ⟨N, hN⟩ : ∃ N, bs (cntL a b) = N := ⟨_, rfl⟩
  have hNs : N.size ≤ 5000 := by rw [← hN, bs_size]; omega
  have HE := Lib.hid (show bs (58 :: (nthL (f : Int) ++ 40 :: (cntL a b ++ [41]))) = ⟨#[58, 110, 116, 104, 45]⟩ ++ nthW f ++ ⟨#[40]⟩ ++ N ++ ⟨#[41]⟩ by
    rw [← hN]
    show _ = bs [58, 110, 116, 104, 45] ++ nthW f ++ bs [40] ++ bs (cntL a b) ++ bs [41]
    unfold nthW
    rw [show (58 :: (nthL (f : Int) ++ 40 :: (cntL a b ++ [41])) : List UInt8) = [58, 110, 116, 104, 45] ++ [[99, 104, 105, 108, 100], [108, 97, 115, 116, 45, 99, 104, 105, 108, 100], [111, 102, 45, 116, 121, 112, 101], [108, 97, 115, 116, 45, 111, 102, 45, 116, 121, 112, 101]].getD f [] ++ [40] ++ cntL a b ++ [41] by
      unfold nthL
      rcases (show f = 0 ∨ f = 1 ∨ f = 2 ∨ f = 3 by omega) with rfl | rfl | rfl | rfl <;> simp]
    simp only [bs_append])
  simp only [hN] at HN
  have hWs : (nthW f).size ≤ 20 := by
    unfold nthW
    rw [bs_size]
    rcases (show f = 0 ∨ f = 1 ∨ f = 2 ∨ f = 3 by omega) with rfl | rfl | rfl | rfl <;> simp
  clear hN
  have c0 : w0.cell? ⟨S, 0, none⟩ = some (.int .i64 6) := World.objAt.cell H0.out (i := 0) rfl
  have c4 : w0.cell? ⟨S, 4, none⟩ = some (.int .i64 a) := World.objAt.cell H0.out (i := 4) rfl
  have c5 : w0.cell? ⟨S, 5, none⟩ = some (.int .i64 b) := World.objAt.cell H0.out (i := 5) rfl
  have c6 : w0.cell? ⟨S, 6, none⟩ = some (.int .i64 (f : Int)) := World.objAt.cell H0.out (i := 6) rfl
  go_enter Tryz.func25, Tryz.ntmps25
  go_wp2
  refine wp_plan2 (nthG S f a b N) (fun w1 => Below w0.heap.size w0 w1) (by kernel_rfl) (n := 105) (by kernel_rfl) (by kernel_rfl) nthG_mono (Below.refl _ _).drew ?step ?done
  case step =>
    intro i o a' w1 hi hS1 hF hD
    have d4 := cell_belowS hS1 c4
    have d5 := cell_belowS hS1 c5
    have d6 := cell_belowS hS1 c6
    have x1 := hF.rest 1 (no_dst (by kernel_rfl))
    match i, hi with
    | 0, hi =>
      obtain rfl := Option.some.inj hi
      refine plan_value rfl rfl (v := .slice (some ⟨w1.heap.size, 0, none⟩) 4 4) (by go_simp; all_goals first | rfl | exact ⟨rfl, rfl⟩ | exact ⟨rfl, rfl, rfl⟩ | omega) ?h ?hs ?hb
      case h =>
        refine ⟨_, rfl, fun i hi => ?_⟩
        have hn := objAt_alloc_new w1 #[.string (nthW 0), .string (nthW 1), .string (nthW 2), .string (nthW 3)] 9
        rcases (show i = 0 ∨ i = 1 ∨ i = 2 ∨ i = 3 by omega) with rfl | rfl | rfl | rfl
        · exact World.objAt.cell hn (i := 0) rfl
        · exact World.objAt.cell hn (i := 1) rfl
        · exact World.objAt.cell hn (i := 2) rfl
        · exact World.objAt.cell hn (i := 3) rfl
      case hs => exact hS1.alloc hS1.size _
      case hb => exact (Below.refl _ _).alloc (Nat.le_refl _) _
    | 1, hi =>
      obtain rfl := Option.some.inj hi
      exact plan_pure rfl rfl hS1 (by go_simp; all_goals first | rfl | exact ⟨rfl, rfl⟩ | exact ⟨rfl, rfl, rfl⟩ | omega) rfl
    | 2, hi =>
      obtain rfl := Option.some.inj hi
      have y1 : a'.tmps.getD 56 undef = _ := hD ⟨1, .data⟩ (by simp) rfl _ _ rfl rfl
      exact plan_pure rfl rfl hS1 (by go_simp; all_goals first | rfl | exact ⟨rfl, rfl⟩ | exact ⟨rfl, rfl, rfl⟩ | omega) rfl
    | 3, hi =>
      obtain rfl := Option.some.inj hi
      obtain ⟨g, y0, hc⟩ : RowAt w1 4 nthW (a'.tmps.getD 55 undef) := hD ⟨0, .data⟩ (by simp) rfl _ _ rfl rfl
      have y2 : a'.tmps.getD 57 undef = _ := hD ⟨2, .data⟩ (by simp) rfl _ _ rfl rfl
      exact plan_pure rfl rfl hS1 (by go_simp; all_goals first | rfl | exact ⟨rfl, rfl⟩ | exact ⟨rfl, rfl, rfl⟩ | omega) ⟨_, rfl, hc f hf⟩
    | 4, hi =>
      obtain rfl := Option.some.inj hi
      obtain ⟨p, y0, hc⟩ : SpotAt w1 (nthW f) (a'.tmps.getD 58 undef) := hD ⟨3, .data⟩ (by simp) rfl _ _ rfl rfl
      exact plan_pure rfl rfl hS1 (by go_simp; all_goals first | rfl | exact ⟨rfl, rfl⟩ | exact ⟨rfl, rfl, rfl⟩ | omega) rfl
    | 5, hi =>
      obtain rfl := Option.some.inj hi
      have y0 : a'.tmps.getD 59 undef = _ := hD ⟨4, .data⟩ (by simp) rfl _ _ rfl rfl
      exact plan_pure rfl rfl hS1 (by go_simp; all_goals first | rfl | exact ⟨rfl, rfl⟩ | exact ⟨rfl, rfl, rfl⟩ | omega) rfl
    | 6, hi =>
      obtain rfl := Option.some.inj hi
      have y0 : a'.tmps.getD 60 undef = _ := hD ⟨5, .data⟩ (by simp) rfl _ _ rfl rfl
      exact plan_pure rfl rfl hS1 (by go_simp; all_goals first | rfl | exact ⟨rfl, rfl⟩ | exact ⟨rfl, rfl, rfl⟩ | omega) rfl
    | 7, hi =>
      obtain rfl := Option.some.inj hi
      exact plan_pure rfl rfl hS1 (by go_simp; all_goals first | rfl | exact ⟨rfl, rfl⟩ | exact ⟨rfl, rfl, rfl⟩ | omega) rfl
    | 8, hi =>
      obtain rfl := Option.some.inj hi
      have y0 : a'.tmps.getD 62 undef = _ := hD ⟨7, .data⟩ (by simp) rfl _ _ rfl rfl
      exact plan_pure rfl rfl hS1 (by go_simp; all_goals first | rfl | exact ⟨rfl, rfl⟩ | exact ⟨rfl, rfl, rfl⟩ | omega) rfl
    | 9, hi =>
      obtain rfl := Option.some.inj hi
      exact plan_pure rfl rfl hS1 (by go_simp; all_goals first | rfl | exact ⟨rfl, rfl⟩ | exact ⟨rfl, rfl, rfl⟩ | omega) rfl
    | 10, hi =>
      obtain rfl := Option.some.inj hi
      have y0 : a'.tmps.getD 64 undef = _ := hD ⟨9, .data⟩ (by simp) rfl _ _ rfl rfl
      exact plan_pure rfl rfl hS1 (by go_simp; all_goals first | rfl | exact ⟨rfl, rfl⟩ | exact ⟨rfl, rfl, rfl⟩ | omega) rfl
    | 11, hi =>
      obtain rfl := Option.some.inj hi
      have y1 : a'.tmps.getD 63 undef = _ := hD ⟨8, .data⟩ (by simp) rfl _ _ rfl rfl
      have y2 : a'.tmps.getD 65 undef = _ := hD ⟨10, .data⟩ (by simp) rfl _ _ rfl rfl
      refine plan_call rfl rfl (by go_simp; all_goals first | rfl | exact ⟨rfl, rfl⟩ | exact ⟨rfl, rfl, rfl⟩ | omega) ((HN.out _).mono ?_)
      rintro e w5 ⟨rfl, hb5⟩
      exact ⟨_, rfl, rfl, hS1.trans (hb5.mono hS1.size), hb5⟩
    | 12, hi =>
      obtain rfl := Option.some.inj hi
      have y0 : a'.tmps.getD 61 undef = _ := hD ⟨6, .data⟩ (by simp) rfl _ _ rfl rfl
      have y1 : a'.tmps.getD 66 undef = _ := hD ⟨11, .data⟩ (by simp) rfl _ _ rfl rfl
      exact plan_pure rfl rfl hS1 (by go_simp; all_goals first | rfl | exact ⟨rfl, rfl⟩ | exact ⟨rfl, rfl, rfl⟩ | omega) rfl
    | 13, hi =>
      obtain rfl := Option.some.inj hi
      have y0 : a'.tmps.getD 67 undef = _ := hD ⟨12, .data⟩ (by simp) rfl _ _ rfl rfl
      exact plan_pure rfl rfl hS1 (by go_simp; all_goals first | rfl | exact ⟨rfl, rfl⟩ | exact ⟨rfl, rfl, rfl⟩ | omega) rfl
    | 14, hi =>
      obtain rfl := Option.some.inj hi
      have y0 : a'.tmps.getD 68 undef = _ := hD ⟨13, .data⟩ (by simp) rfl _ _ rfl rfl
      exact plan_pure rfl rfl hS1 (by go_simp; all_goals first | rfl | exact ⟨rfl, rfl⟩ | exact ⟨rfl, rfl, rfl⟩ | omega) rfl
    | n + 15, hi => simp at hi
  case done =>
    intro a' w1 hS1 hF hD
    have y : a'.tmps.getD 2 undef = _ := hD 14 _ 2 rfl rfl
    have HY := Lib.hid (And.intro y hF.defers)
    clear y hF hD
    go_wp2
    (try simp only [Exit.inBlock, Exit.then])
    refine bodyPost_ret (results_tmp rfl _ _ _) HY.out.2 ?_
    rw [HY.out.1]
    refine ⟨?_, HB0.out.trans (hS1.mono HB0.out.size)⟩
    rw [HE.out]
end Go.Proofs.YtoanofdomhnafaaGreatDoor
