/- The law's then7: one list of places behind another. -/
import Derived.Test.YtoleejaabiafcaaGreatBaseAll
import Derived.Test.YtoleejaabiafcaaGreatIntsAll
namespace Go.Proofs.YtoleejaabiafcaaGreat
open Go.RowKit
set_option linter.unusedVariables false
set_option linter.unusedSimpArgs false

set_option maxRecDepth 100000 in
set_option maxHeartbeats 2000000 in
theorem then7_any (aa : Option Addr) (ac n : Nat) (A : List Int) (ba : Option Addr) (bc m : Nat) (Bz : List Int) (w : World) (hA : Ints w aa n A) (hB : Ints w ba m Bz) (hn : n ≤ 1000) (q : Nat → Nat) (hq : ∀ i, i < n → A.getD i 0 = (q i : Int) ∧ q i < m ∧ Bz.getD (q i) 0 = (i : Int)) :
    Calls Tryz.prog 14 #[.slice aa n ac, .slice ba m bc] w (KidsPost (List.range n) w) := by
  obtain ⟨_, ham, ab, ao, haa, hac⟩ := hA.open
  obtain ⟨_, hbm, bb, bo, hba, hbc⟩ := hB.open
  have HA := Lib.hid (And.intro haa hac)
  have HB := Lib.hid (And.intro hba hbc)
  have HQ := Lib.hid hq
  clear hA hB haa hac hba hbc hq
  obtain ⟨i0, hi, hz0, hz1, hz2⟩ := info_parts Tryz.infoInt
  go_enter Tryz.func14, Tryz.ntmps14
  go_wp2
  go_loopw [5, 6] (fun v iv wr => ∃ i : Nat, iv = .int .i64 (i : Int) ∧ i ≤ n ∧ Hid (OwnInts wr w.heap.size v (List.range i)) ∧ Hid (Below w.heap.size w wr)) (fun _ iv _ => n - (intOf iv).toNat)
  case atStart => exact ⟨0, by go_num, by omega, Lib.hid (World.ownsRow_nil _ _ _ _), Lib.hid (Below.refl _ _)⟩
  case round =>
    obtain ⟨i, rfl, hi2, HO, HBr⟩ := hrel
    by_cases hlt : i < n
    · obtain ⟨h1, h2, h3⟩ := HQ.out i hlt
      obtain rfl := HA.out.1 (by omega)
      obtain rfl := HB.out.1 (by omega)
      have ca := cell_below HBr.out (HA.out.2 i hlt)
      have cb := cell_below HBr.out (HB.out.2 (q i) h2)
      rw [h1] at ca
      rw [h3] at cb
      obtain ⟨y, hy⟩ : ∃ y, q i = y := ⟨_, rfl⟩
      rw [hy] at ca cb h2
      have hiI : (i : Int) < (n : Int) := by omega
      have hyI : (y : Int) < (m : Int) := by omega
      have g0 : decide ((0 : Int) ≤ (y : Int)) = true := by simp
      have g1 : decide ((y : Int) < (m : Int)) = true := by simp; omega
      have g2 : decide (y < m) = true := by simp; omega
      have hown : wr.ownsRow w.heap.size 3 1 u5 (List.range i).length ((List.range i).map fun (n : Nat) => Value.int .i64 (n : Int)) := HO.out
      clear h1 h3 hy
      go_wp2_with (at_builtin; refine wpList_append_own _ rfl _ _ 25 rfl w.heap.size 3 i0 (.int .i64 0) 1 8 Tryz.underlying25 hi hz0 hz1 hz2 rfl (by decide) _ _ _ rfl (hown.alloc _) ⟨wr.heap.size, 0, none⟩ 1 1 [.int .i64 (i : Int)] rfl rfl ?c1 ?c2 ?c3 ?c4 ?c5 ?_)
      case c2 => first | rfl | (intro u hu; simp at hu; subst hu; rfl)
      case c3 => unfold maxLen; simp; omega
      case c4 => omega
      case c5 => have := HBr.out.size; simp; omega
      intro v' w1 hown2 hgrow _
      have hsn := ownInts_snoc (done := List.range i) (k := i) (by rw [List.length_range]; exact hown2)
      rw [← List.range_succ] at hsn
      have H1 := Lib.hid hsn
      have H2 := Lib.hid ((HBr.out.alloc HBr.out.size _).grown hgrow (by have := HBr.out.size; simp; omega) (fun q hq => (World.ownsRow.lt hown q hq).1))
      clear hown2 hgrow hsn hown ca cb
      go_wp2
      go_roundw
      case rel => exact ⟨i + 1, by go_num, by omega, H1, H2⟩
      case measure => simp [intOf]; omega
    · obtain rfl : i = n := by omega
      clear hlt
      go_wp2
      go_ret
      exact ⟨_, rfl, HO.out, HBr.out⟩

end Go.Proofs.YtoleejaabiafcaaGreat
