/- The law's inRow7: nodes stand one behind the other from a place of a list on. -/
import Derived.Test.YtoleejaabiafcaaInts
namespace Go.Proofs.Ytoleejaabiafcaa
open Go.RowKit
set_option linter.unusedVariables false
set_option linter.unusedSimpArgs false

set_option maxRecDepth 100000 in
set_option maxHeartbeats 2000000 in
theorem inRow_any (ka : Option Addr) (kc : Nat) (kz : List Int) (from_ : Nat) (wa : Option Addr) (wn wc : Nat) (wz : List Int) (pa : Option Addr) (pn pc : Nat) (pz : List Int) (w : World) (hk : Ints w ka kz.length kz) (hw : Ints w wa wn wz) (hp : Ints w pa pn pz) (hlen : from_ + wn ≤ kz.length)
    (hin : ∀ i, i < wn → 0 ≤ wz.getD i 0 ∧ wz.getD i 0 < pn ∧ kz.getD (from_ + i) 0 = pz.getD (wz.getD i 0).toNat 0) :
    Calls Try.prog 22 #[.slice ka kz.length kc, .int .i64 (from_ : Int), .slice wa wn wc, .slice pa pn pc] w (YesB w) := by
  obtain ⟨_, hkm, kb, koff, hka, hkc⟩ := hk.open
  obtain ⟨_, hwm, wb, woff, hwa, hwc⟩ := hw.open
  obtain ⟨_, hpm, pb, poff, hpa, hpc⟩ := hp.open
  have HK := Lib.hid (And.intro hka hkc)
  have HW := Lib.hid (And.intro hwa hwc)
  have HP := Lib.hid (And.intro hpa hpc)
  have HI := Lib.hid hin
  clear hk hw hp hka hkc hwa hwc hpa hpc hin
  go_enter Try.func22, Try.ntmps22
  go_wp2
  go_loopw [9] (fun iv wr => ∃ i : Nat, i ≤ wn ∧ iv = .int .i64 (i : Int) ∧ Hid (Below w.heap.size w wr)) (fun iv _ => wn - (intOf iv).toNat)
  case atStart => exact ⟨0, by omega, by go_num, Lib.hid (Below.refl _ _)⟩
  case round =>
    obtain ⟨i, hi, rfl, HB⟩ := hrel
    by_cases hlt : i < wn
    · obtain ⟨h1, h2, h3⟩ := HI.out i hlt
      obtain ⟨y, hy⟩ := Int.eq_ofNat_of_zero_le h1
      obtain rfl := HK.out.1 (by omega)
      obtain rfl := HW.out.1 (by omega)
      have hyp : y < pn := by omega
      obtain rfl := HP.out.1 (by omega)
      have cw := cell_below HB.out (HW.out.2 i hlt)
      have ck := cell_below HB.out (HK.out.2 (from_ + i) (by omega))
      have cp := cell_below HB.out (HP.out.2 y hyp)
      rw [hy] at cw h3
      rw [h3] at ck
      simp only [Int.toNat_natCast] at ck
      obtain ⟨z, hz⟩ : ∃ z, pz.getD y 0 = z := ⟨_, rfl⟩
      rw [hz] at ck cp
      have e1 : koff + (from_ + i) = koff + from_ + i := by omega
      have r0 : decide ((from_ : Int) + (i : Int) < 0) = false := by simp; omega
      have r1 : decide ((kz.length : Int) ≤ (from_ : Int) + (i : Int)) = false := by simp; omega
      have r2 : (z != z) = false := by simp
      have hiI : (i : Int) < (wn : Int) := by omega
      have hyI : (y : Int) < (pn : Int) := by omega
      have hfi : (from_ : Int) + (i : Int) = ((from_ + i : Nat) : Int) := by omega
      have hfl : (from_ : Int) + (i : Int) < (kz.length : Int) := by omega
      obtain ⟨m, hm⟩ : ∃ m, from_ + i = m := ⟨_, rfl⟩
      rw [hm] at ck hfi e1
      have r0' : decide ((m : Int) < 0) = false := by simp
      have r1' : decide ((kz.length : Int) ≤ (m : Int)) = false := by simp; omega
      have r1n : decide (kz.length ≤ m) = false := by simp; omega
      have hmI : (m : Int) < (kz.length : Int) := by omega
      rw [hfi] at r0 r1 hfl
      have HM := Lib.hid (And.intro hm (And.intro hy (And.intro h1 (And.intro h2 h3))))
      clear hm hy h1 h2 h3 hz e1 r0 r1 hfl
      go_wp2
      (try rw [hfi])
      clear hfi
      go_quiet (fail)
      go_wp2
      refine ⟨?rel, ?measure⟩
      case rel => exact ⟨i + 1, by omega, by go_num, Lib.hid (below_drewN HB.out _)⟩
      case measure => simp [intOf]; omega
    · obtain rfl : i = wn := by omega
      go_wp2
      go_ret
      exact ⟨rfl, HB.out⟩

end Go.Proofs.Ytoleejaabiafcaa
