/- AppendChild: the first kid; a later one. -/
import Derived.Test.YtphppdbhofeagaaDoorDom
namespace Go.Proofs.YtphppdbhofeagaaDoor
open Go.RowKit
set_option linter.unusedVariables false
set_option linter.unusedSimpArgs false

set_option maxHeartbeats 400000 in
theorem appendChild_first (n c : Nat) (rn rc : NRec) (w : World) (hn : World.nodeAt w n rn) (hc : World.nodeAt w c rc) (hne : n ≠ c)
    (hl : rn.lst = none) (h0 : rc.par = none) (h3 : rc.prv = none) (h4 : rc.nxt = none) :
    Calls Tryd.prog 50 #[.pointer (some ⟨n, 0, none⟩), .pointer (some ⟨c, 0, none⟩)] w fun e w' => e = .returned (.tuple #[]) ∧
      World.putN (World.putN w n { rn with fst := some c, lst := some c }) c { rc with par := some n } = w' := by
  have c0 := hc.par
  have c3 := hc.prv
  have c4 := hc.nxt
  have c2 := hn.lst
  have c1 := hn.fst
  rw [h0] at c0
  rw [h3] at c3
  rw [h4] at c4
  rw [hl] at c2
  obtain ⟨v, hv⟩ : ∃ v, w.cell? ⟨n, 1, none⟩ = some v := ⟨_, c1⟩
  have fc := hc.free
  have fn := hn.free
  have fin : (((w.setCell ⟨n, 1, none⟩ (.pointer (some ⟨c, 0, none⟩))).setCell ⟨n, 2, none⟩ (.pointer (some ⟨c, 0, none⟩))).setCell ⟨c, 0, none⟩ (.pointer (some ⟨n, 0, none⟩))).setCell ⟨c, 3, none⟩ (.pointer none) =
      World.putN (World.putN w n { rn with fst := some c, lst := some c }) c { rc with par := some n } := by
    rw [← lk_some c, ← lk_some n, ← lk_none, setCell_fst hn, setCell_lst (hn.put _), World.putN_putN,
      setCell_par (hc.other _ (Ne.symm hne)), setCell_prv ((hc.other _ (Ne.symm hne)).put _), World.putN_putN, ← h3]
  have FIN := Lib.hid fin
  clear c1 fin hn hc h0 h3 h4 hl hne
  simp only [lk_none] at c0 c2 c3 c4
  go_enter Tryd.func50, Tryd.ntmps50
  go_wp2
  go_end0
  exact ⟨rfl, FIN.out.symm⟩

set_option maxHeartbeats 400000 in
theorem appendChild_later (n c l : Nat) (rn rc rl : NRec) (w : World) (hn : World.nodeAt w n rn) (hc : World.nodeAt w c rc) (hlr : World.nodeAt w l rl) (hne : n ≠ c) (hln : l ≠ n) (hlc : l ≠ c)
    (hl : rn.lst = some l) (h0 : rc.par = none) (h3 : rc.prv = none) (h4 : rc.nxt = none) :
    Calls Tryd.prog 50 #[.pointer (some ⟨n, 0, none⟩), .pointer (some ⟨c, 0, none⟩)] w fun e w' => e = .returned (.tuple #[]) ∧
      World.putN (World.putN (World.putN w l { rl with nxt := some c }) n { rn with lst := some c }) c { rc with par := some n, prv := some l } = w' := by
  have c0 := hc.par
  have c3 := hc.prv
  have c4 := hc.nxt
  have c2 := hn.lst
  have d4 := hlr.nxt
  rw [h0] at c0
  rw [h3] at c3
  rw [h4] at c4
  rw [hl] at c2
  obtain ⟨v, hv⟩ : ∃ v, w.cell? ⟨l, 4, none⟩ = some v := ⟨_, d4⟩
  have fc := hc.free
  have fn := hn.free
  have fl := hlr.free
  have fin : (((w.setCell ⟨l, 4, none⟩ (.pointer (some ⟨c, 0, none⟩))).setCell ⟨n, 2, none⟩ (.pointer (some ⟨c, 0, none⟩))).setCell ⟨c, 0, none⟩ (.pointer (some ⟨n, 0, none⟩))).setCell ⟨c, 3, none⟩ (.pointer (some ⟨l, 0, none⟩)) =
      World.putN (World.putN (World.putN w l { rl with nxt := some c }) n { rn with lst := some c }) c { rc with par := some n, prv := some l } := by
    rw [← lk_some c, ← lk_some n, ← lk_some l, setCell_nxt hlr, setCell_lst (hn.other _ (Ne.symm hln)),
      setCell_par ((hc.other _ (Ne.symm hlc)).other _ (Ne.symm hne)), setCell_prv (((hc.other _ (Ne.symm hlc)).other _ (Ne.symm hne)).put _), World.putN_putN]
  have FIN := Lib.hid fin
  have hcl : (⟨c, 4, none⟩ : Addr) ≠ ⟨l, 4, none⟩ := by simp [Ne.symm hlc]
  clear d4 fin hn hc hlr h0 h3 h4 hl
  simp only [lk_none, lk_some] at c0 c2 c3 c4
  go_enter Tryd.func50, Tryd.ntmps50
  go_wp2
  go_end0
  exact ⟨rfl, FIN.out.symm⟩

end Go.Proofs.YtphppdbhofeagaaDoor
