/- The statement of FnRenderedParts: for every input the law returns true, and each argument reads as it did. (The frame is printed by gen_frame.py.) -/
import Derived.Test.YtphppdbhofeagaaDoorFnRenderedPartsWalk
import Derived.Test.YtphppdbhofeagaaDoorViewsAll
import Derived.Test.YtphppdbhofeagaaDoorCards
import Derived.Test.YtphppdbhofeagaaDoorTie
import Derived.LaidMore
import Derived.Lay
import Derived.Stop.Joined
import Derived.SevenTiedAt
import Derived.Test.YtphppdbhofeagaaDoorVoidTab
namespace Go.Proofs.YtphppdbhofeagaaDoor.lawFnRenderedParts
open Go.ChangeShapes Go.WideShapes Go.ChangeAt Go.RowKit
open Go.ChangeMaps (open_string shut_string)
set_option linter.unusedVariables false
set_option linter.unusedSimpArgs false

set_option maxRecDepth 100000 in
theorem wit_met (os : Os) : laidMet Tryd.prog Rows.fnRenderedPartsRow.laid ((World.doorLaid Tryd.prog 118 os).layVars Tryd.prog (Rows.fnRenderedPartsRow.laid.filter fun x => ["unicode/utf8.first"].contains x.1)) :=
  laidMet_layVars (w0 := World.doorLaid Tryd.prog 118 os) ["unicode/utf8.first"] [1, 2, 3, 4, 5, 6, 7, 8, 9, 10] rfl (by kernel_rfl) (by kernel_rfl)
    (LaidIn.of_run [1, 2, 3, 4, 5, 6, 7, 8, 9, 10] 8 (by kernel_rfl) (by kernel_rfl) (by kernel_rfl) (by kernel_rfl))

set_option maxRecDepth 100000 in
theorem door_met (os : Os) (args : Array Value) : laidMetH Tryd.prog Rows.fnRenderedPartsRow.laid (((World.doorLaid Tryd.prog 118 os).layVars Tryd.prog (Rows.fnRenderedPartsRow.laid.filter fun x => ["unicode/utf8.first"].contains x.1)).forCall (fun _ _ => 0) ⟨#[], args, []⟩).memory := by
  rw [MakeChecks.laidMetH_plain _ _ _ (by kernel_rfl)]
  exact (wit_met os).of_heap (by simp [World.memory, World.forCall, Input.heap])

set_option maxRecDepth 100000 in
theorem lifted (os : Os) (started : os.Started) (H : Type) (enc : TypeId × Value → H) :
    ReturnsInHanded {} Tryd.checked os 3 .any (fun w args => (Rows.fnRenderedPartsSpec.pre enc Tryd.prog Tryd.f3 [] false w args ∧ laidMetH Tryd.prog Rows.fnRenderedPartsRow.laid w) ∧ sizedMet enc Tryd.prog Tryd.f3 (OpenSpec.ofChange Rows.fnRenderedPartsSpec) false w args)
      (Rows.fnRenderedPartsSpec.post enc Tryd.prog Tryd.f3 false true false false) := by
  refine returnsInHanded_of_change_and (C := Tryd.checked) (X := fun w _ => laidMetH Tryd.prog Rows.fnRenderedPartsRow.laid w) (fun _ _ _ hh h => h.of_heap hh) Tryd.own started (by kernel_rfl) Tryd.func3
    (ChangeSpec.witness_shaped (enc := enc) (C := Tryd.checked) (os := os) (X := fun w _ => laidMetH Tryd.prog Rows.fnRenderedPartsRow.laid w) false ((World.doorLaid Tryd.prog 118 os).layVars Tryd.prog (Rows.fnRenderedPartsRow.laid.filter fun x => ["unicode/utf8.first"].contains x.1)) #[.slice none 0 0, .int .i64 0] 8 rfl (World.shaped_of_ZipB (by kernel_rfl) (by kernel_rfl)) (by kernel_rfl) (by kernel_rfl) (by kernel_rfl) (door_met os _)) ?_
  intro W base args ds gs before hval0 hW _ _ hL _
  have hval : ∀ (j : Nat) t v, Tryd.f3.params[j]? = some t → args[j]? = some v → Value.okWide Tryd.prog W .any base t v := hval0
  have hW' := hW
  obtain ⟨p, q, hA0, hV, rfl, hfz, hnd⟩ := hW
  have hA : DataW.TrodAll enc Tryd.prog W 0 (fun _ => true) true Tryd.f3.params.toList args.toList ds p := hA0
  rw [Tryd.params3] at hA hval
  obtain ⟨v0, vs0, d0, ds0, p0, q0, hargs, rfl, rfl, h0, r0⟩ := trodAll_cons hA
  obtain ⟨v1, vs1, d1, ds1, p1, q1, rfl, rfl, rfl, h1, r1⟩ := trodAll_cons r0
  obtain ⟨rfl, rfl, rfl⟩ := trodAll_nil r1
  obtain rfl : args = #[v0, v1] := by cases args; simp_all
  have hV0 := hV
  obtain ⟨ga, gta, gca, gfa, gda, gpa, gb, gtb, gcb, gfb, gdb, gpb, rfl, _, _, _, _, _, _, _, _, _⟩ := trodVars_two hV0
  obtain ⟨a0, len0, cap0, rfl⟩ := okWide_slice Tryd.underlying22 (hval 0 22 v0 rfl rfl)
  have k0 := h0
  have lt0 : ∀ x ∈ p0, x.block < W.heap.size := by obtain ⟨m, hm⟩ := k0; exact DataW.trod_lt m _ _ _ hm
  obtain ⟨z0, w0⟩ := nodes_of h0
  obtain ⟨a1, rfl, rfl, rfl, w1⟩ := open_int Tryd.underlying3 (hval 1 3 v1 rfl rfl) h1
  clear hA0 hval0
  refine (walk (W := W) (void_of hL) (abort_of hL) (tabs_of hL) a0 len0 cap0 z0 w0 a1 w1).mono fun e W' ⟨he, bel⟩ => ?_
  subst he
  exact ⟨_, rfl, _, _, _, [], _, _, hW', trodAll_mk1 (shut_bool Tryd.underlying4 _), (trodAll_cons_mk (Below.trod Tryd.laidOut (by kernel_rfl) (of_decide_eq_true (by kernel_rfl)) k0 bel lt0) (trodAll_cons_mk (shut_int Tryd.underlying3 w1) trodAll_mk0)), vars_stay hV bel, bel.frame _, fun h => by cases h⟩

theorem over : Rows.fnRenderedPartsRow.holds Tryd.pinned (OpenSpec.ofChange Rows.fnRenderedPartsSpec) :=
  OpenClaim.holds_of_wide 3 Tryd.f3 rfl rfl rfl rfl rfl rfl rfl ⟨rfl, rfl, rfl, rfl, rfl⟩ rfl rfl rfl rfl rfl (by kernel_rfl) Tryd.func3 (by kernel_rfl)
    (of_decide_eq_true (by kernel_rfl)) (by unfold Func.isWrapper; first | (rw [if_pos (by decide +kernel)]; kernel_rfl) | (rw [if_neg (by decide +kernel)]; exact ⟨rfl, rfl⟩))
    (fun os started H enc _ => lifted os started H enc)

/-- The statement: the tied card. -/
theorem proved : Rows.FnRenderedPartsCardSaid :=
  Claim7.holds_tied_plain_at .later [] Rows.fnRenderedPartsCard.laidKinds true Rows.fnRenderedPartsCard.stood.harness Rows.fnRenderedPartsCard.stood.looks
    over (fun _ h => by cases h) (by kernel_rfl) (fun _ h => by cases h) fnRenderedParts_row_tie rfl ⟨rfl, rfl⟩ (by kernel_rfl) rfl
    (fun f fn hf hfn => by
      obtain rfl : f = 3 := Option.some.inj ((show Tryd.prog.funcNamed Rows.fnRenderedPartsRow.func = some 3 by kernel_rfl).symm.trans hf) |>.symm
      obtain rfl : fn = Tryd.f3 := (Option.some.inj (Tryd.func3.symm.trans hfn)).symm
      exact ⟨by kernel_rfl, fun j t ht => by
        rw [Tryd.params3] at ht
        have hm : t ∈ [22, 3] := by simpa using Array.mem_of_getElem? ht
        have hall : ([22, 3].all fun u => !Tryd.prog.wantsStandIn u) = true := by kernel_rfl
        exact (show Tryd.prog.wantsStandIn t = false by simpa using List.all_eq_true.1 hall t hm)⟩)
    (by kernel_rfl)
#print axioms proved
end Go.Proofs.YtphppdbhofeagaaDoor.lawFnRenderedParts
