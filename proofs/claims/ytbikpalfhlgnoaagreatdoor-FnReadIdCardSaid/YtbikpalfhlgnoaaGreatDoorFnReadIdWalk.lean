/- The walk of the law FnReadId: it returns true, and what was there is as it was. -/
import Derived.Test.YtbikpalfhlgnoaaGreatDoorReadId
import Derived.Laws.StructEq
namespace Go.Proofs.YtbikpalfhlgnoaaGreatDoor
open Go.RowKit
set_option linter.unusedVariables false
set_option linter.unusedSimpArgs false
namespace lawFnReadId

theorem noId_tl {s : ByteArray} (h : pn (tl s) 0 ByteArray.empty = none) : pn s 1 ByteArray.empty = none := by rw [pn_tl, h]; rfl
theorem id_tl {s out : ByteArray} {k : Nat} (h : pn (tl s) 0 ByteArray.empty = some (out, k)) : pn s 1 ByteArray.empty = some (out, k + 1) := by rw [pn_tl, h]; rfl

set_option maxRecDepth 100000 in
set_option maxHeartbeats 2000000 in
theorem walk {W : World} (s : ByteArray) (hs : s.size ≤ maxLen) : Calls Tryz.prog 3 #[.string s] W (Gives (.bool true) W) := by
  have hs' := hs
  unfold maxLen at hs'
  by_cases q1 : (2147483647 : Int) < (s.size : Int)
  · have g1 : decide ((2147483647 : Int) < (s.size : Int)) = true := by simp [q1]
    have g1n : decide (2147483647 < s.size) = true := by simp; omega
    go_enter Tryz.func3, Tryz.ntmps3
    go_wp2
    go_ret
    exact ⟨rfl, Below.refl _ _⟩
  have g1 : decide ((2147483647 : Int) < (s.size : Int)) = false := by simp [q1]
  have g1n : decide (2147483647 < s.size) = false := by simp; omega
  by_cases q2 : (1000 : Int) < (s.size : Int)
  · have g2 : decide ((1000 : Int) < (s.size : Int)) = true := by simp [q2]
    have g2n : decide (1000 < s.size) = true := by simp; omega
    clear q1 q2
    go_enter Tryz.func3, Tryz.ntmps3
    go_wp2
    go_ret
    exact ⟨rfl, Below.refl _ _⟩
  have g2 : decide ((1000 : Int) < (s.size : Int)) = false := by simp [q2]
  have g2n : decide (1000 < s.size) = false := by simp; omega
  have h1000 : s.size ≤ 1000 := by omega
  clear q1 q2
  go_enter Tryz.func3, Tryz.ntmps3
  go_wp2_with fail
  refine (specReadId_any s W h1000).mono ?_
  rintro e w1 ⟨hb, ⟨hno, rfl⟩ | ⟨h0, h35, k, u, out, rfl, hk, hso, hstop⟩⟩
  · obtain ⟨rd, hrd⟩ : ∃ rd, rdF s 0 = rd := ⟨_, rfl⟩
    rw [hrd]
    unfold selNo
    have hba : Below W.heap.size W (w1.alloc (.cells #[.int .i64 0, .int .i64 0, .string ⟨#[]⟩, .string ⟨#[]⟩, .int .i64 0, .int .i64 0, .int .i64 0, .int .i64 0] 23)) := hb.alloc hb.size _
    have HE := Lib.hid (And.intro hno hba)
    clear hno hba hb hrd
    cases rd
    · go_wp2
      go_ret
      exact ⟨rfl, HE.out.2⟩
    · have HI := Lib.hid (fun w' => implReadId_any s w' (by omega))
      go_wp2_with fail
      refine (HI.out _).mono ?_
      rintro e w2 ⟨hb', hcase⟩
      have hf := HE.out.2.trans (hb'.mono HE.out.2.size)
      have HF := Lib.hid (And.intro hf hf.size)
      clear hb' HI hf
      rcases hcase with ⟨hbad, rfl⟩ | ⟨o, j, h0, h35, ho, hne, hj, rfl⟩
      · clear hbad
        unfold selNo
        go_wp2
        go_ret
        exact ⟨rfl, HF.out.1.alloc HF.out.2 _⟩
      · exfalso
        rcases HE.out.1 with h | h
        · omega
        · exact h h35
  · obtain ⟨sure, hsure⟩ : ∃ z, (!u && rdF (tl s) 0) = z := ⟨_, rfl⟩
    obtain ⟨is, his⟩ : ∃ z, (decide (0 < k) && (nx (tl s) k != 92)) = z := ⟨_, rfl⟩
    rw [hsure, his]
    unfold selId
    have hba : Below W.heap.size W (w1.alloc (.cells #[.int .i64 4, .int .i64 0, .string ⟨#[]⟩, .string out, .int .i64 0, .int .i64 0, .int .i64 0, .int .i64 1] 23)) := hb.alloc hb.size _
    have hoa := objAt_alloc_new w1 #[.int .i64 4, .int .i64 0, .string ⟨#[]⟩, .string out, .int .i64 0, .int .i64 0, .int .i64 0, .int .i64 1] 23
    obtain ⟨wa, hwa⟩ : ∃ wa, w1.alloc (.cells #[.int .i64 4, .int .i64 0, .string ⟨#[]⟩, .string out, .int .i64 0, .int .i64 0, .int .i64 0, .int .i64 1] 23) = wa := ⟨_, rfl⟩
    rw [hwa] at hba hoa
    obtain ⟨R, hR⟩ : ∃ R, w1.heap.size = R := ⟨_, rfl⟩
    rw [hR] at hoa
    have htl := tl_size s
    have hk1 : k ≤ 1000 := by omega
    have HE := Lib.hid (And.intro h0 (And.intro h35 (And.intro hba hoa)))
    have HK := Lib.hid (And.intro hk (And.intro hso (And.intro hstop his)))
    clear h0 h35 hb hba hoa hk hso hstop his htl
    cases sure
    · clear hsure
      go_wp2
      go_ret
      exact ⟨rfl, HE.out.2.2.1⟩
    · have hs2 : u = false ∧ rdF (tl s) 0 = true := by
        cases u
        · exact ⟨rfl, by simpa using hsure⟩
        · simp at hsure
      obtain ⟨rfl, hrd⟩ := hs2
      have hag := name_agree HK.out.2.1 (valid_of hrd) HK.out.1 HK.out.2.2.1
      have HAG := Lib.hid hag
      have HI := Lib.hid (implReadId_any s wa (by omega))
      clear hag hrd hsure
      go_wp2_with fail
      refine HI.out.mono ?_
      rintro e w2 ⟨hb', hcase⟩
      have hf := HE.out.2.2.1.trans (hb'.mono HE.out.2.2.1.size)
      have hoa : World.objAt w2 R _ 23 := World.objAt.below HE.out.2.2.2 hb' (World.objAt.lt HE.out.2.2.2)
      have HF := Lib.hid (And.intro hf hf.size)
      have HOA := Lib.hid hoa
      have k0 : w2.cell? ⟨R, 0, none⟩ = some (.int .i64 4) := World.objAt.cell hoa (i := 0) rfl
      have k1 : w2.cell? ⟨R, 1, none⟩ = some (.int .i64 0) := World.objAt.cell hoa (i := 1) rfl
      have k2 : w2.cell? ⟨R, 2, none⟩ = some (.string ⟨#[]⟩) := World.objAt.cell hoa (i := 2) rfl
      have k3 : w2.cell? ⟨R, 3, none⟩ = some (.string out) := World.objAt.cell hoa (i := 3) rfl
      have k4 : w2.cell? ⟨R, 4, none⟩ = some (.int .i64 0) := World.objAt.cell hoa (i := 4) rfl
      have k5 : w2.cell? ⟨R, 5, none⟩ = some (.int .i64 0) := World.objAt.cell hoa (i := 5) rfl
      have k6 : w2.cell? ⟨R, 6, none⟩ = some (.int .i64 0) := World.objAt.cell hoa (i := 6) rfl
      have k7 : w2.cell? ⟨R, 7, none⟩ = some (.int .i64 1) := World.objAt.cell hoa (i := 7) rfl
      have hRl : R < w2.heap.size := World.objAt.lt hoa
      clear hb' HI hwa hf hoa
      rcases hcase with ⟨hbad, rfl⟩ | ⟨o, j, h0, h35, ho, hne, hj, rfl⟩
      · have hisf : is = false := by
          rcases HAG.out with ⟨h92, hnone⟩ | ⟨h92, hsome, hpos, hzero⟩
          · rw [← HK.out.2.2.2, h92]; simp
          · rw [← HK.out.2.2.2]
            by_cases hk0 : 0 < k
            · exfalso
              have hpn := id_tl hsome
              rcases hbad with h | h | h | ⟨j, h⟩
              · have := HE.out.1; omega
              · exact h HE.out.2.1
              · rw [hpn] at h; cases h
              · rw [hpn] at h
                simp at h
                exact hpos hk0 h.1
            · simp [hk0]
        subst hisf
        clear hbad
        unfold selNo
        go_wp2
        go_ret
        exact ⟨rfl, HF.out.1.alloc HF.out.2 _⟩
      · have hyes : is = true ∧ o = out ∧ j = k + 1 := by
          rcases HAG.out with ⟨h92, hnone⟩ | ⟨h92, hsome, hpos, hzero⟩
          · exfalso
            rw [noId_tl hnone] at ho
            cases ho
          · have hpn := id_tl hsome
            rw [hpn] at ho
            simp at ho
            refine ⟨?_, ho.1.symm, ho.2.symm⟩
            rw [← HK.out.2.2.2]
            by_cases hk0 : 0 < k
            · simp [hk0, h92]
            · exact absurd (ho.1.symm.trans (hzero (by omega))) hne
        obtain ⟨rfl, rfl, rfl⟩ := hyes
        have hcast : ((k + 1 : Nat) : Int) = (k : Int) + 1 := by omega
        rw [hcast]
        clear h0 h35 ho hne hj hcast
        unfold selId
        go_wp2
        go_ret
        exact ⟨rfl, HF.out.1.alloc HF.out.2 _⟩

end lawFnReadId
end Go.Proofs.YtbikpalfhlgnoaaGreatDoor
