/- goquery: Remove. -/
import Derived.Test.YtoleejaabiafcaaSelBase
import Derived.Test.YtoleejaabiafcaaDomAll
import Derived.Test.YtoleejaabiafcaaWoodAll
import Derived.Test.YtoleejaabiafcaaKnot
namespace Go.Proofs.Ytoleejaabiafcaa
open Go.RowKit
set_option linter.unusedVariables false
set_option linter.unusedSimpArgs false

def RemovePost (s B n : Nat) (nb : Nat → Nat) (v : Nat → Value) (lab : Nat → NodeD) (F : Wd) (w : World) (e : Ending) (w' : World) : Prop := e = .returned (.pointer (some ⟨s, 0, none⟩)) ∧ Hid (DomAt B w' n nb v lab F) ∧ Hid (OnlyN n nb w w')

set_option maxRecDepth 100000 in
set_option maxHeartbeats 1000000 in
theorem remove_any {B n : Nat} {w : World} {nb : Nat → Nat} {v : Nat → Value} {lab : Nat → NodeD} {F : Wd} (h : DomAt B w n nb v lab F) (hF : WOk n F) (s : Nat) (sv : Value) (l : List Nat) (S : Nat) (hs : SelAt w s sv (l.map nb) S) (hS : ∀ i, i < n → nb i < S) (hl : ∀ i ∈ l, i < n) (hn : l.length ≤ 200) :
    Calls Try.prog 50 #[.pointer (some ⟨s, 0, none⟩)] w (RemovePost s B n nb v lab (cutsW F l) w) := by
  have hown : w.ownsRow S 84 1 sv l.length (l.map fun y => ptrV (nb y)) := by
    have h1 := hs.own
    unfold OwnPtrs at h1
    rw [List.length_map, List.map_map] at h1
    exact h1
  obtain ⟨a, cap, b, rfl, hcap, hcm, ha, hc, _, _⟩ := own_open hown
  have c0 := hs.nodes
  have hbase : 0 < l.length → S ≤ b := fun h0 => (World.ownsRow.lt hown b (by rw [ha h0]; rfl)).1
  have hll : (l.length : Int) ≤ 200 := by omega
  have HA := Lib.hid ha
  have HC := Lib.hid hc
  have HD := Lib.hid h
  have HF := Lib.hid hF
  have HL := Lib.hid hl
  have HS := Lib.hid (And.intro hS (And.intro hs.base hbase))
  clear h hF hs hS hl ha hc hbase hown
  go_enter Try.func50, Try.ntmps50
  go_wp2
  go_loopw [10] (fun i wr => ∃ k : Nat, k ≤ l.length ∧ i = .int .i64 (k : Int) ∧ Hid (DomAt B wr n nb v lab (cutsW F (l.take k))) ∧ Hid (OnlyN n nb w wr)) (fun i _ => l.length - (intOf i).toNat)
  case atStart => exact ⟨0, by omega, by go_num, HD, Lib.hid (OnlyN.refl _ _ _)⟩
  case round =>
    obtain ⟨k, hk, rfl, HDk, HO⟩ := hrel
    by_cases hlt : k < l.length
    · obtain rfl := HA.out (by omega)
      have hkI : (k : Int) < (l.length : Int) := by omega
      have hbS := HS.out.2.2 (by omega)
      have keep : ∀ (q o : Nat) (z : Value), S ≤ q → w.cell? ⟨q, o, none⟩ = some z → wr.cell? ⟨q, o, none⟩ = some z := fun q o z hq hz =>
        (World.cell?_of_block (HO.out.block q (fun i hi e => by have := HS.out.1 i hi; omega))).trans hz
      have ck := keep b k _ hbS (HC.out k hlt)
      have hx := HL.out _ (getD_mem' (d := 0) hlt)
      have htk := cuts_take (F := F) hlt
      obtain ⟨x, hxx⟩ : ∃ x, l.getD k 0 = x := ⟨_, rfl⟩
      rw [hxx] at ck hx htk
      have hFk := HF.out.cuts (l.take k)
      have cp := (HDk.out.node x hx).par
      cases hu : (cutsW F (l.take k)).up x with
      | none =>
        have cp0 : wr.cell? ⟨nb x, 0, none⟩ = some (.pointer none) := by
          have : (linkR (cutsW F (l.take k)) nb (lab x) (v x) x).par = none := by simp [linkR, hu]
          rw [this] at cp
          exact cp
        have HN := Lib.hid (show DomAt B wr n nb v lab (cutsW F (l.take (k + 1))) by rw [htk, hFk.cut_none hu]; exact HDk.out)
        clear cp htk hFk hxx hu
        go_wp2
        go_roundw
        case rel => exact ⟨k + 1, by omega, by go_num, HN, HO⟩
        case measure => simp [intOf]; omega
      | some p =>
        have cp0 : wr.cell? ⟨nb x, 0, none⟩ = some (.pointer (some ⟨nb p, 0, none⟩)) := by
          have : (linkR (cutsW F (l.take k)) nb (lab x) (v x) x).par = some (nb p) := by simp [linkR, hu]
          rw [this] at cp
          exact cp
        have hrc := removeChild_any HDk.out hFk hu
        rw [← htk] at hrc
        have HRC := Lib.hid hrc
        clear cp htk hFk hxx hu hrc
        go_wp2_with fail
        refine HRC.out.mono ?_
        rintro e w2 ⟨rfl, hd2, ho2⟩
        have HO2 := Lib.hid (HO.out.trans ho2.out)
        clear ho2
        go_wp2
        refine ⟨?rel, ?measure⟩
        case rel => exact ⟨k + 1, by omega, by go_num, hd2, HO2⟩
        case measure => simp [intOf]; omega
    · obtain rfl : k = l.length := by omega
      have hd := HDk.out
      rw [List.take_length] at hd
      have HE := Lib.hid hd
      clear hd
      go_wp2
      go_ret
      exact ⟨rfl, HE, HO⟩

end Go.Proofs.Ytoleejaabiafcaa
