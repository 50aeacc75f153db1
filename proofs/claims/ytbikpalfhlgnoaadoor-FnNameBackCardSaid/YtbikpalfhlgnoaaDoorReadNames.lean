/- impl.ReadName: what the function pn says. -/
import Derived.Test.YtbikpalfhlgnoaaDoorParseEscape
namespace Go.Proofs.YtbikpalfhlgnoaaDoor
open Go.RowKit
set_option linter.unusedVariables false
set_option linter.unusedSimpArgs false

def ReadNamePost (s : ByteArray) (w : World) (e : Ending) (w' : World) : Prop :=
  Below w.heap.size w w' ∧ (((pn s 0 ByteArray.empty = none ∨ ∃ j, pn s 0 ByteArray.empty = some (ByteArray.empty, j)) ∧ e = .returned (.tuple #[.string ByteArray.empty, .int .i64 0, .bool false])) ∨
    ∃ out j, pn s 0 ByteArray.empty = some (out, j) ∧ out ≠ ByteArray.empty ∧ j ≤ s.size ∧ e = .returned (.tuple #[.string out, .int .i64 (j : Int), .bool true]))

def CasNamePost (s : ByteArray) (w : World) (e : Ending) (w' : World) : Prop :=
  Below w.heap.size w w' ∧ (((pn s 0 ByteArray.empty = none ∨ ∃ j, pn s 0 ByteArray.empty = some (ByteArray.empty, j)) ∧ ∃ v k t q, e = .returned (.tuple #[v, .int .i64 k, .iface t q])) ∨
    ∃ out j, pn s 0 ByteArray.empty = some (out, j) ∧ out ≠ ByteArray.empty ∧ j ≤ s.size ∧ e = .returned (.tuple #[.string out, .int .i64 (j : Int), .nilIface]))

set_option maxRecDepth 100000 in
set_option maxHeartbeats 1000000 in
theorem casName_any (s : ByteArray) (w : World) (hs : s.size ≤ 4000) : Calls Tryd.prog 27 #[.string s] w (CasNamePost s w) := by
  have hb0 : Below w.heap.size w (w.alloc (.cells #[.string s, .int .i64 0, .int .i64 0, .bool false] 51)) := (Below.refl _ _).alloc (Nat.le_refl _) _
  have hr0 := prs_new w s
  obtain ⟨w0, hw0⟩ : ∃ w0, w.alloc (.cells #[.string s, .int .i64 0, .int .i64 0, .bool false] 51) = w0 := ⟨_, rfl⟩
  rw [hw0] at hb0 hr0
  have HP := Lib.hid (parseName_of s w.heap.size 0 w0 hs (Nat.zero_le _) hr0 (parseEscape_any s w.heap.size hs))
  have HB := Lib.hid hb0
  clear hb0 hr0
  go_enter Tryd.func27, Tryd.ntmps27
  go_wp2_with fail
  refine HP.out.mono ?_
  rintro e w1 ⟨hb, ⟨hf, ⟨v, t, q, rfl⟩, k, hr⟩ | ⟨out, j, ho, hne, hj, rfl, hr⟩⟩
  · have c1 : w1.cell? ⟨w.heap.size, 1, none⟩ = some (.int .i64 (k : Int)) := hr.cell (i := 1) rfl
    have HE := Lib.hid (And.intro hf (HB.out.trans hb))
    clear hf hb hr
    go_wp2
    go_quiet (fail)
    go_wp2
    go_ret3
    exact ⟨below_drewN HE.out.2 _, .inl ⟨HE.out.1, _, _, _, _, rfl⟩⟩
  · have c1 : w1.cell? ⟨w.heap.size, 1, none⟩ = some (.int .i64 (j : Int)) := hr.cell (i := 1) rfl
    have HE := Lib.hid (And.intro ho (And.intro hne (HB.out.trans hb)))
    clear ho hne hb hr
    go_wp2
    go_quiet (fail)
    go_wp2
    go_ret3
    exact ⟨below_drewN HE.out.2.2 _, .inr ⟨out, j, HE.out.1, HE.out.2.1, hj, rfl⟩⟩

set_option maxRecDepth 100000 in
set_option maxHeartbeats 1000000 in
theorem implName_any (s : ByteArray) (w : World) (hs : s.size ≤ 4000) : Calls Tryd.prog 13 #[.string s] w (ReadNamePost s w) := by
  have HP := Lib.hid (casName_any s w hs)
  go_enter Tryd.func13, Tryd.ntmps13
  go_wp2_with fail
  refine HP.out.mono ?_
  rintro e w1 ⟨hb, ⟨hf, v, k, t, q, rfl⟩ | ⟨out, j, ho, hne, hj, rfl⟩⟩
  · have HE := Lib.hid (And.intro hf hb)
    clear hf hb
    go_wp2
    go_ret3
    exact ⟨HE.out.2, .inl ⟨HE.out.1, rfl⟩⟩
  · have HE := Lib.hid (And.intro ho (And.intro hne hb))
    clear ho hne hb
    go_wp2
    go_ret3
    exact ⟨HE.out.2.2, .inr ⟨out, j, HE.out.1, HE.out.2.1, hj, rfl⟩⟩

end Go.Proofs.YtbikpalfhlgnoaaDoor
