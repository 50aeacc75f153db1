/- The eight steps to relatives, program and reference. -/
import Derived.Test.YtphppdbhofeagaaGreatWalked
import Derived.Test.YtphppdbhofeagaaGreatRelatedG
import Derived.Test.YtphppdbhofeagaaGreatRelMore
namespace Go.Proofs.YtphppdbhofeagaaGreat
open Go.RowKit
set_option linter.unusedVariables false
set_option linter.unusedSimpArgs false

structure StepOk (op : Int) (F G : Nat → List Nat) (a : Option Addr) (len cap : Nat) (ts : List NodeD) : Prop where
  one : op = 20 ∨ op = 22 ∨ op = 23 ∨ op = 25 ∨ op = 26 ∨ op = 28 ∨ op = 29 ∨ op = 31
  kin : KinOf op F ts len
  rel : ∀ (x : Nat) (w' : World), Nodes w' a len ts → x < len → Calls Tryz.prog 22 #[.slice a len cap, .int .i64 (x : Int), .agg #[.int .i64 op, .string ⟨#[]⟩, .slice none 0 0, .int .i64 0, .int .i64 0]] w' (RelRow (G x) w')
  mem : ∀ x, x < len → 0 < x → ∀ y, y ∈ F x ↔ y ∈ G x
  good : ∀ x, x < len → GoodL len (F x)
  few : ∀ x, x < len → (G x).length ≤ 400

def opOf : Nat → Int
  | 0 => 20 | 1 => 22 | 2 => 23 | 3 => 25 | 4 => 26 | 5 => 28 | 6 => 29 | _ => 31

theorem sib_mem' {ts : List NodeD} {len x p y : Nat} (hx : par (sz ts) x = some p) (hxl : x < len) : y ∈ sibL ts len x ↔ y ∈ prevL ts x ++ nextL ts len x := by
  rw [sibL_of hx, prevL_of hx, nextL_of hx, List.mem_append, List.mem_reverse, lb_mem_iff, rb_mem, rb_mem]
  have hpx := (par_some hx).1
  unfold elSkip elKid
  constructor
  · rintro ⟨h1, h2, h3⟩
    simp at h3
    rcases Nat.lt_trichotomy y x with h | h | h
    · exact .inl ⟨h, by simp [h3]⟩
    · exact absurd h h3.2.2
    · exact .inr ⟨by omega, by omega, by simp [h3]⟩
  · rintro (⟨h1, h2⟩ | ⟨h1, h2, h3⟩)
    · simp at h2
      have := (par_some h2.1).1
      exact ⟨by omega, by omega, by simp [h2]; omega⟩
    · simp at h3
      exact ⟨by omega, by omega, by simp [h3]; omega⟩

theorem parEl_good {ts : List NodeD} {len x : Nat} (hx : x < len) : GoodL len ((parEl ts x).toList) := by
  cases h : parEl ts x with
  | none => exact ⟨by simp, fun i j hi => by simp at hi⟩
  | some p =>
    have hp : p < len := by
      unfold parEl at h
      cases hq : par (sz ts) x with
      | none => rw [hq] at h; simp at h
      | some q =>
        rw [hq] at h
        simp only at h
        have := (par_some hq).1
        split at h
        · simp at h; omega
        · simp at h
    exact ⟨by simpa using hp, fun i j hi hj _ => by simp at hi hj; omega⟩

theorem step_ok (a : Option Addr) (len cap : Nat) (ts : List NodeD) (hR : RightT ts len) : ∀ r, r < 8 → ∃ F G, StepOk (opOf r) F G a len cap ts := by
  have hlen := hR.le
  intro r hr
  match r, hr with
  | 0, _ => exact ⟨kidL ts len, fun x => kidL ts len x, by simp [opOf], ⟨fun s a n c w => bySet_20 s a n c w, fun B B' s v l w bl nb vv hs hF hin hpos hn => kin_20 s v l w bl len nb vv ts hs hF hR hin hpos hn⟩, fun x w' hN hx => relOf_20 a len cap ts x w' hR hN hx, fun _ _ _ _ => Iff.rfl, fun x hx => kidL_good ts len x hx, fun x hx => by have := (kidL_good ts len x hx).le; omega⟩
  | 1, _ => exact ⟨fun x => (parEl ts x).toList, fun x => (parEl ts x).toList, by simp [opOf], ⟨fun s a n c w => bySet_22 s a n c w, fun B B' s v l w bl nb vv hs hF hin hpos hn => kin_22 s v l w bl len nb vv ts hs hF hR hin hpos hn⟩, fun x w' hN hx => relOf_22 a len cap ts x w' hR hN hx, fun _ _ _ _ => Iff.rfl, fun x hx => parEl_good hx, fun x hx => by have := (parEl_good (ts := ts) hx).le; omega⟩
  | 2, _ => exact ⟨ancL ts, fun x => ancL ts x, by simp [opOf], ⟨fun s a n c w => bySet_23 s a n c w, fun B B' s v l w bl nb vv hs hF hin hpos hn => kin_23 s v l w bl len nb vv ts hs hF hR hin hpos hn⟩, fun x w' hN hx => relOf_23 a len cap ts x w' hR hN hx, fun _ _ _ _ => Iff.rfl, fun x hx => ancL_good ts len x hx, fun x hx => by have := (ancL_good ts len x hx).le; omega⟩
  | 3, _ => exact ⟨fn_1 ts len, fun x => (nextL ts len x).take 1, by simp [opOf], ⟨fun s a n c w => bySet_25 s a n c w, fun B B' s v l w bl nb vv hs hF hin hpos hn => kin_25 s v l w bl len nb vv ts hs hF hR hin hpos hn⟩, fun x w' hN hx => relOf_25 a len cap ts x w' hR hN hx, fun _ _ _ _ => Iff.rfl, fun x hx => fn_1_good ts len x hx, fun x hx => by have := (fn_1_good ts len x hx).le; unfold fn_1 at this; omega⟩
  | 4, _ => exact ⟨fn_2 ts len, fun x => nextL ts len x, by simp [opOf], ⟨fun s a n c w => bySet_26 s a n c w, fun B B' s v l w bl nb vv hs hF hin hpos hn => kin_26 s v l w bl len nb vv ts hs hF hR hin hpos hn⟩, fun x w' hN hx => relOf_26 a len cap ts x w' hR hN hx, fun _ _ _ _ => Iff.rfl, fun x hx => fn_2_good ts len x hx, fun x hx => by have := (nextL_good ts len x hx).le; omega⟩
  | 5, _ => exact ⟨fn_m1 ts len, fun x => (prevL ts x).take 1, by simp [opOf], ⟨fun s a n c w => bySet_28 s a n c w, fun B B' s v l w bl nb vv hs hF hin hpos hn => kin_28 s v l w bl len nb vv ts hs hF hR hin hpos hn⟩, fun x w' hN hx => relOf_28 a len cap ts x w' hR hN hx, fun _ _ _ _ => Iff.rfl, fun x hx => fn_m1_good ts len x hx, fun x hx => by have := (fn_m1_good ts len x hx).le; unfold fn_m1 at this; omega⟩
  | 6, _ => exact ⟨fn_m2 ts len, fun x => prevL ts x, by simp [opOf], ⟨fun s a n c w => bySet_29 s a n c w, fun B B' s v l w bl nb vv hs hF hin hpos hn => kin_29 s v l w bl len nb vv ts hs hF hR hin hpos hn⟩, fun x w' hN hx => relOf_29 a len cap ts x w' hR hN hx, fun _ _ _ _ => Iff.rfl, fun x hx => fn_m2_good ts len x hx, fun x hx => by have := (prevL_good ts len x hx).le; omega⟩
  | 7, _ => exact ⟨fn_0 ts len, fun x => prevL ts x ++ nextL ts len x, by simp [opOf], ⟨fun s a n c w => bySet_31 s a n c w, fun B B' s v l w bl nb vv hs hF hin hpos hn => kin_31 s v l w bl len nb vv ts hs hF hR hin hpos hn⟩, fun x w' hN hx => relOf_31 a len cap ts x w' hR hN hx, fun x hx h0 y => by
      obtain ⟨p, hp⟩ := par_is hR.root hx h0
      exact sib_mem' hp hx, fun x hx => fn_0_good ts len x hx, fun x hx => by
      have h1 := (prevL_good ts len x hx).le
      have h2 := (nextL_good ts len x hx).le
      rw [List.length_append]
      omega⟩

end Go.Proofs.YtphppdbhofeagaaGreat
