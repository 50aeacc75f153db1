/- winnowFunction; the answers of a list. -/
import Derived.Test.YtobnglgnoflbnaaGrep
namespace Go.Proofs.Ytobnglgnoflbnaa
open Go.RowKit
set_option linter.unusedVariables false
set_option linter.unusedSimpArgs false

/-- Bools behind a slice's address. -/
def Bools (w : World) (a : Option Addr) (n : Nat) (bs : List Bool) : Prop := Row w a n (bs.map .bool)

theorem Bools.below {w w' : World} {a : Option Addr} {n : Nat} {bs : List Bool} (h : Bools w a n bs) (hb : Below w.heap.size w w') : Bools w' a n bs := Row.below h hb

theorem Bools.open {w : World} {a : Option Addr} {n : Nat} {bs : List Bool} (h : Bools w a n bs) : bs.length = n ∧ n ≤ 9223372036854775807 ∧ ∃ b off, (0 < n → a = some ⟨b, off, none⟩) ∧ ∀ i, i < n → w.cell? ⟨b, off + i, none⟩ = some (.bool (bs.getD i false)) := by
  obtain ⟨h1, h2, h3⟩ := h
  have hl : bs.length = n := by simpa using h1
  refine ⟨hl, h2, ?_⟩
  by_cases h0 : 0 < n
  · obtain ⟨b, off, rfl, hc⟩ := h3 h0
    refine ⟨b, off, fun _ => rfl, fun i hi => ?_⟩
    rw [hc i hi]
    have : i < bs.length := by omega
    simp [List.getD, this]
  · exact ⟨0, 0, fun h => absurd h h0, fun i hi => by omega⟩

set_option maxRecDepth 100000 in
theorem yes_any (a : Option Addr) (n cap : Nat) (bs : List Bool) (k : Nat) (w : World) (h : Bools w a n bs) : Calls Try.prog 71 #[.slice a n cap, .int .i64 (k : Int)] w (BoolPost (bs.getD k false) w) := by
  obtain ⟨hl, hm, b, off, ha, hc⟩ := h.open
  by_cases hlt : k < n
  · obtain rfl := ha (by omega)
    have ck := hc k hlt
    have hI : (k : Int) < (n : Int) := by omega
    have g : decide ((k : Int) < (n : Int)) = true := decide_eq_true hI
    obtain ⟨x, hx⟩ : ∃ x, bs.getD k false = x := ⟨_, rfl⟩
    rw [hx] at ck ⊢
    clear h hl ha hc hx
    go_enter Try.func71, Try.ntmps71
    go_wp2
    go_ret
    exact ⟨rfl, rfl⟩
  · have g : decide ((k : Int) < (n : Int)) = false := by simp; omega
    have hx : bs.getD k false = false := by rw [List.getD_eq_getElem?_getD, List.getElem?_eq_none (by omega)]; rfl
    rw [hx]
    clear h hl ha hc hx
    go_enter Try.func71, Try.ntmps71
    go_wp2
    go_ret
    exact ⟨rfl, rfl⟩

set_option maxRecDepth 100000 in
set_option maxHeartbeats 1000000 in
/-- winnowFunction's own function. -/
theorem winnowCloF_any (px : Value) (b1 b2 k s' : Nat) (x keep : Bool) (w : World) (c1 : w.cell? ⟨b1, 0, none⟩ = some (.func (.func 70) #[] #[px])) (c2 : w.cell? ⟨b2, 0, none⟩ = some (.bool keep))
    (hf : ∀ q, Calls Try.prog 70 #[.int .i64 (k : Int), .pointer (some ⟨s', 0, none⟩), px] (w.drewN q) (BoolPost x (w.drewN q))) :
    Calls Try.prog 143 #[.int .i64 (k : Int), .pointer (some ⟨s', 0, none⟩), .pointer (some ⟨b1, 0, none⟩), .pointer (some ⟨b2, 0, none⟩)] w (BoolPostB (x == keep) w) := by
  have hf' : ∀ q, Calls Try.prog 70 #[.int .i64 (k : Int), .pointer (some ⟨s', 0, none⟩), px] (w.drewN q) (fun e w' => e = .returned (.bool x) ∧ w' = w.drewN q) := fun q => (hf q).mono (fun _ _ h => ⟨h.1, h.2.symm⟩)
  have HF := Lib.hid hf'
  clear hf hf'
  go_enter Try.func143, Try.ntmps143
  go_wp2_with fail
  go_quiet (exact Calls.quiet_of_same (HF.out _))
  go_wp2
  go_ret
  exact ⟨rfl, below_drewN (Below.refl _ _) _⟩

set_option maxRecDepth 100000 in
set_option maxHeartbeats 1000000 in
theorem winnowF_any {B : Nat} (s : Nat) (v : Value) (l : List Nat) (px : Value) (P : Nat → Bool) (keep : Bool) (w : World) (hs : SelAt w s v l B) (hn : l.length ≤ 200)
    (hf : ∀ k, k < l.length → ∀ w' : World, Below w.heap.size w w' → ∀ s' : Nat, Calls Try.prog 70 #[.int .i64 (k : Int), .pointer (some ⟨s', 0, none⟩), px] w' (BoolPost (P k) w')) :
    Calls Try.prog 110 #[.pointer (some ⟨s, 0, none⟩), .func (.func 70) #[] #[px], .bool keep] w (OwnPtrsPost (kept (fun k => P k == keep) l l.length) w) := by
  have hb2 : Below w.heap.size w ((w.alloc (.cells #[.func (.func 70) #[] #[px]] 100)).alloc (.cells #[.bool keep] 4)) := ((Below.refl _ _).alloc (Nat.le_refl _) _).alloc (by simp) _
  have hgrep := grep_any (B := B) s v l (.pointer (some ⟨w.heap.size, 0, none⟩)) (.pointer (some ⟨w.heap.size + 1, 0, none⟩)) (fun k => P k == keep) _ (hs.below hb2) hn (fun k hk w' hb' s' => by
    have h1 : ((w.alloc (.cells #[.func (.func 70) #[] #[px]] 100)).alloc (.cells #[.bool keep] 4)).cell? ⟨w.heap.size, 0, none⟩ = some (.func (.func 70) #[] #[px]) := cell_alloc_old (cell_alloc_new' _ _ _ rfl rfl) _
    have h2 : ((w.alloc (.cells #[.func (.func 70) #[] #[px]] 100)).alloc (.cells #[.bool keep] 4)).cell? ⟨w.heap.size + 1, 0, none⟩ = some (.bool keep) := cell_alloc_new' _ _ _ (by simp) rfl
    exact winnowCloF_any px _ _ k s' (P k) keep w' (cell_below hb' h1) (cell_below hb' h2) (fun q => hf k hk _ (below_drewN (hb2.trans (hb'.mono hb2.size)) q) s'))
  have HG := Lib.hid hgrep
  have HB := Lib.hid hb2
  clear hgrep hb2 hf hs
  have hmf : ∀ (fn : Fn) (first cap : Array Value) (w : World), (Instr.makeFunc fn first cap).run Try.prog w = .ok (.func fn first cap) w := fun _ _ _ _ => rfl
  go_enter Try.func110, Try.ntmps110
  go_wp2_with fail
  refine HG.out.mono ?_
  rintro e w1 ⟨v', rfl, ho, hb⟩
  have hfin := Lib.hid (HB.out.trans (hb.out.mono HB.out.size))
  have hown := Lib.hid (ownsRow_base ho.out HB.out.size)
  clear HG ho hb
  go_wp2
  go_ret
  exact ⟨v', rfl, hown, hfin⟩

set_option maxRecDepth 100000 in
set_option maxHeartbeats 1000000 in
/-- winnowFunction's own function. -/
theorem winnowCloN_any (px : Value) (b1 b2 k s' : Nat) (x keep : Bool) (w : World) (c1 : w.cell? ⟨b1, 0, none⟩ = some (.func (.func 73) #[] #[px])) (c2 : w.cell? ⟨b2, 0, none⟩ = some (.bool keep))
    (hf : ∀ q, Calls Try.prog 73 #[.int .i64 (k : Int), .pointer (some ⟨s', 0, none⟩), px] (w.drewN q) (BoolPost x (w.drewN q))) :
    Calls Try.prog 143 #[.int .i64 (k : Int), .pointer (some ⟨s', 0, none⟩), .pointer (some ⟨b1, 0, none⟩), .pointer (some ⟨b2, 0, none⟩)] w (BoolPostB (x == keep) w) := by
  have hf' : ∀ q, Calls Try.prog 73 #[.int .i64 (k : Int), .pointer (some ⟨s', 0, none⟩), px] (w.drewN q) (fun e w' => e = .returned (.bool x) ∧ w' = w.drewN q) := fun q => (hf q).mono (fun _ _ h => ⟨h.1, h.2.symm⟩)
  have HF := Lib.hid hf'
  clear hf hf'
  go_enter Try.func143, Try.ntmps143
  go_wp2_with fail
  go_quiet (exact Calls.quiet_of_same (HF.out _))
  go_wp2
  go_ret
  exact ⟨rfl, below_drewN (Below.refl _ _) _⟩

set_option maxRecDepth 100000 in
set_option maxHeartbeats 1000000 in
theorem winnowN_any {B : Nat} (s : Nat) (v : Value) (l : List Nat) (px : Value) (P : Nat → Bool) (keep : Bool) (w : World) (hs : SelAt w s v l B) (hn : l.length ≤ 200)
    (hf : ∀ k, k < l.length → ∀ w' : World, Below w.heap.size w w' → ∀ s' : Nat, Calls Try.prog 73 #[.int .i64 (k : Int), .pointer (some ⟨s', 0, none⟩), px] w' (BoolPost (P k) w')) :
    Calls Try.prog 110 #[.pointer (some ⟨s, 0, none⟩), .func (.func 73) #[] #[px], .bool keep] w (OwnPtrsPost (kept (fun k => P k == keep) l l.length) w) := by
  have hb2 : Below w.heap.size w ((w.alloc (.cells #[.func (.func 73) #[] #[px]] 100)).alloc (.cells #[.bool keep] 4)) := ((Below.refl _ _).alloc (Nat.le_refl _) _).alloc (by simp) _
  have hgrep := grep_any (B := B) s v l (.pointer (some ⟨w.heap.size, 0, none⟩)) (.pointer (some ⟨w.heap.size + 1, 0, none⟩)) (fun k => P k == keep) _ (hs.below hb2) hn (fun k hk w' hb' s' => by
    have h1 : ((w.alloc (.cells #[.func (.func 73) #[] #[px]] 100)).alloc (.cells #[.bool keep] 4)).cell? ⟨w.heap.size, 0, none⟩ = some (.func (.func 73) #[] #[px]) := cell_alloc_old (cell_alloc_new' _ _ _ rfl rfl) _
    have h2 : ((w.alloc (.cells #[.func (.func 73) #[] #[px]] 100)).alloc (.cells #[.bool keep] 4)).cell? ⟨w.heap.size + 1, 0, none⟩ = some (.bool keep) := cell_alloc_new' _ _ _ (by simp) rfl
    exact winnowCloN_any px _ _ k s' (P k) keep w' (cell_below hb' h1) (cell_below hb' h2) (fun q => hf k hk _ (below_drewN (hb2.trans (hb'.mono hb2.size)) q) s'))
  have HG := Lib.hid hgrep
  have HB := Lib.hid hb2
  clear hgrep hb2 hf hs
  have hmf : ∀ (fn : Fn) (first cap : Array Value) (w : World), (Instr.makeFunc fn first cap).run Try.prog w = .ok (.func fn first cap) w := fun _ _ _ _ => rfl
  go_enter Try.func110, Try.ntmps110
  go_wp2_with fail
  refine HG.out.mono ?_
  rintro e w1 ⟨v', rfl, ho, hb⟩
  have hfin := Lib.hid (HB.out.trans (hb.out.mono HB.out.size))
  have hown := Lib.hid (ownsRow_base ho.out HB.out.size)
  clear HG ho hb
  go_wp2
  go_ret
  exact ⟨v', rfl, hown, hfin⟩

end Go.Proofs.Ytobnglgnoflbnaa
