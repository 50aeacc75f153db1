/- Chains of steps: what each step selects. Plain: no program. -/
import Derived.Test.YtphppdbhofeagaaGreatSibEnd
import Derived.Test.YtphppdbhofeagaaGreatUpAll
import Derived.Test.YtphppdbhofeagaaGreatSibMap
import Derived.Test.YtphppdbhofeagaaGreatParAll
namespace Go.Proofs.YtphppdbhofeagaaGreat
open Go.RowKit
set_option linter.unusedVariables false
set_option linter.unusedSimpArgs false

/-- All kids of a node. -/
def conL (ts : List NodeD) (len x : Nat) : List Nat := rb (fun k => (par (sz ts) k == some x) && (fun _ => true) k) (x + 1) (len - (x + 1))

theorem conL_kids {ts : List NodeD} {len x : Nat} (hR : RightT ts len) (hx : x < len) : kids (sz ts) x = conL ts len x := by
  rw [kids_lb hR.nest hx]
  unfold conL
  have h := rb_lb (P := fun k => (par (sz ts) k == some x) && (fun _ => true) k) len (x + 1) (by omega)
  rw [← h]
  have h2 : lb (fun k => par (sz ts) k == some x) len = lb (fun k => (par (sz ts) k == some x) && (fun _ => true) k) len := by simp
  rw [h2]
  symm
  rw [List.filter_eq_self]
  intro k hk
  have h1 := (lb_mem hk).2
  simp at h1
  have := (par_some h1).1
  simp
  omega

theorem conL_good (ts : List NodeD) (len x : Nat) (hx : x < len) : GoodL len (conL ts len x) :=
  ⟨fun p hp => by have := (rb_mem.1 hp).2.1; omega, once_of_lt (rb_once _ _)⟩

theorem ancL_kind {ts : List NodeD} : ∀ {x : Nat}, ∀ y ∈ ancL ts x, kd ts y = 3 := by
  intro x
  induction x using Nat.strongRecOn with
  | ind x ih =>
    intro y hy
    cases hp : par (sz ts) x with
    | none => rw [ancL_none hp] at hy; simp at hy
    | some p =>
      rw [ancL_some hp] at hy
      have hlt := (par_some hp).1
      rcases List.mem_append.1 hy with h | h
      · split at h
        · rename_i h3
          simp at h
          rw [h]; exact h3
        · simp at h
      · exact ih p hlt y h

/-- A pick, opened. -/
structure PickP where
  op : Int
  wl : List Nat
  a : Int
  b : Int

def PickP.part (p : PickP) : Bool := decide (32 ≤ p.op) && decide (p.op ≤ 36)

/-- The relatives of one node. -/
def relF (ts : List NodeD) (len : Nat) (op : Int) (wl : List Nat) : Option (Nat → List Nat) :=
  if op = 20 then some (kidL ts len) else if op = 21 then some (conL ts len) else if op = 22 then some (fun x => (parEl ts x).toList) else if op = 23 then some (ancL ts)
  else if op = 24 then some (fun x => upToL (fun y => decide (y ∈ wl)) (ancL ts x))
  else if op = 25 then some (fun x => (nextL ts len x).take 1) else if op = 26 then some (nextL ts len) else if op = 27 then some (fun x => upToL (fun y => decide (y ∈ wl)) (nextL ts len x))
  else if op = 28 then some (fun x => (prevL ts x).take 1) else if op = 29 then some (prevL ts) else if op = 30 then some (fun x => upToL (fun y => decide (y ∈ wl)) (prevL ts x))
  else if op = 31 then some (fun x => prevL ts x ++ nextL ts len x) else none

theorem relF_some (ts : List NodeD) (len : Nat) (wl : List Nat) {op : Int} (h : 20 ≤ op ∧ op ≤ 31) : ∃ F, relF ts len op wl = some F := by
  unfold relF
  by_cases h20 : op = 20
  · exact ⟨_, if_pos h20⟩
  rw [if_neg h20]
  by_cases h21 : op = 21
  · exact ⟨_, if_pos h21⟩
  rw [if_neg h21]
  by_cases h22 : op = 22
  · exact ⟨_, if_pos h22⟩
  rw [if_neg h22]
  by_cases h23 : op = 23
  · exact ⟨_, if_pos h23⟩
  rw [if_neg h23]
  by_cases h24 : op = 24
  · exact ⟨_, if_pos h24⟩
  rw [if_neg h24]
  by_cases h25 : op = 25
  · exact ⟨_, if_pos h25⟩
  rw [if_neg h25]
  by_cases h26 : op = 26
  · exact ⟨_, if_pos h26⟩
  rw [if_neg h26]
  by_cases h27 : op = 27
  · exact ⟨_, if_pos h27⟩
  rw [if_neg h27]
  by_cases h28 : op = 28
  · exact ⟨_, if_pos h28⟩
  rw [if_neg h28]
  by_cases h29 : op = 29
  · exact ⟨_, if_pos h29⟩
  rw [if_neg h29]
  by_cases h30 : op = 30
  · exact ⟨_, if_pos h30⟩
  rw [if_neg h30]
  by_cases h31 : op = 31
  · exact ⟨_, if_pos h31⟩
  rw [if_neg h31]
  omega

theorem relF_none (ts : List NodeD) (len : Nat) (wl : List Nat) {op : Int} (h : ¬(20 ≤ op ∧ op ≤ 31)) : relF ts len op wl = none := by
  unfold relF
  rw [if_neg (show ¬(op = 20) by omega)]
  rw [if_neg (show ¬(op = 21) by omega)]
  rw [if_neg (show ¬(op = 22) by omega)]
  rw [if_neg (show ¬(op = 23) by omega)]
  rw [if_neg (show ¬(op = 24) by omega)]
  rw [if_neg (show ¬(op = 25) by omega)]
  rw [if_neg (show ¬(op = 26) by omega)]
  rw [if_neg (show ¬(op = 27) by omega)]
  rw [if_neg (show ¬(op = 28) by omega)]
  rw [if_neg (show ¬(op = 29) by omega)]
  rw [if_neg (show ¬(op = 30) by omega)]
  rw [if_neg (show ¬(op = 31) by omega)]

/-- The relatives as the program names them. -/
def relP (ts : List NodeD) (len : Nat) (op : Int) (wl : List Nat) : Option (Nat → List Nat) := if op = 31 then some (sibL ts len) else relF ts len op wl

/-- From where to where a part goes. -/
def partOf (p : PickP) (n : Nat) : Option (Nat × Nat) :=
  if p.op = 34 then some (0, min n 1)
  else if p.op = 35 then some (n - 1, n)
  else if p.op = 36 then
    let f := if p.a < 0 then p.a + n else p.a
    if f < 0 ∨ (n : Int) ≤ f then some (0, 0) else some (f.toNat, f.toNat + 1)
  else
    let t := if p.op = 33 then (n : Int) else p.b
    let f := if p.a < 0 then p.a + n else p.a
    let t := if t < 0 then t + n else t
    if f < 0 ∨ (n : Int) < t ∨ t < f then none else some (f.toNat, t.toNat)

def cutL (L : List Nat) (q : Nat × Nat) : List Nat := (L.drop q.1).take (q.2 - q.1)

/-- What a step selects, by the reference. -/
def relS (ts : List NodeD) (len : Nat) (p : PickP) (L : List Nat) : Option (List Nat) :=
  if p.part then (partOf p L.length).map (cutL L)
  else if p.op = 37 ∨ p.op = 38 then some (onceF (L ++ p.wl))
  else if p.op = 39 then some (L.filter fun x => decide (x ∈ p.wl))
  else (relF ts len p.op p.wl).map fun F => onceF (L.flatMap F)

/-- What the program selects. -/
def relW (ts : List NodeD) (len : Nat) (p : PickP) (L : List Nat) : Option (List Nat) :=
  if p.part then (partOf p L.length).map (cutL L)
  else if p.op = 37 ∨ p.op = 38 then some (withAll L p.wl)
  else if p.op = 39 then some (L.filter fun x => decide (x ∈ p.wl))
  else (relP ts len p.op p.wl).map fun F => onceF (L.flatMap F)

def nextK (p : PickP) (k : Bool) (M : List Nat) : Bool := p.part || decide (M.length < 2) || (k && decide (p.op = 39))

/-- One step of the reference's chain. -/
structure StepS (ts : List NodeD) (len : Nat) (p : PickP) (L : List Nat) (k : Bool) (M : List Nat) (k' : Bool) : Prop where
  known : p.part = true → k = true
  nback : p.op ≠ 40
  eq : relS ts len p L = some M
  next : k' = nextK p k M

/-- The program's places and the reference's. -/
structure Agree (len : Nat) (P S : List Nat) (k : Bool) : Prop where
  onceP : Once P
  onceS : Once S
  mem : ∀ x, x ∈ P ↔ x ∈ S
  lt : ∀ x ∈ S, x < len ∧ 0 < x
  eq : k = true → P = S

theorem Agree.ltP {len : Nat} {P S : List Nat} {k : Bool} (h : Agree len P S k) : ∀ x ∈ P, x < len ∧ 0 < x := fun x hx => h.lt x ((h.mem x).1 hx)
theorem Agree.len {len : Nat} {P S : List Nat} {k : Bool} (h : Agree len P S k) : P.length = S.length := once_same_len h.onceP h.onceS h.mem
theorem Agree.leS {len : Nat} {P S : List Nat} {k : Bool} (h : Agree len P S k) : S.length ≤ len := once_le h.onceS fun i hi => (h.lt i hi).1
theorem Agree.leP {len : Nat} {P S : List Nat} {k : Bool} (h : Agree len P S k) : P.length ≤ len := once_le h.onceP fun i hi => (h.ltP i hi).1

theorem short_eq {P S : List Nat} (hl : P.length = S.length) (hm : ∀ x, x ∈ P ↔ x ∈ S) (h2 : S.length < 2) : P = S := by
  match P, S, hl, h2 with
  | [], [], _, _ => rfl
  | [a], [b], _, _ => rw [List.mem_singleton.1 ((hm a).1 (by simp))]
  | _ :: _ :: _, b :: c :: r, _, h2 => simp at h2; omega

theorem Agree.of {len : Nat} {P S : List Nat} {k : Bool} (h1 : Once P) (h2 : Once S) (hm : ∀ x, x ∈ P ↔ x ∈ S) (hl : ∀ x ∈ S, x < len ∧ 0 < x) (he : k = true → P = S ∨ S.length < 2) : Agree len P S k :=
  ⟨h1, h2, hm, hl, fun hk => by
    rcases he hk with h | h
    · exact h
    · exact short_eq (once_same_len h1 h2 hm) hm h⟩

theorem sib_mem2 {ts : List NodeD} {len x y : Nat} (hR : RightT ts len) (hxl : x < len) (h0 : 0 < x) : y ∈ sibL ts len x ↔ y ∈ prevL ts x ++ nextL ts len x := by
  obtain ⟨p, hx⟩ := par_is hR.root hxl h0
  rw [sibL_of hx, prevL_of hx, nextL_of hx, List.mem_append, List.mem_reverse, lb_mem_iff, rb_mem, rb_mem]
  have hpx := (par_some hx).1
  unfold elSkip elKid
  constructor
  · rintro ⟨h1, h2, h3⟩
    simp at h3
    rcases Nat.lt_trichotomy y x with h | h | h
    · exact .inl ⟨h, by simp [h3]⟩
    · exact absurd h h3.2.2
    · exact .inr ⟨by omega, by omega, by simp [h3]⟩
  · rintro (⟨h1, h2⟩ | ⟨h1, h2, h3⟩)
    · simp at h2
      have := (par_some h2.1).1
      exact ⟨by omega, by omega, by simp [h2]; omega⟩
    · simp at h3
      exact ⟨by omega, by omega, by simp [h3]; omega⟩

/-- The relatives of a node are elements, or kids: none is the document. -/
theorem rel_pos {ts : List NodeD} {len : Nat} (hR : RightT ts len) {op : Int} {wl : List Nat} {F : Nat → List Nat} (h : relF ts len op wl = some F) {x : Nat} (hx : x < len) : ∀ y ∈ F x, y < len ∧ 0 < y := by
  have hk : ∀ y, kd ts y = 3 → 0 < y := fun y hy => by
    rcases Nat.eq_zero_or_pos y with h0 | h0
    · rw [h0, hR.kind] at hy; omega
    · exact h0
  have hnext : ∀ y ∈ nextL ts len x, y < len ∧ 0 < y := fun y hy => ⟨(nextL_good ts len x hx).lt y hy, by
    unfold nextL at hy
    split at hy
    · have := (rb_mem.1 hy).1; omega
    · simp at hy⟩
  have hprev : ∀ y ∈ prevL ts x, y < len ∧ 0 < y := fun y hy => ⟨(prevL_good ts len x hx).lt y hy, by
    unfold prevL at hy
    split at hy
    · have h1 := (lb_mem (List.mem_reverse.1 hy)).2
      unfold elKid at h1
      simp at h1
      exact hk y h1.2
    · simp at hy⟩
  have hanc : ∀ y ∈ ancL ts x, y < len ∧ 0 < y := fun y hy => ⟨(ancL_good ts len x hx).lt y hy, hk y (ancL_kind y hy)⟩
  have hup : ∀ (U : Nat → Bool) (l : List Nat), (∀ y ∈ l, y < len ∧ 0 < y) → ∀ y ∈ upToL U l, y < len ∧ 0 < y := fun U l hl y hy => hl y ((upTo_sub U l).subset hy)
  have htk : ∀ l : List Nat, (∀ y ∈ l, y < len ∧ 0 < y) → ∀ y ∈ l.take 1, y < len ∧ 0 < y := fun l hl y hy => hl y (List.mem_of_mem_take hy)
  unfold relF at h
  by_cases h20 : op = 20
  · rw [if_pos h20] at h; cases h; exact fun y hy => ⟨(kidL_good ts len x hx).lt y hy, by have := (rb_mem.1 hy).1; omega⟩
  rw [if_neg h20] at h
  by_cases h21 : op = 21
  · rw [if_pos h21] at h; cases h; exact fun y hy => ⟨(conL_good ts len x hx).lt y hy, by have := (rb_mem.1 hy).1; omega⟩
  rw [if_neg h21] at h
  by_cases h22 : op = 22
  · rw [if_pos h22] at h; cases h
    intro y hy
    have hp : parEl ts x = some y := by simpa using hy
    unfold parEl at hp
    cases hq : par (sz ts) x with
    | none => rw [hq] at hp; simp at hp
    | some q =>
      rw [hq] at hp
      simp only at hp
      have := (par_some hq).1
      split at hp
      · rename_i h3
        simp at hp
        subst hp
        exact ⟨by omega, hk _ h3⟩
      · simp at hp
  rw [if_neg h22] at h
  by_cases h23 : op = 23
  · rw [if_pos h23] at h; cases h; exact hanc
  rw [if_neg h23] at h
  by_cases h24 : op = 24
  · rw [if_pos h24] at h; cases h; exact hup _ _ hanc
  rw [if_neg h24] at h
  by_cases h25 : op = 25
  · rw [if_pos h25] at h; cases h; exact htk _ hnext
  rw [if_neg h25] at h
  by_cases h26 : op = 26
  · rw [if_pos h26] at h; cases h; exact hnext
  rw [if_neg h26] at h
  by_cases h27 : op = 27
  · rw [if_pos h27] at h; cases h; exact hup _ _ hnext
  rw [if_neg h27] at h
  by_cases h28 : op = 28
  · rw [if_pos h28] at h; cases h; exact htk _ hprev
  rw [if_neg h28] at h
  by_cases h29 : op = 29
  · rw [if_pos h29] at h; cases h; exact hprev
  rw [if_neg h29] at h
  by_cases h30 : op = 30
  · rw [if_pos h30] at h; cases h; exact hup _ _ hprev
  rw [if_neg h30] at h
  by_cases h31 : op = 31
  · rw [if_pos h31] at h; cases h
    intro y hy
    rcases List.mem_append.1 hy with h1 | h1
    · exact hprev y h1
    · exact hnext y h1
  rw [if_neg h31] at h
  cases h

theorem rel_len {ts : List NodeD} {len : Nat} {op : Int} {wl : List Nat} {F : Nat → List Nat} (h : relF ts len op wl = some F) {x : Nat} (hx : x < len) : (F x).length ≤ 2 * len := by
  have hk := (kidL_good ts len x hx).le
  have hc := (conL_good ts len x hx).le
  have ha := (ancL_good ts len x hx).le
  have hn := (nextL_good ts len x hx).le
  have hv := (prevL_good ts len x hx).le
  have hu : ∀ (U : Nat → Bool) (l : List Nat), l.length ≤ len → (upToL U l).length ≤ 2 * len := fun U l hl => by have := (upTo_sub U l).length_le; omega
  unfold relF at h
  by_cases h20 : op = 20
  · rw [if_pos h20] at h; cases h; show (kidL ts len x).length ≤ 2 * len; omega
  rw [if_neg h20] at h
  by_cases h21 : op = 21
  · rw [if_pos h21] at h; cases h; show (conL ts len x).length ≤ 2 * len; omega
  rw [if_neg h21] at h
  by_cases h22 : op = 22
  · rw [if_pos h22] at h; cases h; show (parEl ts x).toList.length ≤ 2 * len; cases parEl ts x <;> simp <;> omega
  rw [if_neg h22] at h
  by_cases h23 : op = 23
  · rw [if_pos h23] at h; cases h; show (ancL ts x).length ≤ 2 * len; omega
  rw [if_neg h23] at h
  by_cases h24 : op = 24
  · rw [if_pos h24] at h; cases h; exact hu _ _ ha
  rw [if_neg h24] at h
  by_cases h25 : op = 25
  · rw [if_pos h25] at h; cases h; show ((nextL ts len x).take 1).length ≤ 2 * len; rw [List.length_take]; omega
  rw [if_neg h25] at h
  by_cases h26 : op = 26
  · rw [if_pos h26] at h; cases h; show (nextL ts len x).length ≤ 2 * len; omega
  rw [if_neg h26] at h
  by_cases h27 : op = 27
  · rw [if_pos h27] at h; cases h; exact hu _ _ hn
  rw [if_neg h27] at h
  by_cases h28 : op = 28
  · rw [if_pos h28] at h; cases h; show ((prevL ts x).take 1).length ≤ 2 * len; rw [List.length_take]; omega
  rw [if_neg h28] at h
  by_cases h29 : op = 29
  · rw [if_pos h29] at h; cases h; show (prevL ts x).length ≤ 2 * len; omega
  rw [if_neg h29] at h
  by_cases h30 : op = 30
  · rw [if_pos h30] at h; cases h; exact hu _ _ hv
  rw [if_neg h30] at h
  by_cases h31 : op = 31
  · rw [if_pos h31] at h; cases h; show (prevL ts x ++ nextL ts len x).length ≤ 2 * len; rw [List.length_append]; omega
  rw [if_neg h31] at h
  cases h

/-- The program's relatives and the reference's. -/
theorem relP_of {ts : List NodeD} {len : Nat} (hR : RightT ts len) {op : Int} {wl : List Nat} {G : Nat → List Nat} (h : relF ts len op wl = some G) :
    ∃ F, relP ts len op wl = some F ∧ ∀ x, x < len → 0 < x → ∀ y, y ∈ F x ↔ y ∈ G x := by
  by_cases h31 : op = 31
  · subst h31
    have h2 : relF ts len 31 wl = some (fun x => prevL ts x ++ nextL ts len x) := rfl
    rw [h2] at h
    cases h
    exact ⟨sibL ts len, rfl, fun x hx h0 y => sib_mem2 hR hx h0⟩
  · exact ⟨G, by unfold relP; rw [if_neg h31]; exact h, fun _ _ _ _ => Iff.rfl⟩

theorem cutL_sub (L : List Nat) (q : Nat × Nat) : (cutL L q).Sublist L := (List.take_sublist _ _).trans (List.drop_sublist _ _)

/-- One step keeps the two together. -/
theorem step_agree {ts : List NodeD} {len : Nat} (hR : RightT ts len) {p : PickP} (hw : ∀ x ∈ p.wl, x < len ∧ 0 < x) {P S M : List Nat} {k k' : Bool} (ha : Agree len P S k) (hs : StepS ts len p S k M k') :
    ∃ N, relW ts len p P = some N ∧ Agree len N M k' := by
  have he := hs.eq
  have hn := hs.next
  unfold relS at he
  unfold relW
  by_cases hp : p.part = true
  · rw [if_pos hp] at he ⊢
    have hk := hs.known hp
    have hPS := ha.eq hk
    subst hPS
    refine ⟨M, he, ?_⟩
    obtain ⟨q, hq, rfl⟩ := Option.map_eq_some_iff.1 he
    have ho : Once (cutL P q) := ha.onceP.sub (cutL_sub P q)
    exact ⟨ho, ho, fun _ => Iff.rfl, fun x hx => ha.lt x ((cutL_sub P q).subset hx), fun _ => rfl⟩
  have hpf : p.part = false := by simpa using hp
  rw [if_neg hp] at he ⊢
  by_cases h7 : p.op = 37 ∨ p.op = 38
  · rw [if_pos h7] at he ⊢
    cases he
    have h39 : p.op ≠ 39 := by omega
    have e1 : withAll P p.wl = onceF (P ++ p.wl) := by rw [once_withAll, onceF_of_once ha.onceP]
    refine ⟨_, rfl, Agree.of (by rw [e1]; exact onceF_once _) (onceF_once _) (fun x => ?_) (fun x hx => ?_) (fun h => .inr ?_)⟩
    · rw [e1, onceF_mem, onceF_mem, List.mem_append, List.mem_append, ha.mem]
    · rw [onceF_mem, List.mem_append] at hx
      rcases hx with h | h
      · exact ha.lt x h
      · exact hw x h
    · rw [hn] at h
      unfold nextK at h
      simpa [hpf, h39] using h
  rw [if_neg h7] at he ⊢
  by_cases h9 : p.op = 39
  · rw [if_pos h9] at he ⊢
    cases he
    refine ⟨_, rfl, Agree.of (ha.onceP.sub List.filter_sublist) (ha.onceS.sub List.filter_sublist) (fun x => ?_) (fun x hx => ha.lt x (List.mem_filter.1 hx).1) (fun h => ?_)⟩
    · rw [List.mem_filter, List.mem_filter, ha.mem]
    · rw [hn] at h
      unfold nextK at h
      simp only [hpf, Bool.false_or, h9, decide_true, Bool.and_true, Bool.or_eq_true, decide_eq_true_eq] at h
      rcases h with h | h
      · exact .inr h
      · exact .inl (by rw [ha.eq h])
  rw [if_neg h9] at he ⊢
  obtain ⟨G, hG, rfl⟩ := Option.map_eq_some_iff.1 he
  obtain ⟨F, hF, hFG⟩ := relP_of hR hG
  refine ⟨onceF (P.flatMap F), by rw [hF]; rfl, Agree.of (onceF_once _) (onceF_once _) (fun x => ?_) (fun x hx => ?_) (fun h => .inr ?_)⟩
  · rw [onceF_mem, onceF_mem, List.mem_flatMap, List.mem_flatMap]
    constructor
    · rintro ⟨y, hy, hx⟩
      exact ⟨y, (ha.mem y).1 hy, (hFG y (ha.ltP y hy).1 (ha.ltP y hy).2 x).1 hx⟩
    · rintro ⟨y, hy, hx⟩
      exact ⟨y, (ha.mem y).2 hy, (hFG y (ha.lt y hy).1 (ha.lt y hy).2 x).2 hx⟩
  · rw [onceF_mem, List.mem_flatMap] at hx
    obtain ⟨y, hy, hx⟩ := hx
    exact rel_pos hR hG (ha.lt y hy).1 x hx
  · rw [hn] at h
    unfold nextK at h
    simpa [hpf, h9] using h

end Go.Proofs.YtphppdbhofeagaaGreat
