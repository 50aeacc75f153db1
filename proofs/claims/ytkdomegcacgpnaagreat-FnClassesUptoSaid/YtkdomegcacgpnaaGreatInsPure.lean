/- Nodes taken out of a forest and put, one behind the other, at a place; plain. -/
import Derived.Test.YtkdomegcacgpnaaGreatWoodAll
import Derived.Test.YtkdomegcacgpnaaGreatRemovedPure
namespace Go.Proofs.YtkdomegcacgpnaaGreat
set_option linter.unusedVariables false
set_option linter.unusedSimpArgs false

/-- A list without some. -/
def offL (T A : List Nat) : List Nat := A.filter (fun y => !T.contains y)

theorem offL_nil (A : List Nat) : offL [] A = A := List.filter_eq_self.2 (fun y _ => by simp)
theorem offL_append (T A B : List Nat) : offL T (A ++ B) = offL T A ++ offL T B := by simp [offL]
theorem offL_snoc (T A : List Nat) (w : Nat) : (offL T A).filter (fun y => y != w) = offL (T ++ [w]) A := by
  unfold offL
  rw [List.filter_filter]
  refine List.filter_congr (fun y _ => ?_)
  by_cases e : y = w <;> by_cases h : y ∈ T <;> simp [e, h]
theorem offL_keep {T : List Nat} {x : Nat} (h : x ∉ T) : offL T [x] = [x] := by simp [offL, h]
theorem offL_cons {T : List Nat} {x : Nat} (h : x ∉ T) (b : List Nat) : offL T (x :: b) = x :: offL T b := by simp [offL, h]
theorem mem_offL {T A : List Nat} {y : Nat} : y ∈ offL T A ↔ y ∈ A ∧ y ∉ T := by simp [offL]
theorem offL_congr {T T' : List Nat} (h : ∀ y, y ∈ T ↔ y ∈ T') (A : List Nat) : offL T A = offL T' A := by
  unfold offL
  refine List.filter_congr (fun y _ => ?_)
  by_cases e : y ∈ T
  · simp [e, (h y).1 e]
  · have e2 : y ∉ T' := fun h2 => e ((h y).2 h2)
    simp [e, e2]

/-- A forest without some nodes: each of them stands alone. -/
def Wd.off (F : Wd) (T : List Nat) : Wd := ⟨fun q => offL T (F.kids q), fun y => if y ∈ T then none else F.up y⟩

theorem off_nil (F : Wd) : F.off [] = F := by
  cases F
  simp only [Wd.off, Wd.mk.injEq]
  exact ⟨funext fun q => offL_nil _, funext fun y => by simp⟩

theorem off_snoc (F : Wd) (T : List Nat) (w : Nat) : F.off (T ++ [w]) = (F.off T).cut w := by
  simp only [Wd.off, Wd.cut, Wd.mk.injEq]
  refine ⟨funext fun q => (offL_snoc T _ w).symm, funext fun y => ?_⟩
  by_cases e : y = w <;> by_cases h : y ∈ T <;> simp [e, h]

theorem cutsW_off (F : Wd) (T : List Nat) : cutsW F T = F.off T := by
  have key : ∀ n, n ≤ T.length → cutsW F (T.take n) = F.off (T.take n) := by
    intro n
    induction n with
    | zero => intro _; exact (off_nil F).symm
    | succ n ih =>
      intro h
      have h1 := ih (by omega)
      rw [List.take_add_one, List.getElem?_eq_getElem (by omega), Option.toList_some, cutsW_snoc, off_snoc, h1]
  have := key T.length (Nat.le_refl _)
  rwa [List.take_length] at this

theorem off_congr (F : Wd) {T T' : List Nat} (h : ∀ y, y ∈ T ↔ y ∈ T') : F.off T = F.off T' := by
  simp only [Wd.off, Wd.mk.injEq]
  refine ⟨funext fun q => offL_congr h _, funext fun y => ?_⟩
  by_cases e : y ∈ T
  · rw [if_pos e, if_pos ((h y).1 e)]
  · rw [if_neg e, if_neg (fun h2 => e ((h y).2 h2))]

/-- Nodes put between the kids of one. -/
def Wd.ins (H : Wd) (p : Nat) (A T B : List Nat) : Wd := ⟨fun q => if q = p then A ++ (T ++ B) else H.kids q, fun y => if y ∈ T then some p else H.up y⟩

theorem ins_nil {H : Wd} {p : Nat} {A B : List Nat} (h : H.kids p = A ++ B) : H.ins p A [] B = H := by
  cases H with
  | mk kids up =>
    simp only [Wd.ins, Wd.mk.injEq]
    refine ⟨funext fun q => ?_, funext fun y => by simp⟩
    by_cases e : q = p
    · subst e; rw [if_pos rfl, List.nil_append]; exact h.symm
    · rw [if_neg e]

theorem ins_put (H : Wd) (p : Nat) (A T B : List Nat) (w : Nat) : (H.ins p A T B).put p (A.length + T.length) w = H.ins p A (T ++ [w]) B := by
  simp only [Wd.ins, Wd.put, Wd.mk.injEq]
  refine ⟨funext fun q => ?_, funext fun y => ?_⟩
  · by_cases e : q = p
    · subst e
      simp only [if_pos]
      have e1 : A ++ (T ++ B) = (A ++ T) ++ B := by simp
      have e2 : A.length + T.length = (A ++ T).length := by simp
      rw [e1, e2, List.take_left', List.drop_left']
      · simp
      · rfl
      · rfl
    · simp only [if_neg e]
  · by_cases e : y = w <;> by_cases h : y ∈ T <;> simp [e, h]

theorem ins_put_front (H : Wd) (p : Nat) (A T B : List Nat) (w : Nat) : (H.ins p A T B).put p A.length w = H.ins p A (w :: T) B := by
  simp only [Wd.ins, Wd.put, Wd.mk.injEq]
  refine ⟨funext fun q => ?_, funext fun y => ?_⟩
  · by_cases e : q = p
    · subst e
      simp
    · simp only [if_neg e]
  · by_cases e : y = w <;> by_cases h : y ∈ T <;> simp [e, h]

theorem ins_cut (H : Wd) (p : Nat) (A T B : List Nat) {w : Nat} (h : w ∉ T) : (H.ins p A T B).cut w = (H.cut w).ins p (A.filter (fun y => y != w)) T (B.filter (fun y => y != w)) := by
  simp only [Wd.ins, Wd.cut, Wd.mk.injEq]
  refine ⟨funext fun q => ?_, funext fun y => ?_⟩
  · by_cases e : q = p
    · subst e
      simp only [if_true, List.filter_append]
      rw [filter_none h]
    · simp only [if_neg e]
  · by_cases e : y = w
    · subst e; simp [h]
    · by_cases h2 : y ∈ T <;> simp [e, h2]

/-- Above a node above which none of some stands nothing has changed. -/
theorem anc_back {F G : Wd} {T : List Nat} (hup : ∀ y, y ∉ T → G.up y = F.up y) {w y : Nat} (h : Anc G w y) : (∀ v ∈ T, ¬ Anc F v y) → Anc F w y := by
  induction h with
  | refl => intro _; exact .refl
  | @step y p hu _ ih =>
    intro hv
    have hy : y ∉ T := fun hm => hv y hm .refl
    have hu2 : F.up y = some p := by rw [← hup y hy]; exact hu
    exact .step hu2 (ih (fun v hm ha => hv v hm (.step hu2 ha)))

/-- A state of a move: T has been put, the forest F as it was. -/
theorem ins_up (F : Wd) (p : Nat) (A T T' B : List Nat) (hT : ∀ y, y ∈ T ↔ y ∈ T') : ∀ y, y ∉ T' → ((F.off T).ins p A T' B).up y = F.up y := fun y hy => by
  simp only [Wd.ins, Wd.off, if_neg hy, if_neg (fun h => hy ((hT y).1 h))]

theorem move_ok {n : Nat} {F : Wd} (hF : WOk n F) {p : Nat} (hp : p < n) {A0 B0 : List Nat} (h0 : F.kids p = A0 ++ B0) {T T' : List Nat} (hT : ∀ y, y ∈ T ↔ y ∈ T') {W : List Nat} (hTW : ∀ y ∈ T, y ∈ W) (hW : ∀ v ∈ W, ¬ Anc F v p) {w : Nat} (hw : w ∈ W) (hwT : w ∉ T) (hwn : w < n)
    (hG : WOk n ((F.off T).ins p (offL T A0) T' (offL T B0))) :
    WOk n (((F.off T).ins p (offL T A0) T' (offL T B0)).cut w) ∧ ((F.off T).ins p (offL T A0) T' (offL T B0)).cut w = (F.off (T ++ [w])).ins p (offL (T ++ [w]) A0) T' (offL (T ++ [w]) B0) ∧
      ¬ Anc (((F.off T).ins p (offL T A0) T' (offL T B0)).cut w) w p ∧ w ≠ p := by
  have hwT' : w ∉ T' := fun h => hwT ((hT w).2 h)
  refine ⟨hG.cut w, ?_, fun ha => ?_, fun e => hW w hw (by rw [e]; exact .refl)⟩
  · rw [ins_cut _ _ _ _ _ hwT', ← off_snoc, offL_snoc, offL_snoc]
  · have h1 := ha.of_cut
    refine hW w hw (anc_back (T := T') (ins_up F p _ T T' _ hT) h1 (fun v hv => hW v (hTW v ((hT v).2 hv))))

end Go.Proofs.YtkdomegcacgpnaaGreat
