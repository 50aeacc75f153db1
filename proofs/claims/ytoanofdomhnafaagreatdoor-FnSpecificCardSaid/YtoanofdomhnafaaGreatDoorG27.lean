/- Parts of a proof: SpSeq, SelShaped. -/
import Derived.Test.YtoanofdomhnafaaGreatDoorG03
import Derived.Test.YtoanofdomhnafaaGreatDoorG04
import Derived.Test.YtoanofdomhnafaaGreatDoorG26
import Derived.Test.YtoanofdomhnafaaGreatDoorG06
set_option linter.unusedVariables false
set_option linter.unusedSimpArgs false
namespace Go.Proofs.YtoanofdomhnafaaGreatDoor
open Go.RowKit
variable {l : List SelD}
/-- How long the first m texts are together. -/
def offs {α : Type} (g : α → List UInt8) (ps : List α) (m : Nat) : Nat := ((ps.take m).map fun k => (g k).length).sum
section
variable {α : Type} (g : α → List UInt8)
theorem offs_zero (ps : List α) : offs g ps 0 = 0 := by simp [offs]
theorem offs_cons (k : α) (ps : List α) (m : Nat) : offs g (k :: ps) (m + 1) = (g k).length + offs g ps m := by simp [offs]
theorem offs_succ (d : α) : ∀ (ps : List α) (m : Nat), m < ps.length → offs g ps (m + 1) = offs g ps m + (g (ps.getD m d)).length
  | [], m, h => absurd h (by simp)
  | k :: ps, 0, h => by rw [offs_cons, offs_zero, offs_zero]; simp
  | k :: ps, m + 1, h => by
    have := offs_succ d ps m (by simpa using h)
    rw [offs_cons, offs_cons, this, List.getD_cons_succ]
    omega
theorem offs_all : ∀ ps : List α, offs g ps ps.length = ((ps.map g).flatten).length
  | [] => by simp [offs]
  | k :: ps => by
    rw [List.length_cons, offs_cons, offs_all ps]
    simp
theorem flat_at (d : α) {s : ByteArray} : ∀ (ps : List α) (i m : Nat), At s i ((ps.map g).flatten) → m < ps.length → At s (i + offs g ps m) (g (ps.getD m d))
  | [], i, m, _, h => absurd h (by simp)
  | k :: ps, i, 0, h, _ => by
    rw [offs_zero]
    simp only [List.map_cons, List.flatten_cons] at h
    exact h.left
  | k :: ps, i, m + 1, h, hm => by
    simp only [List.map_cons, List.flatten_cons] at h
    have := flat_at d ps _ m h.right (by simpa using hm)
    rw [offs_cons, List.getD_cons_succ, ← Nat.add_assoc]
    exact this
end
theorem take_one {α : Type} (d : α) : ∀ (ps : List α) (m : Nat), m < ps.length → ps.take (m + 1) = ps.take m ++ [ps.getD m d]
  | [], m, h => absurd h (by simp)
  | k :: ps, 0, _ => by simp
  | k :: ps, m + 1, h => by
    have := take_one d ps m (by simpa using h)
    rw [List.take_succ_cons, this, List.take_succ_cons, List.getD_cons_succ, List.cons_append]
theorem psum_take (g : Nat → Tri) (ps : List Nat) : ∀ m, m ≤ ps.length → ((ps.take m).map g).foldl triAdd (0, 0, 0) = psum (fun j => g (ps.getD j 0)) m
  | 0, _ => by simp [psum]
  | m + 1, h => by
    rw [take_one 0 ps m (by omega), List.map_append, List.foldl_append, psum_take g ps m (by omega)]
    rfl
theorem psum_all (g : Nat → Tri) (ps : List Nat) : (ps.map g).foldl triAdd (0, 0, 0) = psum (fun j => g (ps.getD j 0)) ps.length := by
  have := psum_take g ps ps.length (Nat.le_refl _)
  rwa [List.take_length] at this
theorem pmax_take (g : Nat → Tri) (ps : List Nat) : ∀ m, m ≤ ps.length → ((ps.take m).map g).foldl triMax (0, 0, 0) = pmax (fun j => g (ps.getD j 0)) m
  | 0, _ => by simp [pmax]
  | m + 1, h => by
    rw [take_one 0 ps m (by omega), List.map_append, List.foldl_append, pmax_take g ps m (by omega)]
    rfl
theorem pmax_all (g : Nat → Tri) (ps : List Nat) : (ps.map g).foldl triMax (0, 0, 0) = pmax (fun j => g (ps.getD j 0)) ps.length := by
  have := pmax_take g ps ps.length (Nat.le_refl _)
  rwa [List.take_length] at this
/-- All three numbers together. -/
def tot (t : Tri) : Nat := t.1 + t.2.1 + t.2.2
theorem tot_add (a b : Tri) : tot (triAdd a b) = tot a + tot b := by simp only [tot, triAdd]; omega
theorem tot_max (a b : Tri) : tot (triMax a b) ≤ tot a + tot b := by unfold triMax; split <;> omega
theorem tot9 {t : Tri} (h : tot t ≤ 1000000000) : Tri9 t := by unfold tot at h; exact ⟨by omega, by omega, by omega⟩
theorem tot_fold (op : Tri → Tri → Tri) (hop : ∀ a b, tot (op a b) ≤ tot a + tot b) (g : Nat → Tri) : ∀ (ks : List Nat) (t : Tri), tot ((ks.map g).foldl op t) ≤ tot t + (ks.map fun k => tot (g k)).sum
  | [], t => by simp
  | k :: ks, t => by
    have := tot_fold op hop g ks (op t (g k))
    have h2 := hop t (g k)
    simp only [List.map_cons, List.foldl_cons, List.sum_cons]
    omega
theorem kids_sum {z : Nat → Nat} {e : Nat} : ∀ (f k : Nat), (∀ j, k ≤ j → j < e → 1 ≤ z j ∧ j + z j ≤ e) → ((kidsFrom z e f k).map z).sum ≤ e - k
  | 0, k, h => by simp [kidsFrom]
  | f + 1, k, h => by
    simp only [kidsFrom]
    split
    · rename_i hk
      obtain ⟨h1, h2⟩ := h k (Nat.le_refl _) hk
      have ih := kids_sum f (k + z k) (fun j hj he => h j (by omega) he)
      simp only [List.map_cons, List.sum_cons]
      omega
    · simp
theorem SelTree.kidsum (hT : SelTree l) {i : Nat} (hi : i < l.length) : ((kidsS l i).map (zs l)).sum ≤ zs l i - 1 := by
  have := kids_sum (z := zs l) (e := i + zs l i) (zs l i) (i + 1) (fun j h1 h2 => ⟨hT.nest.pos j (by have := hT.nest.fit i hi; omega), hT.nest.lam i j hi (by omega) h2⟩)
  rwa [show i + zs l i - (i + 1) = zs l i - 1 by omega] at this
theorem S_tot (hT : SelTree l) : ∀ (n i : Nat), i < l.length → zs l i ≤ n → tot (S l i) ≤ zs l i
  | 0, i, hi, hn => by have := hT.nest.pos i hi; omega
  | n + 1, i, hi, hn => by
    have hpos := hT.nest.pos i hi
    have hk := hT.kidsum hi
    have hs := sum_mono (fun k => tot (S l k)) (zs l) (kidsS l i) (fun k hk => by
      have := hT.kid hi hk
      exact S_tot hT n k this.1 (by omega))
    have hr := (hT.shape i hi).range
    by_cases h1 : kdS l i ≤ 17
    · rw [S_sim hT hi h1]
      unfold simS
      repeat' split
      all_goals (simp only [tot]; omega)
    · by_cases h2 : kdS l i = 21 ∨ kdS l i = 22
      · rw [S_sum hT hi h2]
        have := tot_fold triAdd (fun a b => Nat.le_of_eq (tot_add a b)) (S l) (kidsS l i) (0, 0, 0)
        have h0 : tot (0, 0, 0) = 0 := rfl
        omega
      · rw [S_max hT hi (by omega)]
        have := tot_fold triMax tot_max (S l) (kidsS l i) (0, 0, 0)
        have h0 : tot (0, 0, 0) = 0 := rfl
        omega
theorem SelTree.zle (hT : SelTree l) {i : Nat} (hi : i < l.length) : zs l i ≤ 60 := by
  have := hT.nest.fit i hi
  have := hT.small
  omega
theorem S_60 (hT : SelTree l) {i : Nat} (hi : i < l.length) : tot (S l i) ≤ 60 := Nat.le_trans (S_tot hT _ i hi (Nat.le_refl _)) (hT.zle hi)
theorem S_9 (hT : SelTree l) {i : Nat} (hi : i < l.length) : Tri9 (S l i) := tot9 (Nat.le_trans (S_60 hT hi) (by omega))
theorem psum_mono (f : Nat → Tri) (m : Nat) : ∀ k, tot (psum f m) ≤ tot (psum f (m + k))
  | 0 => Nat.le_refl _
  | k + 1 => by
    have := psum_mono f m k
    rw [← Nat.add_assoc]
    simp only [psum, tot_add]
    omega
/-- The first sign of a selector that can stand by itself. -/
def FirstOk (x : Int) : Prop := x = 42 ∨ x = 35 ∨ x = 46 ∨ x = 91 ∨ x = 58 ∨ x = 92 ∨ x = 45 ∨ isNs x = true
theorem FirstOk.no {x : Int} (h : FirstOk x) : x ≠ 32 ∧ x ≠ 9 ∧ x ≠ 13 ∧ x ≠ 10 ∧ x ≠ 12 ∧ x ≠ 47 ∧ x ≠ 43 ∧ x ≠ 62 ∧ x ≠ 126 ∧ x ≠ 44 ∧ x ≠ 41 ∧ x ≠ 0 := by
  unfold FirstOk at h
  rcases h with rfl | rfl | rfl | rfl | rfl | rfl | rfl | h
  case inr.inr.inr.inr.inr.inr.inr =>
    simp only [isNs, decide_eq_true_eq] at h
    omega
  all_goals decide
/-- The first sign of a name. -/
def NameFirst (x : Int) : Prop := x = 92 ∨ x = 45 ∨ isNs x = true
theorem NameFirst.ok {x : Int} (h : NameFirst x) : FirstOk x := by
  rcases h with h | h | h
  · exact .inr (.inr (.inr (.inr (.inr (.inl h)))))
  · exact .inr (.inr (.inr (.inr (.inr (.inr (.inl h))))))
  · exact .inr (.inr (.inr (.inr (.inr (.inr (.inr h))))))
theorem NameFirst.no {x : Int} (h : NameFirst x) : x ≠ 42 ∧ x ≠ 35 ∧ x ≠ 46 ∧ x ≠ 91 ∧ x ≠ 58 := by
  rcases h with rfl | rfl | h
  case inr.inr =>
    simp only [isNs, decide_eq_true_eq] at h
    omega
  all_goals decide
theorem name_first {t : ByteArray} (hne : 0 < t.size) {s : ByteArray} {i : Nat} (h : At s i (namedF t)) : i < s.size ∧ NameFirst (nx s i) := by
  obtain ⟨m, ⟨hm1, hm2, hm3⟩, ⟨h1, h2⟩, hm⟩ := named_startA hne h
  rcases Nat.lt_or_ge 0 m with h0 | h0
  · have h45 := hm2 0 h0
    rw [Nat.add_zero] at h45
    exact ⟨by omega, .inr (.inl h45)⟩
  · obtain rfl : m = 0 := by omega
    rw [Nat.add_zero] at h1 h2
    refine ⟨h1, ?_⟩
    rcases h2 with h2 | h2
    · exact .inr (.inr h2)
    · exact .inl h2
theorem T_tag (hT : SelTree l) {k : Nat} (hk : k < l.length) (h2 : kdS l k = 2) : T l k = namedF (l.getD k default).key := by
  rw [T_sim hT hk (by omega)]
  have h2' : (l.getD k default).kind = 2 := h2
  unfold simL
  rw [if_neg (by omega), if_pos h2']
/-- A compound at a place: its parts, one behind the other. -/
structure SeqAt (l : List SelD) (s : ByteArray) (q i h0 : Nat) (pos : Nat → Nat) : Prop where
  lead : (nx s i = 42 ∧ pos 0 = i + 1 ∧ h0 = 0 ∧ nx s (i + 1) ≠ 124 ∧ i < s.size) ∨ (pos 0 = i ∧ h0 = 0 ∧ 0 < (partsS l q).length) ∨ (pos 0 = i ∧ h0 = 1 ∧ 0 < (partsS l q).length ∧ kdS l ((partsS l q).getD 0 0) = 2 ∧ NameFirst (nx s i) ∧ i < s.size)
  part : ∀ m, m < (partsS l q).length → (partsS l q).getD m 0 < l.length ∧ At s (pos m) (T l ((partsS l q).getD m 0)) ∧ pos (m + 1) = pos m + (T l ((partsS l q).getD m 0)).length ∧ Stop s (pos (m + 1)) ∧ zs l ((partsS l q).getD m 0) ≤ zs l q
  kind : ∀ m, h0 ≤ m → m < (partsS l q).length → 3 ≤ kdS l ((partsS l q).getD m 0) ∧ kdS l ((partsS l q).getD m 0) ≤ 20
  last : pos (partsS l q).length = i + (T l q).length
  first : i < s.size ∧ FirstOk (nx s i)
  spec : S l q = psum (fun j => S l ((partsS l q).getD j 0)) (partsS l q).length
  few : (partsS l q).length ≤ 60
theorem kidsFrom_len {z : Nat → Nat} {e : Nat} : ∀ (f k : Nat), (∀ j, k ≤ j → j < e → 1 ≤ z j ∧ j + z j ≤ e) → (kidsFrom z e f k).length ≤ e - k
  | 0, k, h => by simp [kidsFrom]
  | f + 1, k, h => by
    simp only [kidsFrom]
    split
    · rename_i hk
      obtain ⟨h1, h2⟩ := h k (Nat.le_refl _) hk
      have ih := kidsFrom_len f (k + z k) (fun j hj he => h j (by omega) he)
      simp only [List.length_cons]
      omega
    · simp
theorem SelTree.kidslen (hT : SelTree l) {i : Nat} (hi : i < l.length) : (kidsS l i).length ≤ 60 := by
  have := kidsFrom_len (z := zs l) (e := i + zs l i) (zs l i) (i + 1) (fun j h1 h2 => ⟨hT.nest.pos j (by have := hT.nest.fit i hi; omega), hT.nest.lam i j hi (by omega) h2⟩)
  have h2 := hT.zle hi
  have h3 : (kidsS l i).length ≤ i + zs l i - (i + 1) := this
  omega
theorem getD_mem0 {ps : List Nat} {m : Nat} (h : m < ps.length) : ps.getD m 0 ∈ ps := by
  rw [List.getD_eq_getElem?_getD, List.getElem?_eq_getElem h, Option.getD_some]
  exact List.getElem_mem h
theorem seq_at (hT : SelTree l) {s : ByteArray} {q i : Nat} (hq : q < l.length) (ha : Atom (kdS l q)) (h : At s i (T l q)) (hstop : StopSel s (i + (T l q).length)) : ∃ h0 pos, SeqAt l s q i h0 pos := by
  obtain ⟨lead, hl⟩ := parts_ok hT hq ha
  obtain ⟨ps, hps⟩ : ∃ ps, partsS l q = ps := ⟨_, rfl⟩
  have heq := hl.eq
  have hmem : ∀ m, m < ps.length → ps.getD m 0 < l.length ∧ 2 ≤ kdS l (ps.getD m 0) ∧ kdS l (ps.getD m 0) ≤ 20 ∧ zs l (ps.getD m 0) ≤ zs l q := fun m hm => parts_mem hT hq ha (by rw [hps]; exact getD_mem0 hm)
  have hrest : ∀ m, m < ps.length → kdS l (ps.getD m 0) = 2 → m = 0 := by have := hl.rest; rwa [hps] at this
  rw [hps] at heq
  have h2 := h
  rw [heq] at h2
  have hfl := h2.right
  have hat : ∀ m, m < ps.length → At s (i + lead.length + offs (T l) ps m) (T l (ps.getD m 0)) := fun m hm => flat_at (T l) 0 ps _ m hfl hm
  have hend : i + lead.length + offs (T l) ps ps.length = i + (T l q).length := by rw [offs_all, heq, List.length_append]; omega
  have hpf : ∀ m, m < ps.length → 3 ≤ kdS l (ps.getD m 0) → i + lead.length + offs (T l) ps m < s.size ∧ (nx s (i + lead.length + offs (T l) ps m) = 46 ∨ nx s (i + lead.length + offs (T l) ps m) = 35 ∨ nx s (i + lead.length + offs (T l) ps m) = 91 ∨ nx s (i + lead.length + offs (T l) ps m) = 58) := fun m hm h3 => by
    obtain ⟨b, r, hb, hc⟩ := part_first hT (hmem m hm).1 h3 (hmem m hm).2.2.1
    have := hat m hm
    rw [hb] at this
    refine ⟨this.lt, ?_⟩
    rw [this.head]
    rcases hc with ⟨rfl, _⟩ | ⟨rfl, _⟩ | ⟨rfl, _⟩ | ⟨rfl, _⟩
    · exact .inl rfl
    · exact .inr (.inl rfl)
    · exact .inr (.inr (.inl rfl))
    · exact .inr (.inr (.inr rfl))
  have hst : ∀ m, m < ps.length → Stop s (i + lead.length + offs (T l) ps (m + 1)) := fun m hm => by
    rcases Nat.lt_or_ge (m + 1) ps.length with h1 | h1
    · have h3 : 3 ≤ kdS l (ps.getD (m + 1) 0) := by
        have h4 := (hmem _ h1).2.1
        have h5 := hrest _ h1
        rcases Nat.lt_or_ge 2 (m + 3) with _ | _
        · have : kdS l (ps.getD (m + 1) 0) ≠ 2 := fun e => by have := h5 e; omega
          omega
        · omega
      obtain ⟨_, h6⟩ := hpf _ h1 h3
      exact stop_of (by omega)
    · obtain h7 : m + 1 = ps.length := by omega
      rw [h7, hend]
      exact hstop.stop
  have hzero : offs (T l) ps 0 = 0 := offs_zero (T l) ps
  have hspec : S l q = psum (fun j => S l (ps.getD j 0)) ps.length := by
    have := S_parts hT hq ha
    rw [hps, psum_all] at this
    exact this
  have hpart : ∀ m, m < ps.length → ps.getD m 0 < l.length ∧ At s (i + lead.length + offs (T l) ps m) (T l (ps.getD m 0)) ∧ i + lead.length + offs (T l) ps (m + 1) = i + lead.length + offs (T l) ps m + (T l (ps.getD m 0)).length ∧ Stop s (i + lead.length + offs (T l) ps (m + 1)) ∧ zs l (ps.getD m 0) ≤ zs l q :=
    fun m hm => ⟨(hmem m hm).1, hat m hm, by rw [offs_succ (T l) 0 ps m hm]; omega, hst m hm, (hmem m hm).2.2.2⟩
  have hfew : ps.length ≤ 60 := by
    rw [← hps]
    unfold partsS
    split
    · exact Nat.le_trans (List.length_filter_le _ _) (hT.kidslen hq)
    · split
      · simp
      · simp
  rcases hl.leads with rfl | rfl
  · have hne : 0 < ps.length := by
      have := hl.some rfl
      rw [hps] at this
      exact List.length_pos_iff.2 this
    have h0i : i + ([] : List UInt8).length + offs (T l) ps 0 = i := by rw [hzero]; rfl
    by_cases h2k : kdS l (ps.getD 0 0) = 2
    · have hA := hat 0 hne
      rw [h0i, T_tag hT (hmem 0 hne).1 h2k] at hA
      have hkey := (hT.fields _ (hmem 0 hne).1).named (.inl h2k)
      obtain ⟨hf1, hf2⟩ := name_first hkey hA
      refine ⟨1, fun m => i + ([] : List UInt8).length + offs (T l) ps m, .inr (.inr ⟨h0i, rfl, by rw [hps]; exact hne, by rw [hps]; exact h2k, hf2, hf1⟩), by rw [hps]; exact hpart, ?_, by rw [hps]; exact hend, ⟨hf1, hf2.ok⟩, by rw [hps]; exact hspec, by rw [hps]; exact hfew⟩
      rw [hps]
      intro m hm1 hm2
      have h4 := (hmem _ hm2).2.1
      have : kdS l (ps.getD m 0) ≠ 2 := fun e => by have := hrest m hm2 e; omega
      exact ⟨by omega, (hmem _ hm2).2.2.1⟩
    · have h30 : 3 ≤ kdS l (ps.getD 0 0) := by have := (hmem 0 hne).2.1; omega
      obtain ⟨hf1, hf2⟩ := hpf 0 hne h30
      rw [h0i] at hf1 hf2
      refine ⟨0, fun m => i + ([] : List UInt8).length + offs (T l) ps m, .inr (.inl ⟨h0i, rfl, by rw [hps]; exact hne⟩), by rw [hps]; exact hpart, ?_, by rw [hps]; exact hend, ⟨hf1, ?_⟩, by rw [hps]; exact hspec, by rw [hps]; exact hfew⟩
      · rw [hps]
        intro m hm1 hm2
        have h4 := (hmem _ hm2).2.1
        have : kdS l (ps.getD m 0) ≠ 2 := fun e => by
          have := hrest m hm2 e
          subst this
          exact h2k e
        exact ⟨by omega, (hmem _ hm2).2.2.1⟩
      · unfold FirstOk; omega
  · have hA : At s i (42 :: ((ps.map (T l)).flatten)) := h2
    have hnt : ∀ m, m < ps.length → kdS l (ps.getD m 0) ≠ 2 := fun m hm e => by
      have h0 := hrest m hm e
      subst h0
      cases ps with
      | nil => simp at hm
      | cons k r =>
        have := hl.tag ⟨k, r, hps, by simpa using e⟩
        simp at this
    have h0i : i + ([42] : List UInt8).length + offs (T l) ps 0 = i + 1 := by rw [hzero]; rfl
    refine ⟨0, fun m => i + ([42] : List UInt8).length + offs (T l) ps m, .inl ⟨hA.head, h0i, rfl, ?_, hA.lt⟩, by rw [hps]; exact hpart, ?_, by rw [hps]; exact hend, ⟨hA.lt, .inl hA.head⟩, by rw [hps]; exact hspec, by rw [hps]; exact hfew⟩
    · rcases Nat.lt_or_ge 0 ps.length with hne | hne
      · have h30 : 3 ≤ kdS l (ps.getD 0 0) := by have := (hmem 0 hne).2.1; have := hnt 0 hne; omega
        obtain ⟨_, hf2⟩ := hpf 0 hne h30
        rw [h0i] at hf2
        omega
      · have h00 : ps.length = 0 := by omega
        rw [h00, h0i] at hend
        rw [← hend] at hstop
        rcases hstop with hs | ⟨hs, hs2⟩
        · have := nx_end (s := s) (k := i + 1) (by omega)
          omega
        · omega
    · rw [hps]
      intro m _ hm2
      have h4 := (hmem _ hm2).2.1
      have := hnt m hm2
      exact ⟨by omega, (hmem _ hm2).2.2.1⟩
theorem kid_lt {l : List SelD} {len i : Nat} (hsz : ∀ j, j < len → SzS l j) (hfit : ∀ j, j < len → j + zs l j ≤ len) (hi : i < len) : ∀ k ∈ kids (zs l) i, k < len := fun k hk => by
  have := kidsFrom_mem hk
  have := hfit i hi
  omega
theorem kid_len {l : List SelD} {len i : Nat} (hsz : ∀ j, j < len → SzS l j) (hfit : ∀ j, j < len → j + zs l j ≤ len) (hi : i < len) : (kids (zs l) i).length ≤ len := by
  have h1 := kidsFrom_len (z := zs l) (e := i + zs l i) (zs l i) (i + 1) (fun j h1 h2 => ⟨(hsz j (by have := hfit i hi; omega)).1, (hsz i hi).2.2 j (by omega) h2⟩)
  have := hfit i hi
  unfold kids
  omega
theorem getD_memS {ps : List Nat} {m : Nat} (h : m < ps.length) : ps.getD m 0 ∈ ps := by
  rw [List.getD_eq_getElem?_getD, List.getElem?_eq_getElem h, Option.getD_some]
  exact List.getElem_mem h
theorem all_of_getD {ks : List Nat} {p : Nat → Prop} (h : ∀ j, j < ks.length → p (ks.getD j 0)) : ∀ k ∈ ks, p k := fun k hk => by
  obtain ⟨j, hj, rfl⟩ := List.getElem_of_mem hk
  have := h j hj
  rwa [List.getD_eq_getElem?_getD, List.getElem?_eq_getElem hj, Option.getD_some] at this
theorem shape_of {l : List SelD} {i : Nat} (kd : Int) (ks : List Nat) (hk : kdS l i = kd) (hks : kidsS l i = ks) (hr : 1 ≤ kd ∧ kd ≤ 23)
    (h23 : kd = 23 → 0 < ks.length ∧ ∀ k ∈ ks, Complex (kdS l k)) (h18 : (kd = 18 ∨ kd = 19 ∨ kd = 20) → ks.length = 1 ∧ kdS l (ks.getD 0 0) = 23)
    (h21 : kd = 21 → ∀ j, j < ks.length → 1 ≤ kdS l (ks.getD j 0) ∧ kdS l (ks.getD j 0) ≤ 20 ∧ (kdS l (ks.getD j 0) = 2 → j = 0))
    (h22 : kd = 22 → ks.length = 2 ∧ Complex (kdS l (ks.getD 0 0)) ∧ Complex (kdS l (ks.getD 1 0)) ∧ kdS l (ks.getD 1 0) ≠ 22) (h17 : kd ≤ 17 → ks.length = 0) : ShapeOk l i := by
  subst hk
  subst hks
  refine ⟨hr, h23, fun h => ?_, h21, fun h => ?_, fun h => List.eq_nil_of_length_eq_zero (h17 h)⟩
  · obtain ⟨h1, h2⟩ := h18 h
    obtain ⟨k, hk⟩ := List.length_eq_one_iff.1 h1
    rw [hk] at h2
    exact ⟨k, hk, h2⟩
  · obtain ⟨h1, h2, h3, h4⟩ := h22 h
    match hq : kidsS l i, h1 with
    | [x, y], _ =>
      rw [hq] at h2 h3 h4
      exact ⟨x, y, rfl, h2, h3, h4⟩
def ShapedPost (l : List SelD) (i : Nat) (w : World) (e : Ending) (w' : World) : Prop := ∃ b, (b = true → ShapeOk l i) ∧ e = .returned (.bool b) ∧ Hid (Below w.heap.size w w')
set_option maxRecDepth 100000 in
set_option maxHeartbeats 8000000 in
theorem selShaped_any (a : Option Addr) (len cap : Nat) (l : List SelD) (i : Nat) (w : World) (h : Sels w a len l) (hsz : ∀ j, j < len → SzS l j) (hfit : ∀ j, j < len → j + zs l j ≤ len) (hi : i < len) (hlen : len ≤ 200) (hcap : len ≤ cap) (hcm : cap ≤ maxLen) :
    Calls Tryz.prog 20 #[.slice a len cap, .int .i64 (i : Int)] w (ShapedPost l i w) := by
  have HSL := Lib.hid h
  have HKID := Lib.hid (selKids_any a len cap l i w h hsz hfit hi hlen)
  have HBEN := Lib.hid (fun (j : Nat) (w' : World) (h' : Sels w' a len l) (hj : j < len) => selBen_any a len cap l j w' h' hsz hfit hj hlen hcap hcm)
  have HLT := Lib.hid (kid_lt hsz hfit hi)
  have HLEN := Lib.hid (kid_len hsz hfit hi)
  clear h hsz hfit
  go_enter Tryz.func20, Tryz.ntmps20
  go_wp2_with fail
  refine HKID.out.mono ?_
  rintro e w2 ⟨kv, rfl, hkv, hbk⟩
  obtain ⟨ks, hks⟩ : ∃ ks, kids (zs l) i = ks := ⟨_, rfl⟩
  rw [hks] at hkv
  have hS2 := HSL.out.later hbk (Nat.le_refl _)
  obtain ⟨b, off, rfl, hc⟩ := hS2.at (by omega)
  have c := hc i hi
  have c0 := c.kind
  have c1 := c.op
  have c2 := c.key
  have c3 := c.val
  have c4 := c.a
  have c5 := c.b
  have c6 := c.flag
  have c7 := c.size
  obtain ⟨kd_, hkd⟩ : ∃ kd_, (l.getD i default).kind = kd_ := ⟨_, rfl⟩
  obtain ⟨op_, hop⟩ : ∃ op_, (l.getD i default).op = op_ := ⟨_, rfl⟩
  obtain ⟨key, hkey⟩ : ∃ key, (l.getD i default).key = key := ⟨_, rfl⟩
  obtain ⟨val, hval⟩ : ∃ val, (l.getD i default).val = val := ⟨_, rfl⟩
  obtain ⟨a_, ha_⟩ : ∃ a_, (l.getD i default).a = a_ := ⟨_, rfl⟩
  obtain ⟨b_, hb_⟩ : ∃ b_, (l.getD i default).b = b_ := ⟨_, rfl⟩
  obtain ⟨fl_, hfl⟩ : ∃ fl_, (l.getD i default).flag = fl_ := ⟨_, rfl⟩
  obtain ⟨sz_, hsz_⟩ : ∃ sz_, (l.getD i default).size = sz_ := ⟨_, rfl⟩
  rw [hkd] at c0
  rw [hop] at c1
  rw [hkey] at c2
  rw [hval] at c3
  rw [ha_] at c4
  rw [hb_] at c5
  rw [hfl] at c6
  rw [hsz_] at c7
  have hx3 := objAt_alloc_new w2 #[.int .i64 kd_, .int .i64 op_, .string key, .string val, .int .i64 a_, .int .i64 b_, .int .i64 fl_, .int .i64 sz_] 25
  have hal : Below w2.heap.size w2 (w2.alloc (.cells #[.int .i64 kd_, .int .i64 op_, .string key, .string val, .int .i64 a_, .int .i64 b_, .int .i64 fl_, .int .i64 sz_] 25)) := (Below.refl _ _).alloc (Nat.le_refl _) _
  have hkv3 := hkv.ints.below hal
  have hS3 := hS2.below hal
  have hb3 := hbk.trans (hal.mono hbk.size)
  obtain ⟨w3, hw3⟩ : ∃ w3, w2.alloc (.cells #[.int .i64 kd_, .int .i64 op_, .string key, .string val, .int .i64 a_, .int .i64 b_, .int .i64 fl_, .int .i64 sz_] 25) = w3 := ⟨_, rfl⟩
  obtain ⟨X, hX2⟩ : ∃ X, w2.heap.size = X := ⟨_, rfl⟩
  rw [hw3] at hkv3 hS3 hb3
  rw [hw3, hX2] at hx3
  have k0 : w3.cell? ⟨X, 0, none⟩ = some (.int .i64 kd_) := World.objAt.cell hx3 (i := 0) rfl
  have HB3 := Lib.hid hb3
  have HS3 := Lib.hid hS3
  have HKD := Lib.hid (And.intro (show kdS l i = kd_ from hkd) (show kidsS l i = ks from hks))
  have hkl : ∀ j, j < ks.length → ks.getD j 0 < len := fun j hj => HLT.out _ (by rw [hks]; exact getD_memS hj)
  have HKL := Lib.hid hkl
  have hksl : ks.length ≤ 200 := by
    have := HLEN.out
    rw [hks] at this
    omega
  clear hkv hbk hS2 hc c hkd hop hkey hval ha_ hb_ hfl hsz_ hx3 hal hS3 hb3 hks hkl HKID HLT HLEN
  obtain ⟨ka, kcap, rfl, hk1, hk2, hrow⟩ := hkv3
  have HROW := Lib.hid hrow
  clear hrow
  have hcase : kd_ = 23 ∨ (kd_ = 18 ∨ kd_ = 19 ∨ kd_ = 20) ∨ kd_ = 21 ∨ kd_ = 22 ∨ (kd_ ≠ 23 ∧ kd_ ≠ 18 ∧ kd_ ≠ 19 ∧ kd_ ≠ 20 ∧ kd_ ≠ 21 ∧ kd_ ≠ 22) := by omega
  rcases hcase with hk | hk | hk | hk | hk
  · have x23 : (kd_ == 23) = true := by simp; omega
    have x18 : (kd_ == 18) = false := by simp; omega
    have x19 : (kd_ == 19) = false := by simp; omega
    have x20 : (kd_ == 20) = false := by simp; omega
    have x21 : (kd_ == 21) = false := by simp; omega
    have x22 : (kd_ == 22) = false := by simp; omega
    have HK := Lib.hid hk
    clear hk
    go_wp2
    go_loopw [7] (fun j wr => ∃ k : Nat, k ≤ ks.length ∧ j = .int .i64 (k : Int) ∧ Hid (∀ q, q < k → Complex (kdS l (ks.getD q 0))) ∧ wr = w3) (fun j _ => ks.length - (intOf j).toNat)
    case atStart => exact ⟨0, by omega, by go_num, Lib.hid fun q hq => absurd hq (by omega), rfl⟩
    case round =>
      obtain ⟨k, hk, rfl, HD, hw⟩ := hrel
      subst hw
      by_cases hlt : k < ks.length
      · obtain ⟨g, o, rfl, hcell⟩ := HROW.out.2.2 (by omega)
        have ck := hcell k (by simpa using hlt)
        rw [show (ks.map fun (n : Nat) => Value.int .i64 (n : Int)).getD k undef = .int .i64 ((ks.getD k 0 : Nat) : Int) by simp [List.getD_eq_getElem?_getD, hlt]] at ck
        have hzl := HKL.out k hlt
        obtain ⟨z, hz⟩ : ∃ z, ks.getD k 0 = z := ⟨_, rfl⟩
        rw [hz] at ck hzl
        obtain ⟨b', off', hbo, hcs⟩ := HS3.out.at (by omega)
        obtain ⟨rfl, rfl⟩ : b = b' ∧ off = off' := by simpa using hbo
        have cz := (hcs z hzl).kind
        obtain ⟨kz, hkz⟩ : ∃ kz, (l.getD z default).kind = kz := ⟨_, rfl⟩
        rw [hkz] at cz
        have HZ := Lib.hid (And.intro hz (show kdS l z = kz from hkz))
        have HC := Lib.hid (isComplex_any kz wr)
        obtain ⟨cb, hcb⟩ : ∃ cb, isComplexF kz = cb := ⟨_, rfl⟩
        rw [hcb] at HC
        have HCB := Lib.hid hcb
        clear hz hkz hcb hcs hcell hbo
        go_wp2_with fail
        refine HC.out.mono ?_
        rintro e w5 ⟨rfl, rfl⟩
        cases cb
        · go_wp2
          go_ret
          exact ⟨false, (fun h => by cases h), rfl, HB3⟩
        · go_wp2
          go_roundw
          case rel =>
            refine ⟨k + 1, by omega, by go_num, Lib.hid fun q hq => ?_, by trivial⟩
            rcases Nat.lt_or_ge q k with hl | hl
            · exact HD.out q hl
            · obtain rfl : q = k := by omega
              rw [HZ.out.1, HZ.out.2]
              have := HCB.out
              simp only [isComplexF, decide_eq_true_eq] at this
              exact this
          case measure => simp [intOf]; omega
      · obtain rfl : k = ks.length := by omega
        obtain ⟨r, hr⟩ : ∃ r, decide (0 < ks.length) = r := ⟨_, rfl⟩
        have hrI : decide ((0 : Int) < (ks.length : Int)) = r := by rw [← hr]; simp
        have HR := Lib.hid hr
        clear hr
        go_wp2
        go_ret
        refine ⟨decide (0 < ks.length), fun hb => ?_, by first | rfl | (rw [HR.out]), HB3⟩
        exact shape_of kd_ ks HKD.out.1 HKD.out.2 (by have := HK.out; omega) (fun _ => ⟨by simpa using hb, all_of_getD HD.out⟩) (fun h => absurd h (by have := HK.out; omega)) (fun h => absurd h (by have := HK.out; omega)) (fun h => absurd h (by have := HK.out; omega)) (fun h => absurd h (by have := HK.out; omega))
  · rcases hk with hk | hk | hk
    all_goals
      first | (have x23 : (kd_ == 23) = true := by rw [hk]; rfl) | (have x23 : (kd_ == 23) = false := by rw [hk]; rfl)
      first | (have x18 : (kd_ == 18) = true := by rw [hk]; rfl) | (have x18 : (kd_ == 18) = false := by rw [hk]; rfl)
      first | (have x19 : (kd_ == 19) = true := by rw [hk]; rfl) | (have x19 : (kd_ == 19) = false := by rw [hk]; rfl)
      first | (have x20 : (kd_ == 20) = true := by rw [hk]; rfl) | (have x20 : (kd_ == 20) = false := by rw [hk]; rfl)
      have HK := Lib.hid hk
      clear hk
      by_cases h1 : ks.length = 1
      · have e1 : ((ks.length : Int) == 1) = true := by simp; omega
        have hpos : 0 < ks.length := by omega
        have hposI : (0 : Int) < (ks.length : Int) := by omega
        obtain ⟨g, o, rfl, hcell⟩ := HROW.out.2.2 (by omega)
        have ckz := hcell 0 (by simpa using hpos)
        rw [show (ks.map fun (n : Nat) => Value.int .i64 (n : Int)).getD 0 undef = .int .i64 ((ks.getD 0 0 : Nat) : Int) by simp [List.getD_eq_getElem?_getD, hpos]] at ckz
        rw [Nat.add_zero] at ckz
        have hlz := HKL.out 0 hpos
        obtain ⟨z, hz⟩ : ∃ z, ks.getD 0 0 = z := ⟨_, rfl⟩
        rw [hz] at ckz hlz
        obtain ⟨b', off', hbo, hcs⟩ := HS3.out.at (by omega)
        obtain ⟨rfl, rfl⟩ : b = b' ∧ off = off' := by simpa using hbo
        have cz := (hcs z hlz).kind
        obtain ⟨kz, hkz⟩ : ∃ kz, (l.getD z default).kind = kz := ⟨_, rfl⟩
        rw [hkz] at cz
        have HZ := Lib.hid (And.intro h1 (And.intro hz (show kdS l z = kz from hkz)))
        clear h1 hz hkz hcs hcell hbo
        by_cases h23 : kz = 23
        · have e2 : (kz == 23) = true := by simp [h23]
          have HE := Lib.hid h23
          clear h23
          go_wp2_with fail
          refine (HBEN.out i w3 HS3.out hi).mono ?_
          rintro e w5 ⟨a5, n5, c5', l5, rfl, hs5, rfl⟩
          go_wp2_with fail
          refine (hasPseudo_any a5 n5 c5' l5 w3 hs5.out).mono ?_
          rintro e w6 ⟨r, _, rfl, rfl⟩
          cases r
          · go_wp2
            go_ret
            refine ⟨true, fun _ => ?_, rfl, HB3⟩
            exact shape_of kd_ ks HKD.out.1 HKD.out.2 (by have := HK.out; omega) (fun h => absurd h (by have := HK.out; omega)) (fun _ => ⟨HZ.out.1, by rw [HZ.out.2.1, HZ.out.2.2]; exact HE.out⟩) (fun h => absurd h (by have := HK.out; omega)) (fun h => absurd h (by have := HK.out; omega)) (fun h => absurd h (by have := HK.out; omega))
          · go_wp2
            go_ret
            exact ⟨false, (fun h => by cases h), rfl, HB3⟩
        · have e2 : (kz == 23) = false := by simp [h23]
          clear h23
          go_wp2
          go_ret
          exact ⟨false, (fun h => by cases h), rfl, HB3⟩
      · have e1 : ((ks.length : Int) == 1) = false := by simp; omega
        clear h1
        go_wp2
        go_ret
        exact ⟨false, (fun h => by cases h), rfl, HB3⟩
  · have x23 : (kd_ == 23) = false := by simp; omega
    have x18 : (kd_ == 18) = false := by simp; omega
    have x19 : (kd_ == 19) = false := by simp; omega
    have x20 : (kd_ == 20) = false := by simp; omega
    have x21 : (kd_ == 21) = true := by simp; omega
    have x22 : (kd_ == 22) = false := by simp; omega
    have HK := Lib.hid hk
    clear hk
    go_wp2
    go_loopw [8] (fun j wr => ∃ k : Nat, k ≤ ks.length ∧ j = .int .i64 (k : Int) ∧ Hid (∀ q, q < k → 1 ≤ kdS l (ks.getD q 0) ∧ kdS l (ks.getD q 0) ≤ 20 ∧ (kdS l (ks.getD q 0) = 2 → q = 0)) ∧ wr = w3) (fun j _ => ks.length - (intOf j).toNat)
    case atStart => exact ⟨0, by omega, by go_num, Lib.hid fun q hq => absurd hq (by omega), rfl⟩
    case round =>
      obtain ⟨k, hk, rfl, HD, hw⟩ := hrel
      subst hw
      by_cases hlt : k < ks.length
      · obtain ⟨g, o, rfl, hcell⟩ := HROW.out.2.2 (by omega)
        have ckz := hcell k (by simpa using hlt)
        rw [show (ks.map fun (n : Nat) => Value.int .i64 (n : Int)).getD k undef = .int .i64 ((ks.getD k 0 : Nat) : Int) by simp [List.getD_eq_getElem?_getD, hlt]] at ckz
        have hlz := HKL.out k hlt
        obtain ⟨z, hz⟩ : ∃ z, ks.getD k 0 = z := ⟨_, rfl⟩
        rw [hz] at ckz hlz
        obtain ⟨b', off', hbo, hcs⟩ := HS3.out.at (by omega)
        obtain ⟨rfl, rfl⟩ : b = b' ∧ off = off' := by simpa using hbo
        have cz := (hcs z hlz).kind
        obtain ⟨kz, hkz⟩ : ∃ kz, (l.getD z default).kind = kz := ⟨_, rfl⟩
        rw [hkz] at cz
        have HZ := Lib.hid (And.intro hz (show kdS l z = kz from hkz))
        have HC := Lib.hid (isSimple_any kz wr)
        obtain ⟨cb, hcb⟩ : ∃ cb, isSimpleF kz = cb := ⟨_, rfl⟩
        rw [hcb] at HC
        have HCB := Lib.hid hcb
        clear hz hkz hcb hcs hcell hbo
        go_wp2_with fail
        refine HC.out.mono ?_
        rintro e w5 ⟨rfl, rfl⟩
        cases cb
        · go_wp2
          go_ret
          exact ⟨false, (fun h => by cases h), rfl, HB3⟩
        · have hcs2 : 1 ≤ kz ∧ kz ≤ 20 := by have := HCB.out; simpa only [isSimpleF, decide_eq_true_eq] using this
          have HCS := Lib.hid hcs2
          clear hcs2
          by_cases h2 : kz = 2
          · have e2 : (kz == 2) = true := by simp [h2]
            clear h2
            by_cases h0 : 0 < k
            · have e3 : decide ((0 : Int) < (k : Int)) = true := by simp; omega
              have e3n : decide (0 < k) = true := by simp; omega
              go_wp2
              go_ret
              exact ⟨false, (fun h => by cases h), rfl, HB3⟩
            · have e3 : decide ((0 : Int) < (k : Int)) = false := by simp; omega
              have e3n : decide (0 < k) = false := by simp; omega
              have H0 := Lib.hid h0
              clear h0
              go_wp2
              go_roundw
              case rel =>
                refine ⟨k + 1, by omega, by go_num, Lib.hid fun q hq => ?_, by trivial⟩
                rcases Nat.lt_or_ge q k with hl | hl
                · exact HD.out q hl
                · obtain rfl : q = k := by omega
                  rw [HZ.out.1, HZ.out.2]
                  exact ⟨HCS.out.1, HCS.out.2, fun _ => by have := H0.out; omega⟩
              case measure => simp [intOf]; omega
          · have e2 : (kz == 2) = false := by simp [h2]
            have H2 := Lib.hid h2
            clear h2
            go_wp2
            go_roundw
            case rel =>
              refine ⟨k + 1, by omega, by go_num, Lib.hid fun q hq => ?_, by trivial⟩
              rcases Nat.lt_or_ge q k with hl | hl
              · exact HD.out q hl
              · obtain rfl : q = k := by omega
                rw [HZ.out.1, HZ.out.2]
                exact ⟨HCS.out.1, HCS.out.2, fun h => absurd h H2.out⟩
            case measure => simp [intOf]; omega
      · obtain rfl : k = ks.length := by omega
        go_wp2
        go_ret
        refine ⟨true, fun _ => ?_, rfl, HB3⟩
        exact shape_of kd_ ks HKD.out.1 HKD.out.2 (by have := HK.out; omega) (fun h => absurd h (by have := HK.out; omega)) (fun h => absurd h (by have := HK.out; omega)) (fun _ => HD.out) (fun h => absurd h (by have := HK.out; omega)) (fun h => absurd h (by have := HK.out; omega))
  · have x23 : (kd_ == 23) = false := by simp; omega
    have x18 : (kd_ == 18) = false := by simp; omega
    have x19 : (kd_ == 19) = false := by simp; omega
    have x20 : (kd_ == 20) = false := by simp; omega
    have x21 : (kd_ == 21) = false := by simp; omega
    have x22 : (kd_ == 22) = true := by simp; omega
    have HK := Lib.hid hk
    clear hk
    by_cases h1 : ks.length = 2
    · have e1 : ((ks.length : Int) == 2) = true := by simp; omega
      have hpos : 0 < ks.length := by omega
      have hposI : (0 : Int) < (ks.length : Int) := by omega
      have hpos1 : 1 < ks.length := by omega
      have hposI1 : (1 : Int) < (ks.length : Int) := by omega
      obtain ⟨g, o, rfl, hcell⟩ := HROW.out.2.2 (by omega)
      have ckz := hcell 0 (by simpa using hpos)
      rw [show (ks.map fun (n : Nat) => Value.int .i64 (n : Int)).getD 0 undef = .int .i64 ((ks.getD 0 0 : Nat) : Int) by simp [List.getD_eq_getElem?_getD, hpos]] at ckz
      rw [Nat.add_zero] at ckz
      have hlz := HKL.out 0 hpos
      obtain ⟨z, hz⟩ : ∃ z, ks.getD 0 0 = z := ⟨_, rfl⟩
      rw [hz] at ckz hlz
      have cky := hcell 1 (by simpa using hpos1)
      rw [show (ks.map fun (n : Nat) => Value.int .i64 (n : Int)).getD 1 undef = .int .i64 ((ks.getD 1 0 : Nat) : Int) by simp [List.getD_eq_getElem?_getD, hpos1]] at cky
      have hly := HKL.out 1 hpos1
      obtain ⟨y, hy⟩ : ∃ y, ks.getD 1 0 = y := ⟨_, rfl⟩
      rw [hy] at cky hly
      obtain ⟨b', off', hbo, hcs⟩ := HS3.out.at (by omega)
      obtain ⟨rfl, rfl⟩ : b = b' ∧ off = off' := by simpa using hbo
      have cz := (hcs z hlz).kind
      obtain ⟨kz, hkz⟩ : ∃ kz, (l.getD z default).kind = kz := ⟨_, rfl⟩
      rw [hkz] at cz
      have cy := (hcs y hly).kind
      obtain ⟨ky, hky⟩ : ∃ ky, (l.getD y default).kind = ky := ⟨_, rfl⟩
      rw [hky] at cy
      have HZ := Lib.hid (And.intro h1 (And.intro (show kdS l (ks.getD 0 0) = kz by rw [hz]; exact hkz) (show kdS l (ks.getD 1 0) = ky by rw [hy]; exact hky)))
      clear h1 hz hkz hy hky hcs hcell hbo
      have HCz := Lib.hid (isComplex_any kz w3)
      obtain ⟨cbz, hcbz⟩ : ∃ cb, isComplexF kz = cb := ⟨_, rfl⟩
      rw [hcbz] at HCz
      have HCBz := Lib.hid hcbz
      clear hcbz
      have HCy := Lib.hid (isComplex_any ky w3)
      obtain ⟨cby, hcby⟩ : ∃ cb, isComplexF ky = cb := ⟨_, rfl⟩
      rw [hcby] at HCy
      have HCBy := Lib.hid hcby
      clear hcby
      go_wp2_with fail
      refine HCz.out.mono ?_
      rintro e w5 ⟨rfl, rfl⟩
      cases cbz
      · go_wp2
        go_ret
        exact ⟨false, (fun h => by cases h), rfl, HB3⟩
      · go_wp2_with fail
        refine HCy.out.mono ?_
        rintro e w6 ⟨rfl, rfl⟩
        cases cby
        · go_wp2
          go_ret
          exact ⟨false, (fun h => by cases h), rfl, HB3⟩
        · by_cases h22 : ky = 22
          · have e2 : (ky != 22) = false := by simp [h22]
            clear h22
            go_wp2
            go_ret
            exact ⟨false, (fun h => by cases h), rfl, HB3⟩
          · have e2 : (ky != 22) = true := by simp [h22]
            have H22 := Lib.hid h22
            clear h22
            go_wp2_with fail
            refine (HBEN.out z w3 HS3.out hlz).mono ?_
            rintro e w7 ⟨a5, n5, c5', l5, rfl, hs5, rfl⟩
            go_wp2_with fail
            refine (hasPseudo_any a5 n5 c5' l5 w3 hs5.out).mono ?_
            rintro e w8 ⟨r, _, rfl, rfl⟩
            cases r
            · go_wp2
              go_ret
              refine ⟨true, fun _ => ?_, rfl, HB3⟩
              have hz9 := HCBz.out
              have hy9 := HCBy.out
              simp only [isComplexF, decide_eq_true_eq] at hz9 hy9
              exact shape_of kd_ ks HKD.out.1 HKD.out.2 (by have := HK.out; omega) (fun h => absurd h (by have := HK.out; omega)) (fun h => absurd h (by have := HK.out; omega)) (fun h => absurd h (by have := HK.out; omega)) (fun _ => ⟨HZ.out.1, by rw [HZ.out.2.1]; exact hz9, by rw [HZ.out.2.2]; exact hy9, by rw [HZ.out.2.2]; exact H22.out⟩) (fun h => absurd h (by have := HK.out; omega))
            · go_wp2
              go_ret
              exact ⟨false, (fun h => by cases h), rfl, HB3⟩
    · have e1 : ((ks.length : Int) == 2) = false := by simp; omega
      clear h1
      go_wp2
      go_ret
      exact ⟨false, (fun h => by cases h), rfl, HB3⟩
  · have x23 : (kd_ == 23) = false := by simp; omega
    have x18 : (kd_ == 18) = false := by simp; omega
    have x19 : (kd_ == 19) = false := by simp; omega
    have x20 : (kd_ == 20) = false := by simp; omega
    have x21 : (kd_ == 21) = false := by simp; omega
    have x22 : (kd_ == 22) = false := by simp; omega
    have HK := Lib.hid hk
    clear hk
    have HC := Lib.hid (isSimple_any kd_ w3)
    obtain ⟨cb, hcb⟩ : ∃ cb, isSimpleF kd_ = cb := ⟨_, rfl⟩
    rw [hcb] at HC
    have HCB := Lib.hid hcb
    clear hcb
    have ci : w3.cell? ⟨b, off + i * 8, none⟩ = some (.int .i64 kd_) := by
      obtain ⟨b', off', hbo, hcs⟩ := HS3.out.at (by omega)
      obtain ⟨rfl, rfl⟩ : b = b' ∧ off = off' := by simpa using hbo
      rw [← HKD.out.1]
      exact (hcs i hi).kind
    go_wp2_with fail
    refine HC.out.mono ?_
    rintro e w5 ⟨rfl, rfl⟩
    cases cb
    · go_wp2
      go_ret
      exact ⟨false, (fun h => by cases h), rfl, HB3⟩
    · by_cases h0 : ks.length = 0
      · have e1 : ((ks.length : Int) == 0) = true := by rw [h0]; rfl
        have H0 := Lib.hid h0
        clear h0
        go_wp2
        go_ret
        refine ⟨true, fun _ => ?_, rfl, HB3⟩
        have hs9 := HCB.out
        simp only [isSimpleF, decide_eq_true_eq] at hs9
        exact shape_of kd_ ks HKD.out.1 HKD.out.2 (by omega) (fun h => absurd h HK.out.1) (fun h => by have := HK.out; omega) (fun h => absurd h HK.out.2.2.2.2.1) (fun h => absurd h HK.out.2.2.2.2.2) (fun _ => H0.out)
      · have e1 : ((ks.length : Int) == 0) = false := beq_eq_false_iff_ne.2 (by omega)
        clear h0
        go_wp2
        go_ret
        exact ⟨false, (fun h => by cases h), rfl, HB3⟩
end Go.Proofs.YtoanofdomhnafaaGreatDoor
