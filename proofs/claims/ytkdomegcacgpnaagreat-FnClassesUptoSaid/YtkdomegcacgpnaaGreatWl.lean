/- The words of a text as a list of bytes; plain. -/
import Derived.Test.YtkdomegcacgpnaaGreatTrimAll
import Derived.Test.YtkdomegcacgpnaaGreatAttrsAll
namespace Go.Proofs.YtkdomegcacgpnaaGreat
set_option linter.unusedVariables false
set_option linter.unusedSimpArgs false

/-- The words, while one is under way. -/
def wgo : List UInt8 → List UInt8 → List (List UInt8)
  | cur, [] => if cur = [] then [] else [cur]
  | cur, b :: r => if spaceB b then (if cur = [] then wgo [] r else cur :: wgo [] r) else wgo (cur ++ [b]) r

def wl (L : List UInt8) : List (List UInt8) := wgo [] L

theorem wl_nil : wl [] = [] := rfl

theorem wgo_app {s : UInt8} (hs : spaceB s = true) : ∀ (X cur Y : List UInt8), wgo cur (X ++ s :: Y) = wgo cur X ++ wl Y
  | [], cur, Y => by
    show wgo cur (s :: Y) = _
    by_cases e : cur = []
    · simp [wgo, hs, e, wl]
    · simp [wgo, hs, e, wl]
  | b :: r, cur, Y => by
    show wgo cur (b :: (r ++ s :: Y)) = _
    have h1 := wgo_app hs r [] Y
    have h2 := wgo_app hs r (cur ++ [b]) Y
    by_cases hb : spaceB b = true
    · by_cases e : cur = []
      · simp only [wgo, hb, if_true, e]; exact h1
      · simp only [wgo, hb, if_true, if_neg e, List.cons_append]; rw [h1]
    · simp only [wgo, if_neg hb]; exact h2

theorem wl_app {s : UInt8} (hs : spaceB s = true) (X Y : List UInt8) : wl (X ++ s :: Y) = wl X ++ wl Y := wgo_app hs X [] Y

theorem wl_space {s : UInt8} (hs : spaceB s = true) (Y : List UInt8) : wl (s :: Y) = wl Y := wl_app hs [] Y

def NoSp (w : List UInt8) : Prop := ∀ b ∈ w, spaceB b = false

theorem wgo_word : ∀ (w cur : List UInt8), NoSp w → cur ++ w ≠ [] → wgo cur w = [cur ++ w]
  | [], cur, _, h => by
    rw [List.append_nil] at h ⊢
    simp [wgo, h]
  | b :: r, cur, hn, _ => by
    have hb := hn b (by simp)
    have := wgo_word r (cur ++ [b]) (fun c hc => hn c (List.mem_cons_of_mem _ hc)) (by simp)
    simp only [wgo, hb, Bool.false_eq_true, if_false]
    rw [this]
    simp

theorem wl_word {w : List UInt8} (hn : NoSp w) (h0 : w ≠ []) : wl w = [w] := wgo_word w [] hn (by simpa using h0)

/-- A word between two spaces is a word. -/
theorem wl_mid {s1 s2 : UInt8} (h1 : spaceB s1 = true) (h2 : spaceB s2 = true) {w : List UInt8} (hn : NoSp w) (h0 : w ≠ []) (A B : List UInt8) : wl (A ++ s1 :: (w ++ s2 :: B)) = wl A ++ w :: wl B := by
  rw [wl_app h1, wl_app h2, wl_word hn h0]
  rfl

/-- A word stands somewhere, between spaces or the ends. -/
theorem wgo_at {w : List UInt8} : ∀ (L cur : List UInt8), w ∈ wgo cur L → ∃ X Y, cur ++ L = X ++ (w ++ Y) ∧ (X = [] ∨ ∃ X0 s, X = X0 ++ [s] ∧ spaceB s = true) ∧ (Y = [] ∨ ∃ s Y0, Y = s :: Y0 ∧ spaceB s = true)
  | [], cur, h => by
    by_cases e : cur = []
    · simp [wgo, e] at h
    · simp [wgo, e] at h
      exact ⟨[], [], by simp [h], .inl rfl, .inl rfl⟩
  | b :: r, cur, h => by
    by_cases hb : spaceB b = true
    · have key : w ∈ wgo [] r → ∃ X Y, cur ++ b :: r = X ++ (w ++ Y) ∧ (X = [] ∨ ∃ X0 s, X = X0 ++ [s] ∧ spaceB s = true) ∧ (Y = [] ∨ ∃ s Y0, Y = s :: Y0 ∧ spaceB s = true) := fun h => by
        obtain ⟨X, Y, e1, e2, e3⟩ := wgo_at r [] h
        rw [List.nil_append] at e1
        refine ⟨cur ++ b :: X, Y, by rw [e1]; simp, .inr ?_, e3⟩
        rcases e2 with rfl | ⟨X0, s, rfl, hs⟩
        · exact ⟨cur, b, rfl, hb⟩
        · exact ⟨cur ++ b :: X0, s, by simp, hs⟩
      by_cases e : cur = []
      · simp only [wgo, hb, if_true, e] at h
        exact key h
      · simp only [wgo, hb, if_true, if_neg e, List.mem_cons] at h
        rcases h with h | h
        · exact ⟨[], b :: r, by simp [h], .inl rfl, .inr ⟨b, r, rfl, hb⟩⟩
        · exact key h
    · simp only [wgo, if_neg hb] at h
      obtain ⟨X, Y, e1, e2, e3⟩ := wgo_at r (cur ++ [b]) h
      exact ⟨X, Y, by rw [← e1]; simp, e2, e3⟩

theorem wgo_ok {w : List UInt8} : ∀ (L cur : List UInt8), NoSp cur → w ∈ wgo cur L → w ≠ [] ∧ NoSp w
  | [], cur, hc, h => by
    by_cases e : cur = []
    · simp [wgo, e] at h
    · simp [wgo, e] at h
      subst h
      exact ⟨e, hc⟩
  | b :: r, cur, hc, h => by
    by_cases hb : spaceB b = true
    · by_cases e : cur = []
      · simp only [wgo, hb, if_true, e] at h
        exact wgo_ok r [] (fun _ h => by cases h) h
      · simp only [wgo, hb, if_true, if_neg e, List.mem_cons] at h
        rcases h with rfl | h
        · exact ⟨e, hc⟩
        · exact wgo_ok r [] (fun _ h => by cases h) h
    · simp only [wgo, if_neg hb] at h
      refine wgo_ok r (cur ++ [b]) (fun c hcm => ?_) h
      rcases List.mem_append.1 hcm with h1 | h1
      · exact hc c h1
      · simp at h1; subst h1; simpa using hb

theorem wl_ok {w L : List UInt8} (h : w ∈ wl L) : w ≠ [] ∧ NoSp w := wgo_ok L [] (fun _ h => by cases h) h

/-- White space of some kinds turned to blanks. -/
def trB (b : UInt8) : UInt8 := if b = 9 ∨ b = 13 ∨ b = 10 then 32 else b

theorem trB_space (b : UInt8) : spaceB (trB b) = spaceB b := by
  unfold trB
  by_cases h : b = 9 ∨ b = 13 ∨ b = 10
  · rw [if_pos h]
    rcases h with rfl | rfl | rfl <;> rfl
  · rw [if_neg h]

theorem trB_word {b : UInt8} (h : spaceB b = false) : trB b = b := by
  unfold trB
  rw [if_neg]
  rintro (rfl | rfl | rfl) <;> exact absurd h (by decide)

theorem wgo_tr : ∀ (L cur : List UInt8), wgo cur (L.map trB) = wgo cur L
  | [], cur => rfl
  | b :: r, cur => by
    rw [List.map_cons]
    by_cases hb : spaceB b = true
    · have h2 : spaceB (trB b) = true := by rw [trB_space]; exact hb
      simp only [wgo, hb, h2, if_true]
      rw [wgo_tr r []]
    · have hb' : spaceB b = false := by simpa using hb
      have h2 : spaceB (trB b) = false := by rw [trB_space]; exact hb'
      simp only [wgo, hb', h2, Bool.false_eq_true, if_false]
      rw [wgo_tr r, trB_word hb']

theorem wl_tr (L : List UInt8) : wl (L.map trB) = wl L := wgo_tr L []

theorem wl_dropWhile : ∀ L : List UInt8, wl (L.dropWhile spaceB) = wl L
  | [] => rfl
  | b :: r => by
    by_cases hb : spaceB b = true
    · rw [List.dropWhile_cons, if_pos hb, wl_dropWhile r, wl_space hb]
    · rw [List.dropWhile_cons, if_neg hb]

theorem wl_dropEnd : ∀ L : List UInt8, wl ((L.dropWhile spaceB).reverse) = wl L.reverse
  | [] => rfl
  | b :: r => by
    by_cases hb : spaceB b = true
    · rw [List.dropWhile_cons, if_pos hb, wl_dropEnd r, List.reverse_cons]
      have := wl_app hb r.reverse []
      rw [this, wl_nil, List.append_nil]
    · rw [List.dropWhile_cons, if_neg hb]

theorem wl_bare (L : List UInt8) : wl (bareL L) = wl L := by
  unfold bareL
  rw [wl_dropEnd, List.reverse_reverse, wl_dropWhile]

/-- The bytes as a text. -/
def ofL (l : List UInt8) : ByteArray := ⟨l.toArray⟩
theorem ofL_list (l : List UInt8) : (ofL l).data.toList = l := by simp [ofL]
theorem ofL_of (s : ByteArray) : ofL s.data.toList = s := by cases s; simp [ofL]
theorem ofL_inj {a b : List UInt8} (h : ofL a = ofL b) : a = b := by
  have := congrArg (fun s : ByteArray => s.data.toList) h
  simpa [ofL] using this

theorem isSp_space (b : UInt8) : isSp (b.toNat : Int) = spaceB b := rfl

/-- The state of the reference's word splitting. -/
theorem wst_wl (s : ByteArray) : ∀ k, k ≤ s.size → ∃ m ws, wst s k = (m, ws) ∧ m ≤ k ∧ wl s.data.toList = ws.map (·.data.toList) ++ wgo ((s.data.toList.drop m).take (k - m)) (s.data.toList.drop k)
  | 0, _ => ⟨0, [], rfl, Nat.le_refl _, by simp [wl]⟩
  | k + 1, hk => by
    obtain ⟨m, ws, h1, h2, h3⟩ := wst_wl s k (by omega)
    have hks : k < s.size := by omega
    have hkl : k < s.data.toList.length := by rw [← size_list]; exact hks
    have hdrop : s.data.toList.drop k = s[k] :: s.data.toList.drop (k + 1) := by
      rw [List.drop_eq_getElem_cons hkl]
      rfl
    have hcut : (s.data.toList.drop m).take (k + 1 - m) = (s.data.toList.drop m).take (k - m) ++ [s[k]] := by
      have e : k + 1 - m = (k - m) + 1 := by omega
      rw [e, List.take_add_one]
      congr 1
      rw [List.getElem?_drop, show m + (k - m) = k by omega, List.getElem?_eq_getElem hkl]
      rfl
    rw [hdrop] at h3
    by_cases hb : spaceB s[k] = true
    · have hw := wst_cut h1 hks (by rw [isSp_space]; exact hb)
      by_cases hm : m < k
      · rw [if_pos hm] at hw
        refine ⟨k + 1, _, hw, Nat.le_refl _, ?_⟩
        have hne : (s.data.toList.drop m).take (k - m) ≠ [] := fun e => by
          have := congrArg List.length e
          rw [List.length_take, List.length_drop] at this
          simp at this
          omega
        rw [h3, Nat.sub_self, List.take_zero, List.map_append, List.map_singleton, extract_list]
        simp only [wgo, hb, if_true, if_neg hne]
        simp
      · rw [if_neg hm] at hw
        have hmk : m = k := by omega
        refine ⟨k + 1, _, hw, Nat.le_refl _, ?_⟩
        rw [h3, hmk, Nat.sub_self, Nat.sub_self, List.take_zero, List.take_zero]
        simp only [wgo, hb, if_true]
    · have hb' : spaceB s[k] = false := by simpa using hb
      have hw := wst_word h1 hks (by rw [isSp_space]; exact hb')
      refine ⟨m, ws, hw, by omega, ?_⟩
      rw [h3, hcut]
      simp only [wgo, hb', Bool.false_eq_true, if_false]

theorem wordsF_wl (s : ByteArray) : (wordsF s).map (·.data.toList) = wl s.data.toList := by
  obtain ⟨m, ws, h1, h2, h3⟩ := wst_wl s s.size (Nat.le_refl _)
  have hd : s.data.toList.drop s.size = [] := List.drop_eq_nil_of_le (by rw [← size_list]; exact Nat.le_refl _)
  rw [hd] at h3
  unfold wordsF
  rw [wst_end h1, h3]
  by_cases hm : m < s.size
  · rw [if_pos hm, List.map_append, List.map_singleton, extract_list]
    have hne : (s.data.toList.drop m).take (s.size - m) ≠ [] := fun e => by
      have := congrArg List.length e
      rw [List.length_take, List.length_drop, ← size_list] at this
      simp at this
      omega
    simp only [wgo, if_neg hne]
  · rw [if_neg hm]
    have hmk : m = s.size := by omega
    rw [hmk, Nat.sub_self, List.take_zero]
    simp [wgo]

theorem wordsF_mem (s w : ByteArray) : w ∈ wordsF s ↔ w.data.toList ∈ wl s.data.toList := by
  rw [← wordsF_wl, List.mem_map]
  constructor
  · intro h; exact ⟨w, h, rfl⟩
  · rintro ⟨v, hv, e⟩
    have : v = w := by rw [← ofL_of v, ← ofL_of w, e]
    rw [← this]; exact hv

/-- A text that begins and ends with a blank, and has no other white space. -/
structure Padded (c : List UInt8) : Prop where
  blank : ∀ b ∈ c, spaceB b = true → b = 32
  head : ∃ r, c = 32 :: r
  last : ∃ r, c = r ++ [32]

/-- A word of such a text stands between blanks. -/
theorem Padded.at_ {c : List UInt8} (h : Padded c) {w : List UInt8} (hw : w ∈ wl c) : ∃ A B, c = A ++ (32 :: (w ++ [32])) ++ B := by
  obtain ⟨h0, hn⟩ := wl_ok hw
  obtain ⟨X, Y, e1, e2, e3⟩ := wgo_at c [] hw
  rw [List.nil_append] at e1
  have hX : ∃ X0, X = X0 ++ [32] := by
    rcases e2 with rfl | ⟨X0, s, rfl, hs⟩
    · obtain ⟨r, hr⟩ := h.head
      rw [List.nil_append, hr] at e1
      cases w with
      | nil => exact absurd rfl h0
      | cons b w =>
        simp at e1
        have := hn b (by simp)
        rw [← e1.1] at this
        exact absurd this (by decide)
    · have : s = 32 := h.blank s (by rw [e1]; simp) hs
      exact ⟨X0, by rw [this]⟩
  have hY : ∃ Y0, Y = 32 :: Y0 := by
    rcases e3 with rfl | ⟨s, Y0, rfl, hs⟩
    · obtain ⟨r, hr⟩ := h.last
      rw [List.append_nil, hr] at e1
      have h5 : w.getLast? = some 32 := by
        have := congrArg List.getLast? e1
        rw [List.getLast?_append, List.getLast?_append] at this
        simp at this
        cases hg : w.getLast? with
        | none => rw [List.getLast?_eq_none_iff] at hg; exact absurd hg h0
        | some b => rw [hg] at this; simp at this; rw [this]
      have := hn 32 (List.mem_of_getLast? h5)
      exact absurd this (by decide)
    · have : s = 32 := h.blank s (by rw [e1]; simp) hs
      exact ⟨Y0, by rw [this]⟩
  obtain ⟨X0, rfl⟩ := hX
  obtain ⟨Y0, rfl⟩ := hY
  exact ⟨X0, Y0, by rw [e1]; simp⟩

theorem wl_occ {w : List UInt8} (hn : NoSp w) (h0 : w ≠ []) (A B : List UInt8) : wl (A ++ (32 :: (w ++ [32])) ++ B) = wl A ++ w :: wl B := by
  have := wl_mid (s1 := 32) (s2 := 32) (by decide) (by decide) hn h0 A B
  rw [← this]
  simp

/-- One word taken. -/
theorem Padded.cut {A B w : List UInt8} (h : Padded (A ++ (32 :: (w ++ [32])) ++ B)) : Padded (A ++ 32 :: B) := by
  refine ⟨fun b hb hs => h.blank b ?_ hs, ?_, ?_⟩
  · simp at hb ⊢
    rcases hb with hb | hb | hb
    · exact .inl hb
    · exact .inr (.inl hb)
    · exact .inr (.inr (.inr (.inr hb)))
  · cases A with
    | nil => exact ⟨B, rfl⟩
    | cons a A =>
      obtain ⟨r, hr⟩ := h.head
      simp at hr
      exact ⟨A ++ 32 :: B, by rw [hr.1]; rfl⟩
  · rcases B.eq_nil_or_concat with rfl | ⟨B0, b, rfl⟩
    · exact ⟨A, rfl⟩
    · obtain ⟨r, hr⟩ := h.last
      have h6 : (A ++ (32 :: (w ++ [32])) ++ B0) ++ [b] = r ++ [32] := by rw [← hr, List.concat_eq_append]; simp [List.append_assoc]
      have h7 := (List.append_inj' h6 rfl).2
      simp at h7
      exact ⟨A ++ 32 :: B0, by rw [h7, List.concat_eq_append]; simp⟩

theorem wl_cut (A B : List UInt8) : wl (A ++ 32 :: B) = wl A ++ wl B := wl_app (by decide) A B

/-- One word more. -/
theorem Padded.more {c w : List UInt8} (h : Padded c) (hn : NoSp w) : Padded (c ++ (w ++ [32])) := by
  refine ⟨fun b hb hs => ?_, ?_, ⟨c ++ w, by simp⟩⟩
  · simp at hb
    rcases hb with hb | hb | hb
    · exact h.blank b hb hs
    · rw [hn b hb] at hs; cases hs
    · exact hb
  · obtain ⟨r, hr⟩ := h.head
    exact ⟨r ++ (w ++ [32]), by rw [hr]; rfl⟩

theorem Padded.wl_more {c w : List UInt8} (h : Padded c) (hn : NoSp w) (h0 : w ≠ []) : wl (c ++ (w ++ [32])) = wl c ++ [w] := by
  obtain ⟨r, hr⟩ := h.last
  have e : c ++ (w ++ [32]) = r ++ (32 :: (w ++ [32])) ++ [] := by rw [hr]; simp
  rw [e, wl_occ hn h0, hr]
  have := wl_cut r []
  rw [show r ++ [32] = r ++ 32 :: [] from rfl, this, wl_nil]
  simp

end Go.Proofs.YtkdomegcacgpnaaGreat
