/- Classes as words: what adding and taking names does to the attributes. Plain. -/
import Derived.Test.YtkdomegcacgpnaaGreatUClassAll
import Derived.Test.YtkdomegcacgpnaaGreatGoIndex
namespace Go.Proofs.YtkdomegcacgpnaaGreat
set_option linter.unusedVariables false
set_option linter.unusedSimpArgs false

abbrev Wds := List (List UInt8)

/-- A byte of a class text. -/
def clsB (b : UInt8) : Prop := b.toNat < 128 ∧ b.toNat ≠ 11 ∧ b.toNat ≠ 12

/-- A text of classes on its way. -/
structure Cls (c : List UInt8) (W : Wds) (n : Nat) : Prop where
  pad : Padded c
  words : wl c = W
  asc : ∀ b ∈ c, clsB b
  len : c.length ≤ n

/-- A name. -/
structure NameOk (w : List UInt8) : Prop where
  ne : w ≠ []
  sp : NoSp w
  asc : ∀ b ∈ w, clsB b
  len : w.length ≤ 1048576

theorem trB_cls {b : UInt8} (h : clsB b) : clsB (trB b) := by
  unfold trB
  split
  · exact ⟨by decide, by decide, by decide⟩
  · exact h

theorem trB_blank {b : UInt8} (h : clsB b) (hs : spaceB (trB b) = true) : trB b = 32 := by
  unfold trB at *
  split at hs
  · rename_i h1; rw [if_pos h1]
  · rename_i h1
    rw [if_neg h1]
    unfold spaceB spaceI at hs
    simp only [Bool.or_eq_true, beq_iff_eq] at hs
    have h9 : b.toNat ≠ 9 := fun e => h1 (.inl (UInt8.toNat_inj.1 e))
    have h13 : b.toNat ≠ 13 := fun e => h1 (.inr (.inl (UInt8.toNat_inj.1 e)))
    have h10 : b.toNat ≠ 10 := fun e => h1 (.inr (.inr (UInt8.toNat_inj.1 e)))
    have h12 := h.2.2
    apply UInt8.toNat_inj.1
    show b.toNat = 32
    omega

theorem cls_start {v : List UInt8} {n : Nat} (h : ∀ b ∈ v, clsB b) (hl : v.length + 2 ≤ n) : Cls ((32 :: (v ++ [32])).map trB) (wl v) n := by
  have hb : ∀ b ∈ 32 :: (v ++ [32]), clsB b := fun b hb => by
    simp at hb
    rcases hb with rfl | hb | rfl
    · exact ⟨by decide, by decide, by decide⟩
    · exact h b hb
    · exact ⟨by decide, by decide, by decide⟩
  refine ⟨⟨fun b hm hs => ?_, ⟨(v ++ [32]).map trB, rfl⟩, ⟨(32 :: v).map trB, by simp; rfl⟩⟩, ?_, fun b hm => ?_, by simpa using hl⟩
  · obtain ⟨a, ha, rfl⟩ := List.mem_map.1 hm
    exact trB_blank (hb a ha) hs
  · rw [wl_tr, wl_space (by decide)]
    have := wl_app (s := 32) (by decide) v []
    rw [wl_nil, List.append_nil] at this
    exact this
  · obtain ⟨a, ha, rfl⟩ := List.mem_map.1 hm
    exact trB_cls (hb a ha)

theorem Cls.in_ {c : List UInt8} {W : Wds} {n : Nat} (h : Cls c W n) {w : List UInt8} (hw : NameOk w) : InL (32 :: (w ++ [32])) c ↔ w ∈ W := by
  constructor
  · rintro ⟨A, B, e⟩
    rw [← h.words, e, wl_occ hw.sp hw.ne]
    simp
  · intro hm
    rw [← h.words] at hm
    obtain ⟨A, B, e⟩ := h.pad.at_ hm
    exact ⟨A, B, e⟩

theorem Cls.more {c : List UInt8} {W : Wds} {n : Nat} (h : Cls c W n) {w : List UInt8} (hw : NameOk w) : Cls (c ++ (w ++ [32])) (W ++ [w]) (n + 1048577) := by
  refine ⟨h.pad.more hw.sp, by rw [h.pad.wl_more hw.sp hw.ne, h.words], fun b hb => ?_, ?_⟩
  · simp at hb
    rcases hb with hb | hb | rfl
    · exact h.asc b hb
    · exact hw.asc b hb
    · exact ⟨by decide, by decide, by decide⟩
  · have := h.len
    have := hw.len
    simp
    omega

theorem Cls.once {c : List UInt8} {W : Wds} {n : Nat} (h : Cls c W n) (hd : W.Nodup) {w : List UInt8} (hw : NameOk w) {A B : List UInt8} (e : c = A ++ (32 :: (w ++ [32])) ++ B) : ¬ InL (32 :: (w ++ [32])) B := by
  rintro ⟨X, Y, rfl⟩
  have h1 := h.words
  rw [e, wl_occ hw.sp hw.ne, wl_occ hw.sp hw.ne] at h1
  rw [← h1] at hd
  have h2 := (List.nodup_append.1 hd).2.1
  rw [List.nodup_cons] at h2
  exact h2.1 (by simp)

theorem Cls.less {c : List UInt8} {W : Wds} {n : Nat} (h : Cls c W n) (hd : W.Nodup) {w : List UInt8} (hw : NameOk w) {r : List UInt8} (hr : (¬ InL (32 :: (w ++ [32])) c ∧ r = c) ∨ ∃ A B, c = A ++ (32 :: (w ++ [32])) ++ B ∧ r = A ++ [32] ++ B) : Cls r (W.filter (fun x => x != w)) n := by
  rcases hr with ⟨hno, rfl⟩ | ⟨A, B, e, rfl⟩
  · have hn : w ∉ W := fun hm => hno ((h.in_ hw).2 hm)
    have : W.filter (fun x => x != w) = W := List.filter_eq_self.2 fun x hx => by
      simp
      rintro rfl
      exact hn hx
    rw [this]
    exact h
  · have h1 := h.words
    rw [e, wl_occ hw.sp hw.ne] at h1
    have hd' := hd
    rw [← h1] at hd'
    have hA : w ∉ wl A := fun hm => by
      have := (List.nodup_append.1 hd').2.2 w hm w (by simp)
      exact this rfl
    have hB : w ∉ wl B := by
      have h2 := (List.nodup_append.1 hd').2.1
      rw [List.nodup_cons] at h2
      exact h2.1
    have hf : W.filter (fun x => x != w) = wl A ++ wl B := by
      rw [← h1, List.filter_append, List.filter_cons_of_neg (by simp)]
      rw [List.filter_eq_self.2 (fun x hx => by simp; rintro rfl; exact hA hx), List.filter_eq_self.2 (fun x hx => by simp; rintro rfl; exact hB hx)]
    have hc : A ++ [32] ++ B = A ++ 32 :: B := by simp
    rw [hc]
    refine ⟨Padded.cut (w := w) (e ▸ h.pad), by rw [wl_cut, hf], fun b hb => h.asc b ?_, ?_⟩
    · rw [e]
      simp at hb ⊢
      rcases hb with hb | hb | hb
      · exact .inl hb
      · exact .inr (.inl hb)
      · exact .inr (.inr (.inr (.inr hb)))
    · have := h.len
      rw [e] at this
      simp at this ⊢
      omega

/-- The words when names are taken, and when names are added. -/
def lessW (W N : Wds) : Wds := W.filter fun x => decide (x ∉ N)
def moreW (W N : Wds) : Wds := W ++ N.filter fun x => decide (x ∉ W)

theorem less_snoc (W N : Wds) (w : List UInt8) : (lessW W N).filter (fun x => x != w) = lessW W (N ++ [w]) := by
  unfold lessW
  rw [List.filter_filter]
  congr 1
  funext x
  by_cases h1 : x ∈ N
  · simp [h1]
  · by_cases h2 : x = w
    · simp [h2]
    · simp [h1, h2]

theorem more_snoc (W N : Wds) (w : List UInt8) (hw : w ∉ N) : (w ∈ moreW W N → moreW W (N ++ [w]) = moreW W N) ∧ (w ∉ moreW W N → moreW W (N ++ [w]) = moreW W N ++ [w]) := by
  unfold moreW
  constructor
  · intro h
    simp at h
    have hW : w ∈ W := by
      rcases h with h | h
      · exact h
      · exact absurd h.1 hw
    rw [List.filter_append]
    simp [hW]
  · intro h
    simp at h
    rw [List.filter_append]
    simp [h.1]

theorem less_nodup {W : Wds} (N : Wds) (h : W.Nodup) : (lessW W N).Nodup := List.Nodup.sublist List.filter_sublist h

theorem more_nodup {W N : Wds} (h : W.Nodup) (hn : N.Nodup) : (moreW W N).Nodup := by
  unfold moreW
  rw [List.nodup_append]
  refine ⟨h, List.Nodup.sublist List.filter_sublist hn, fun a ha b hb => ?_⟩
  rintro rfl
  simp at hb
  exact hb.2 ha

theorem less_more (W N : Wds) : lessW (moreW W N) N = lessW W N := by
  unfold lessW moreW
  rw [List.filter_append, List.filter_filter]
  have : N.filter (fun a => decide (a ∉ N) && decide (a ∉ W)) = [] := by
    rw [List.filter_eq_nil_iff]
    intro a ha
    simp [ha]
  rw [this, List.append_nil]

theorem mem_more {W N : Wds} {x : List UInt8} : x ∈ moreW W N ↔ x ∈ W ∨ x ∈ N := by
  unfold moreW
  simp
  constructor
  · rintro (h | h)
    · exact .inl h
    · exact .inr h.1
  · rintro (h | h)
    · exact .inl h
    · by_cases h2 : x ∈ W
      · exact .inl h2
      · exact .inr ⟨h, h2⟩

/-- As many. -/
theorem more_length {W N : Wds} (hW : W.Nodup) (hN : N.Nodup) : (moreW W N).length = (lessW W N ++ N).length := by
  apply List.Perm.length_eq
  refine (List.perm_ext_iff_of_nodup (more_nodup hW hN) ?_).2 fun x => ?_
  · rw [List.nodup_append]
    refine ⟨less_nodup N hW, hN, fun a ha b hb => ?_⟩
    rintro rfl
    unfold lessW at ha
    simp at ha
    exact ha.2 hb
  · rw [mem_more]
    unfold lessW
    simp
    constructor
    · rintro (h | h)
      · by_cases h2 : x ∈ N
        · exact .inr h2
        · exact .inl ⟨h, h2⟩
      · exact .inr h
    · rintro (h | h)
      · exact .inl h.1
      · exact .inr h

/-- The class of attributes. -/
def ClsVal (l : KVs) : ByteArray := (lookKV l clsK).getD ByteArray.empty

structure GoodC (l : KVs) (W : Wds) (m s : Nat) : Prop where
  dist : DistKV l
  words : wl (ClsVal l).data.toList = W
  nodup : W.Nodup
  asc : ∀ b ∈ (ClsVal l).data.toList, clsB b
  len : l.length ≤ m
  size : ∀ x ∈ l, x.1.size ≤ 200 ∧ x.2.size ≤ s

/-- The same but for the class. -/
def NearC (l l2 : KVs) : Prop := (∀ x ∈ l, x.1.toList ≠ clsK.toList → lookKV l2 x.1 = some x.2) ∧ ∀ x ∈ l2, x.1.toList ≠ clsK.toList → lookKV l x.1 = some x.2

theorem look_eq {l : KVs} : ∀ {k v : ByteArray}, lookKV l k = some v → ∃ x ∈ l, x.1.toList = k.toList ∧ x.2 = v := by
  induction l with
  | nil => intro k v h; simp [lookKV] at h
  | cons x r ih =>
    intro k v h
    simp only [lookKV] at h
    split at h
    · rename_i h1
      exact ⟨x, by simp, h1, by simpa using h⟩
    · obtain ⟨y, hy, h2⟩ := ih h
      exact ⟨y, by simp [hy], h2⟩

theorem look_key {l : KVs} {k k' : ByteArray} (h : k.toList = k'.toList) : lookKV l k = lookKV l k' := by
  induction l with
  | nil => rfl
  | cons x r ih => simp only [lookKV, h, ih]

theorem near_set {l : KVs} (hd : DistKV l) (v : ByteArray) : NearC l (setKV l clsK v) := by
  constructor
  · intro x hx hne
    rw [look_set, if_neg (fun e => hne e.symm)]
    exact look_mem hd hx
  · intro x hx hne
    have h1 := look_mem (dist_set hd clsK v) hx
    rw [look_set, if_neg (fun e => hne e.symm)] at h1
    exact h1

theorem val_mem {l : KVs} {x : ByteArray × ByteArray} (h : lookKV l clsK = some x.2) : ClsVal l = x.2 := by unfold ClsVal; rw [h]; rfl

theorem mem_set2 {l : KVs} {k v : ByteArray} {y : ByteArray × ByteArray} (h : y ∈ setKV l k v) : (∃ x ∈ l, x.1 = y.1 ∧ y.2 = v) ∨ y ∈ l ∨ y = (k, v) := by
  induction l with
  | nil => simp [setKV] at h; exact .inr (.inr h)
  | cons x r ih =>
    simp only [setKV] at h
    by_cases hx : x.1.toList = k.toList
    · rw [if_pos hx] at h
      rcases List.mem_cons.mp h with h | h
      · subst h; exact .inl ⟨x, by simp, rfl, rfl⟩
      · exact .inr (.inl (by simp [h]))
    · rw [if_neg hx] at h
      rcases List.mem_cons.mp h with h | h
      · subst h; exact .inr (.inl (by simp))
      · rcases ih h with ⟨z, hz, he⟩ | he | he
        · exact .inl ⟨z, by simp [hz], he⟩
        · exact .inr (.inl (by simp [he]))
        · exact .inr (.inr he)

theorem bare_sub {c : List UInt8} {b : UInt8} (h : b ∈ bareL c) : b ∈ c := by
  unfold bareL at h
  rw [List.mem_reverse] at h
  have h1 := (List.dropWhile_sublist spaceB).mem h
  rw [List.mem_reverse] at h1
  exact (List.dropWhile_sublist spaceB).mem h1

theorem bare_len (c : List UInt8) : (bareL c).length ≤ c.length := by
  unfold bareL
  rw [List.length_reverse]
  have h1 := (List.dropWhile_sublist spaceB (l := (c.dropWhile spaceB).reverse)).length_le
  have h2 := (List.dropWhile_sublist spaceB (l := c)).length_le
  rw [List.length_reverse] at h1
  omega

/-- A text of classes laid. -/
theorem sets_good {l l1 l2 : KVs} {k : Nat} {val : ByteArray} {c : List UInt8} {W0 W : Wds} {m s n : Nat} (hg : GoodC l W0 m s) (hat : ClsAt l l1 k val) (hc : Cls c W n) (hd : W.Nodup) (hs : Sets l1 k c l2) (hn : n ≤ s) :
    GoodC l2 W (m + 1) s ∧ NearC l l2 := by
  have hcls : clsK.toList = [99, 108, 97, 115, 115] := by rw [ByteArray.toList_eq]; rfl
  rcases hs with ⟨hb0, hrem⟩ | ⟨r, hr, hne, rfl⟩
  · -- the class is taken away
    have hW : W = [] := by
      rw [← hc.words, ← wl_bare c, hb0, wl_nil]
    obtain ⟨hd1, hnear, hl1, hz1⟩ : DistKV l1 ∧ NearC l l1 ∧ l1.length ≤ m + 1 ∧ ∀ x ∈ l1, x.1.size ≤ 200 ∧ x.2.size ≤ s := by
      rcases hat with ⟨rfl, _⟩ | ⟨rfl, hk, hno, _⟩
      · exact ⟨hg.dist, ⟨fun x hx _ => look_mem hg.dist hx, fun x hx _ => look_mem hg.dist hx⟩, by have := hg.len; omega, hg.size⟩
      · rw [← set_none ByteArray.empty hno]
        refine ⟨dist_set hg.dist _ _, near_set hg.dist _, ?_, fun x hx => ?_⟩
        · have := (length_set_le l clsK ByteArray.empty).1
          have := hg.len
          omega
        · rcases mem_set2 hx with ⟨y, hy, h1, h2⟩ | hy | rfl
          · rw [← h1, h2]; exact ⟨(hg.size y hy).1, Nat.zero_le _⟩
          · exact hg.size x hy
          · exact ⟨by decide, Nat.zero_le _⟩
    have hsay := remC_say hd1 hrem
    have hnone : lookKV l2 clsK = none := by
      cases hq : lookKV l2 clsK with
      | none => rfl
      | some y =>
        obtain ⟨x, hx, h1, _⟩ := look_eq hq
        have := ((hsay.mem x).1 hx).2
        rw [h1, hcls] at this
        exact absurd this (by decide)
    have hv : ClsVal l2 = ByteArray.empty := by unfold ClsVal; rw [hnone]; rfl
    refine ⟨⟨hsay.dist, by rw [hv, hW]; rfl, hd, fun b hb => by rw [hv] at hb; exact absurd hb (by simp), by have := hsay.len; omega, fun x hx => hz1 x ((hsay.mem x).1 hx).1⟩, fun x hx hne => ?_, fun x hx hne => ?_⟩
    · have h1 := hnear.1 x hx hne
      obtain ⟨y, hy, h2, h3⟩ := look_eq h1
      have hy2 : y ∈ l2 := (hsay.mem y).2 ⟨hy, by
        rw [h2, ← hcls]
        simpa using hne⟩
      rw [look_key (k' := y.1) h2.symm, look_mem hsay.dist hy2, h3]
    · exact hnear.2 x ((hsay.mem x).1 hx).1 hne
  · -- the class is laid
    have hset : l1.set k ((l1.getD k default).1, r) = setKV l clsK r := by
      rcases hat with ⟨rfl, hk, hno, he, _⟩ | ⟨rfl, rfl, hno, _⟩
      · rw [set_at r hk hno (by rw [he]; simp)]
      · rw [set_none r hno]
        simp [List.getD_eq_getElem?_getD]
    rw [hset]
    have hv : ClsVal (setKV l clsK r) = r := by unfold ClsVal; rw [look_set, if_pos rfl]; rfl
    refine ⟨⟨dist_set hg.dist _ _, by rw [hv, hr, wl_bare, hc.words], hd, fun b hb => ?_, ?_, fun x hx => ?_⟩, near_set hg.dist r⟩
    · rw [hv, hr] at hb
      exact hc.asc b (bare_sub hb)
    · have := (length_set_le l clsK r).1
      have := hg.len
      omega
    · have hrs : r.size ≤ s := by
        rw [size_list, hr]
        have := bare_len c
        have := hc.len
        omega
      rcases mem_set2 hx with ⟨y, hy, h1, h2⟩ | hy | rfl
      · rw [← h1, h2]; exact ⟨(hg.size y hy).1, hrs⟩
      · exact hg.size x hy
      · exact ⟨(by show clsK.size ≤ 200; decide), hrs⟩

end Go.Proofs.YtkdomegcacgpnaaGreat
