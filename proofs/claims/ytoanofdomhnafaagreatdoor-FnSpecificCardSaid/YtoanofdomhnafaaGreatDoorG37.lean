/- Parts of a proof: PdPartsB, PdSeq, PdSel. -/
import Derived.Test.YtoanofdomhnafaaGreatDoorG36
import Derived.Test.YtoanofdomhnafaaGreatDoorG31
import Derived.Test.YtoanofdomhnafaaGreatDoorG32
import Derived.Test.YtoanofdomhnafaaGreatDoorG33
import Derived.Test.YtoanofdomhnafaaGreatDoorG30
import Derived.Test.YtoanofdomhnafaaGreatDoorG17
import Derived.Deep.LoopGhost
set_option linter.unusedVariables false
set_option linter.unusedSimpArgs false
namespace Go.Proofs.YtoanofdomhnafaaGreatDoor
open Go.RowKit
variable {d : Int} {l : List SelD}
theorem decL_dg (n : Nat) : DgL (decL n) := by
  induction n using Nat.strongRecOn with
  | _ n ih =>
    rw [decL]
    split
    · rename_i h
      intro b hb
      have hb := List.mem_singleton.1 hb
      subst hb
      have : (UInt8.ofNat (48 + n)).toNat = 48 + n := by rw [UInt8.toNat_ofNat']; omega
      omega
    · rename_i h
      intro b hb
      rcases List.mem_append.1 hb with hb | hb
      · exact ih (n / 10) (by omega) b hb
      · have hb := List.mem_singleton.1 hb
        subst hb
        have : (UInt8.ofNat (48 + n % 10)).toNat = 48 + n % 10 := by rw [UInt8.toNat_ofNat']; omega
        omega
theorem decL_cons (n : Nat) : ∃ b r, decL n = b :: r := by
  rw [decL]
  split
  · exact ⟨_, _, rfl⟩
  · cases h : decL (n / 10) with
    | nil => exact ⟨_, _, rfl⟩
    | cons b r => exact ⟨_, _, rfl⟩
theorem dec_first {s : ByteArray} {i n : Nat} {R : List UInt8} (h : At s i (decL n ++ R)) : 48 ≤ nx s i ∧ nx s i ≤ 57 := by
  obtain ⟨b, r, hb⟩ := decL_cons n
  have hd := decL_dg n b (by rw [hb]; simp)
  rw [hb] at h
  have := At.head (b := b) (T := r ++ R) h
  rw [this]
  exact hd
theorem int_reads {s : ByteArray} {B i n : Nat} {c : UInt8} {R : List UInt8} (hs : s.size ≤ 9000) (hn : n ≤ 9999) (h : At s i (decL n ++ c :: R)) (hc : ¬ (48 ≤ (c.toNat : Int) ∧ (c.toNat : Int) ≤ 57)) (w : World) (hp : Prs d w B s i) :
    Calls Tryz.prog 66 #[.pointer (some ⟨B, 0, none⟩)] w (IntRead d s B (i + (decL n).length) w) := by
  have hl := decL_len 3 n (by omega)
  obtain ⟨b, r, hb⟩ := decL_cons n
  exact parseInt_at s B i (decL n) w hs hp h.left (decL_dg n) (by rw [hb]; simp) (by omega) (by rw [h.right.head]; exact hc)
theorem nwDig {s : ByteArray} {i : Nat} (h : 48 ≤ nx s i ∧ nx s i ≤ 57) : NoWs s i := ⟨by omega, by omega, by omega, by omega, by omega, by omega⟩
theorem sgnL_at {s : ByteArray} {j : Nat} {b : Int} {R : List UInt8} (h : At s j (sgnL b ++ R)) (hb : -9999 ≤ b ∧ b ≤ 9999) : ∃ n, n ≤ 9999 ∧ (nx s j = 43 ∨ nx s j = 45) ∧ At s (j + 1) (decL n ++ R) ∧ (sgnL b).length = 1 + (decL n).length := by
  unfold sgnL at h ⊢
  split
  · rename_i hlt
    rw [if_pos hlt] at h
    have h2 : At s j (45 :: (decL b.natAbs ++ R)) := h
    exact ⟨b.natAbs, by omega, .inr h2.head, h2.tail, by simp; omega⟩
  · rename_i hlt
    rw [if_neg hlt] at h
    have h2 : At s j (43 :: (decL b.toNat ++ R)) := h
    exact ⟨b.toNat, by omega, .inl h2.head, h2.tail, by simp; omega⟩
theorem cnt_reads {s : ByteArray} {B i : Nat} {a b : Int} (hs : s.size ≤ 9000) (ha : -9999 ≤ a ∧ a ≤ 9999) (hb : -9999 ≤ b ∧ b ≤ 9999) (h : At s i (cntL a b ++ [41])) : NoWs s i ∧ i + (cntL a b).length < s.size ∧ nx s (i + (cntL a b).length) = 41 ∧
    ∀ w, Prs d w B s i → Calls Tryz.prog 59 #[.pointer (some ⟨B, 0, none⟩)] w (NthRead d s B (i + (cntL a b).length) w) := by
  have h41 : At s (i + (cntL a b).length) (41 :: []) := h.right
  have hlt := h41.lt
  have hx41 := h41.head
  unfold cntL at h hlt hx41 ⊢
  by_cases h0 : a < 0
  · rw [if_pos h0] at h hlt hx41 ⊢
    have h1 : At s i (45 :: (decL a.natAbs ++ 110 :: (sgnL b ++ [41]))) := by
      have e : (45 :: (decL a.natAbs ++ 110 :: sgnL b)) ++ [41] = 45 :: (decL a.natAbs ++ 110 :: (sgnL b ++ [41])) := by simp
      rwa [e] at h
    have h45 := h1.head
    have h2 := h1.tail
    have h110 := h2.right.head
    have h3 := h2.right.tail
    obtain ⟨n, hn, hsg, hd, hl⟩ := sgnL_at h3 hb
    have hdf := dec_first hd
    obtain ⟨x, r, hx⟩ := decL_cons a.natAbs
    have hpos : 0 < (decL a.natAbs).length := by rw [hx]; simp
    have e : i + (45 :: (decL a.natAbs ++ 110 :: sgnL b)).length = i + 1 + (decL a.natAbs).length + 1 + 1 + (decL n).length := by simp; omega
    rw [e] at hlt hx41 ⊢
    have hka : i + 1 + (decL a.natAbs).length + 2 = i + 1 + (decL a.natAbs).length + 1 + 1 := by omega
    refine ⟨nwOf h45 (by decide) (by decide) (by decide) (by decide) (by decide) (by decide), hlt, hx41, fun w hp => ?_⟩
    exact nthNeg s B i (i + 1 + (decL a.natAbs).length) _ w hs hp h45 (dec_first h2) (by omega) (by omega) hlt h110 hsg (by rw [hka]; exact nwDig hdf)
      (fun w' hp' => int_reads hs (by omega) h2 (by decide) w' hp') (fun w' hp' => by
        rw [hka] at hp'
        exact int_reads hs hn hd (by decide) w' hp')
  · rw [if_neg h0] at h hlt hx41 ⊢
    have h2 : At s i (decL a.toNat ++ 110 :: (sgnL b ++ [41])) := by
      have e : (decL a.toNat ++ 110 :: sgnL b) ++ [41] = decL a.toNat ++ 110 :: (sgnL b ++ [41]) := by simp
      rwa [e] at h
    have h110 := h2.right.head
    have h3 := h2.right.tail
    obtain ⟨n, hn, hsg, hd, hl⟩ := sgnL_at h3 hb
    have hdf := dec_first hd
    obtain ⟨x, r, hx⟩ := decL_cons a.toNat
    have hpos : 0 < (decL a.toNat).length := by rw [hx]; simp
    have e : i + (decL a.toNat ++ 110 :: sgnL b).length = i + (decL a.toNat).length + 1 + 1 + (decL n).length := by simp; omega
    rw [e] at hlt hx41 ⊢
    have hka : i + (decL a.toNat).length + 2 = i + (decL a.toNat).length + 1 + 1 := by omega
    refine ⟨nwDig (dec_first h2), hlt, hx41, fun w hp => ?_⟩
    exact nthPos s B i (i + (decL a.toNat).length) _ w hs hp (dec_first h2) (by omega) (by omega) hlt h110 hsg (by rw [hka]; exact nwDig hdf)
      (fun w' hp' => int_reads hs (by omega) h2 (by decide) w' hp') (fun w' hp' => by
        rw [hka] at hp'
        exact int_reads hs hn hd (by decide) w' hp')
/-- A word of a pseudo-class. -/
structure WordOk (Wd : List UInt8) : Prop where
  cons : ∃ b r, Wd = b :: r ∧ isNs (b.toNat : Int) = true
  all : ∀ x ∈ Wd, isNc (x.toNat : Int) = true
  size : Wd.length ≤ 1000
section
variable {s : ByteArray} {B i k : Nat}
theorem WordOk.reads {Wd : List UInt8} (hw : WordOk Wd) (hs : s.size ≤ 9000) (h : At s i Wd) (hst : Stop s (i + Wd.length)) (w : World) (hp : Prs d w B s i) :
    Calls Tryz.prog 51 #[.pointer (some ⟨B, 0, none⟩)] w (NmIs d s B (i + Wd.length) (bs Wd) w) := by
  obtain ⟨b, r, rfl, hb⟩ := hw.cons
  exact word_is hs h hb hw.all hst w hp
theorem WordOk.first {Wd : List UInt8} (hw : WordOk Wd) (h : At s i Wd) : nx s i ≠ 58 ∧ 0 < Wd.length := by
  obtain ⟨b, r, rfl, hb⟩ := hw.cons
  rw [h.head]
  refine ⟨fun e => ?_, by simp⟩
  rw [e] at hb
  exact absurd hb (by decide)
theorem wok_nthchild : WordOk [110, 116, 104, 45, 99, 104, 105, 108, 100] := ⟨⟨_, _, rfl, by decide⟩, by decide, by decide⟩
theorem wlow_nthchild : lowS (bs [110, 116, 104, 45, 99, 104, 105, 108, 100]) = ⟨#[110, 116, 104, 45, 99, 104, 105, 108, 100]⟩ := by rfl
theorem wok_nthlastchild : WordOk [110, 116, 104, 45, 108, 97, 115, 116, 45, 99, 104, 105, 108, 100] := ⟨⟨_, _, rfl, by decide⟩, by decide, by decide⟩
theorem wlow_nthlastchild : lowS (bs [110, 116, 104, 45, 108, 97, 115, 116, 45, 99, 104, 105, 108, 100]) = ⟨#[110, 116, 104, 45, 108, 97, 115, 116, 45, 99, 104, 105, 108, 100]⟩ := by rfl
theorem wok_nthoftype : WordOk [110, 116, 104, 45, 111, 102, 45, 116, 121, 112, 101] := ⟨⟨_, _, rfl, by decide⟩, by decide, by decide⟩
theorem wlow_nthoftype : lowS (bs [110, 116, 104, 45, 111, 102, 45, 116, 121, 112, 101]) = ⟨#[110, 116, 104, 45, 111, 102, 45, 116, 121, 112, 101]⟩ := by rfl
theorem wok_nthlastoftype : WordOk [110, 116, 104, 45, 108, 97, 115, 116, 45, 111, 102, 45, 116, 121, 112, 101] := ⟨⟨_, _, rfl, by decide⟩, by decide, by decide⟩
theorem wlow_nthlastoftype : lowS (bs [110, 116, 104, 45, 108, 97, 115, 116, 45, 111, 102, 45, 116, 121, 112, 101]) = ⟨#[110, 116, 104, 45, 108, 97, 115, 116, 45, 111, 102, 45, 116, 121, 112, 101]⟩ := by rfl
theorem wok_onlychild : WordOk [111, 110, 108, 121, 45, 99, 104, 105, 108, 100] := ⟨⟨_, _, rfl, by decide⟩, by decide, by decide⟩
theorem wlow_onlychild : lowS (bs [111, 110, 108, 121, 45, 99, 104, 105, 108, 100]) = ⟨#[111, 110, 108, 121, 45, 99, 104, 105, 108, 100]⟩ := by rfl
theorem wok_onlyoftype : WordOk [111, 110, 108, 121, 45, 111, 102, 45, 116, 121, 112, 101] := ⟨⟨_, _, rfl, by decide⟩, by decide, by decide⟩
theorem wlow_onlyoftype : lowS (bs [111, 110, 108, 121, 45, 111, 102, 45, 116, 121, 112, 101]) = ⟨#[111, 110, 108, 121, 45, 111, 102, 45, 116, 121, 112, 101]⟩ := by rfl
theorem wok_empty : WordOk [101, 109, 112, 116, 121] := ⟨⟨_, _, rfl, by decide⟩, by decide, by decide⟩
theorem wlow_empty : lowS (bs [101, 109, 112, 116, 121]) = ⟨#[101, 109, 112, 116, 121]⟩ := by rfl
theorem wok_root : WordOk [114, 111, 111, 116] := ⟨⟨_, _, rfl, by decide⟩, by decide, by decide⟩
theorem wlow_root : lowS (bs [114, 111, 111, 116]) = ⟨#[114, 111, 111, 116]⟩ := by rfl
theorem wok_input : WordOk [105, 110, 112, 117, 116] := ⟨⟨_, _, rfl, by decide⟩, by decide, by decide⟩
theorem wlow_input : lowS (bs [105, 110, 112, 117, 116]) = ⟨#[105, 110, 112, 117, 116]⟩ := by rfl
theorem wok_link : WordOk [108, 105, 110, 107] := ⟨⟨_, _, rfl, by decide⟩, by decide, by decide⟩
theorem wlow_link : lowS (bs [108, 105, 110, 107]) = ⟨#[108, 105, 110, 107]⟩ := by rfl
theorem wok_enabled : WordOk [101, 110, 97, 98, 108, 101, 100] := ⟨⟨_, _, rfl, by decide⟩, by decide, by decide⟩
theorem wlow_enabled : lowS (bs [101, 110, 97, 98, 108, 101, 100]) = ⟨#[101, 110, 97, 98, 108, 101, 100]⟩ := by rfl
theorem wok_disabled : WordOk [100, 105, 115, 97, 98, 108, 101, 100] := ⟨⟨_, _, rfl, by decide⟩, by decide, by decide⟩
theorem wlow_disabled : lowS (bs [100, 105, 115, 97, 98, 108, 101, 100]) = ⟨#[100, 105, 115, 97, 98, 108, 101, 100]⟩ := by rfl
theorem wok_checked : WordOk [99, 104, 101, 99, 107, 101, 100] := ⟨⟨_, _, rfl, by decide⟩, by decide, by decide⟩
theorem wlow_checked : lowS (bs [99, 104, 101, 99, 107, 101, 100]) = ⟨#[99, 104, 101, 99, 107, 101, 100]⟩ := by rfl
theorem wok_lang : WordOk [108, 97, 110, 103] := ⟨⟨_, _, rfl, by decide⟩, by decide, by decide⟩
theorem wlow_lang : lowS (bs [108, 97, 110, 103]) = ⟨#[108, 97, 110, 103]⟩ := by rfl
theorem wok_contains : WordOk [99, 111, 110, 116, 97, 105, 110, 115] := ⟨⟨_, _, rfl, by decide⟩, by decide, by decide⟩
theorem wlow_contains : lowS (bs [99, 111, 110, 116, 97, 105, 110, 115]) = ⟨#[99, 111, 110, 116, 97, 105, 110, 115]⟩ := by rfl
theorem wok_containsOwn : WordOk [99, 111, 110, 116, 97, 105, 110, 115, 79, 119, 110] := ⟨⟨_, _, rfl, by decide⟩, by decide, by decide⟩
theorem wlow_containsOwn : lowS (bs [99, 111, 110, 116, 97, 105, 110, 115, 79, 119, 110]) = ⟨#[99, 111, 110, 116, 97, 105, 110, 115, 111, 119, 110]⟩ := by rfl
theorem wok_not : WordOk [110, 111, 116] := ⟨⟨_, _, rfl, by decide⟩, by decide, by decide⟩
theorem wlow_not : lowS (bs [110, 111, 116]) = ⟨#[110, 111, 116]⟩ := by rfl
theorem wok_has : WordOk [104, 97, 115] := ⟨⟨_, _, rfl, by decide⟩, by decide, by decide⟩
theorem wlow_has : lowS (bs [104, 97, 115]) = ⟨#[104, 97, 115]⟩ := by rfl
theorem wok_haschild : WordOk [104, 97, 115, 99, 104, 105, 108, 100] := ⟨⟨_, _, rfl, by decide⟩, by decide, by decide⟩
theorem wlow_haschild : lowS (bs [104, 97, 115, 99, 104, 105, 108, 100]) = ⟨#[104, 97, 115, 99, 104, 105, 108, 100]⟩ := by rfl
theorem nthL_ok {f : Int} : WordOk (nthL f) ∧ (lowS (bs (nthL f)) = ⟨#[110, 116, 104, 45, 99, 104, 105, 108, 100]⟩ ∨ lowS (bs (nthL f)) = ⟨#[110, 116, 104, 45, 108, 97, 115, 116, 45, 99, 104, 105, 108, 100]⟩ ∨ lowS (bs (nthL f)) = ⟨#[110, 116, 104, 45, 111, 102, 45, 116, 121, 112, 101]⟩ ∨ lowS (bs (nthL f)) = ⟨#[110, 116, 104, 45, 108, 97, 115, 116, 45, 111, 102, 45, 116, 121, 112, 101]⟩) := by
  unfold nthL
  split
  · exact ⟨wok_nthchild, .inl wlow_nthchild⟩
  · split
    · exact ⟨wok_nthlastchild, .inr (.inl wlow_nthlastchild)⟩
    · split
      · exact ⟨wok_nthoftype, .inr (.inr (.inl wlow_nthoftype))⟩
      · exact ⟨wok_nthlastoftype, .inr (.inr (.inr wlow_nthlastoftype))⟩
theorem relL_ok {f : Int} : WordOk (relL f) ∧ (lowS (bs (relL f)) = ⟨#[110, 111, 116]⟩ ∨ lowS (bs (relL f)) = ⟨#[104, 97, 115]⟩ ∨ lowS (bs (relL f)) = ⟨#[104, 97, 115, 99, 104, 105, 108, 100]⟩) := by
  unfold relL
  split
  · exact ⟨wok_not, .inl wlow_not⟩
  · split
    · exact ⟨wok_has, .inr (.inl wlow_has)⟩
    · exact ⟨wok_haschild, .inr (.inr wlow_haschild)⟩
def PlainWord (Wd : List UInt8) : Prop := WordOk Wd ∧ (lowS (bs (Wd)) = ⟨#[111, 110, 108, 121, 45, 99, 104, 105, 108, 100]⟩ ∨ lowS (bs (Wd)) = ⟨#[111, 110, 108, 121, 45, 111, 102, 45, 116, 121, 112, 101]⟩ ∨ lowS (bs (Wd)) = ⟨#[101, 109, 112, 116, 121]⟩ ∨ lowS (bs (Wd)) = ⟨#[114, 111, 111, 116]⟩ ∨ lowS (bs (Wd)) = ⟨#[105, 110, 112, 117, 116]⟩ ∨ lowS (bs (Wd)) = ⟨#[108, 105, 110, 107]⟩ ∨ lowS (bs (Wd)) = ⟨#[101, 110, 97, 98, 108, 101, 100]⟩ ∨ lowS (bs (Wd)) = ⟨#[100, 105, 115, 97, 98, 108, 101, 100]⟩ ∨ lowS (bs (Wd)) = ⟨#[99, 104, 101, 99, 107, 101, 100]⟩)
theorem onlyL_ok {f : Int} : PlainWord (onlyL f) := by
  unfold onlyL
  split
  · exact ⟨wok_onlychild, .inl wlow_onlychild⟩
  · exact ⟨wok_onlyoftype, .inr (.inl wlow_onlyoftype)⟩
theorem plainL_ok {f : Int} : PlainWord (plainL f) := by
  unfold plainL
  split
  · exact ⟨wok_empty, .inr (.inr (.inl wlow_empty))⟩
  · split
    · exact ⟨wok_root, .inr (.inr (.inr (.inl wlow_root)))⟩
    · split
      · exact ⟨wok_input, .inr (.inr (.inr (.inr (.inl wlow_input))))⟩
      · split
        · exact ⟨wok_link, .inr (.inr (.inr (.inr (.inr (.inl wlow_link)))))⟩
        · split
          · exact ⟨wok_enabled, .inr (.inr (.inr (.inr (.inr (.inr (.inl wlow_enabled))))))⟩
          · split
            · exact ⟨wok_disabled, .inr (.inr (.inr (.inr (.inr (.inr (.inr (.inl wlow_disabled)))))))⟩
            · exact ⟨wok_checked, .inr (.inr (.inr (.inr (.inr (.inr (.inr (.inr (wlow_checked))))))))⟩
/-- A pseudo-class of a word alone. -/
theorem word_part {Wd : List UInt8} (hw : PlainWord Wd) (hs : s.size ≤ 9000) (hA : At s i (58 :: Wd)) (hst : Stop s (i + (58 :: Wd).length)) : PartCalls d s B i (i + (58 :: Wd).length) (0, 1, 0) := by
  obtain ⟨hf, hl⟩ := hw.1.first hA.tail
  have hlen : i + (58 :: Wd).length = i + 1 + Wd.length := by simp; omega
  have hle := hA.tail.le
  rw [hlen] at hst ⊢
  refine .inr (.inr (.inr ⟨hA.head, fun w hp => ?_⟩))
  exact (psPlain s B i _ w hs hp hA.lt hA.head (by omega) hle hf (bs Wd) (by rw [bs_size]; exact hw.1.size) hw.2 (fun w' hp' => hw.1.reads hs hA.tail hst w' hp')).mono fun e w' h => psSem_plain h
/-- What a word in front of a bracket asks. -/
structure Front (s : ByteArray) (i : Nat) (Wd : List UInt8) (R : List UInt8) (j : Nat) : Prop where
  lt : i < s.size
  colon : nx s i = 58
  word : At s (i + 1) Wd
  jeq : j = i + 1 + Wd.length
  le : j ≤ s.size
  ne : nx s (i + 1) ≠ 58
  pos : i + 1 < j
  open_ : nx s j = 40
  rest : At s (j + 1) R
  stop : Stop s j
theorem front_of {Wd R : List UInt8} (hw : WordOk Wd) (hA : At s i (58 :: (Wd ++ 40 :: R))) : Front s i Wd R (i + 1 + Wd.length) := by
  have h1 := hA.tail.left
  have h2 : At s (i + 1 + Wd.length) (40 :: R) := hA.tail.right
  obtain ⟨hf, hl⟩ := hw.first h1
  exact ⟨hA.lt, hA.head, h1, rfl, Nat.le_of_lt h2.lt, hf, by omega, h2.head, h2.tail, stop_of (by have := h2.head; simp at this; omega)⟩
theorem part_nth (hT : SelTree l) (hs : s.size ≤ 9000) (hk : k < l.length) (h : kdS l k = 6) (hA : At s i (T l k)) : PartCalls d s B i (i + (T l k).length) (S l k) := by
  have hx : (l.getD k default).kind = 6 := h
  obtain ⟨n1, n2, n3, n4⟩ := (hT.fields k hk).nums
  have hS := S_sim hT hk (by omega)
  have hT2 := T_sim hT hk (by omega)
  unfold simL at hT2
  rw [if_neg (by omega), if_neg (by omega), if_neg (by omega), if_neg (by omega), if_neg (by omega), if_pos hx] at hT2
  rw [hT2] at hA ⊢
  rw [hS, h]
  obtain ⟨hw, hlow⟩ := nthL_ok (f := (l.getD k default).flag)
  have hf := front_of hw hA
  obtain ⟨hnw, hlt, h41, hc⟩ := cnt_reads (B := B) (d := d) hs ⟨n1, n2⟩ ⟨n3, n4⟩ hf.rest
  have hlen : i + (58 :: (nthL (l.getD k default).flag ++ 40 :: (cntL (l.getD k default).a (l.getD k default).b ++ [41]))).length = i + 1 + (nthL (l.getD k default).flag).length + 1 + (cntL (l.getD k default).a (l.getD k default).b).length + 1 := by simp; omega
  rw [hlen]
  refine .inr (.inr (.inr ⟨hf.colon, fun w hp => ?_⟩))
  exact (psNth s B i _ _ w hs hp hf.lt hf.colon hf.pos hf.le hf.ne (bs (nthL (l.getD k default).flag)) (by rw [bs_size]; exact hw.size) hlow (fun w' hp' => hw.reads hs hf.word hf.stop w' hp') hf.open_ hnw (by omega) hlt h41 hc).mono fun e w' h => psSem_plain h
theorem part_lang (hT : SelTree l) (hs : s.size ≤ 9000) (hk : k < l.length) (h : kdS l k = 15) (hA : At s i (T l k)) : PartCalls d s B i (i + (T l k).length) (S l k) := by
  have hx : (l.getD k default).kind = 15 := h
  have hF := hT.fields k hk
  have hval := hF.valued (.inr (.inr hx))
  have hS := S_sim hT hk (by omega)
  have hT2 := T_sim hT hk (by omega)
  unfold simL at hT2
  rw [if_neg (by omega), if_neg (by omega), if_neg (by omega), if_neg (by omega), if_neg (by omega), if_neg (by omega), if_neg (by omega), if_pos hx] at hT2
  rw [hT2] at hA ⊢
  rw [hS, h]
  have hf := front_of wok_lang hA
  obtain ⟨V, hV⟩ : ∃ V, namedF (l.getD k default).val = V := ⟨_, rfl⟩
  have hfn := name_first hval hf.rest.left
  have h41 := hf.rest.right
  have hln : 0 < (namedF (l.getD k default).val).length := by
    obtain ⟨b, r, hb⟩ := namedF_ne hval
    rw [hb]; simp
  have hlen : i + (58 :: ([108, 97, 110, 103] ++ 40 :: (namedF (l.getD k default).val ++ [41]))).length = i + 1 + ([108, 97, 110, 103] : List UInt8).length + 1 + (namedF (l.getD k default).val).length + 1 := by simp; omega
  rw [hlen]
  have hx41 : nx s (i + 1 + ([108, 97, 110, 103] : List UInt8).length + 1 + (namedF (l.getD k default).val).length) = 41 := h41.head
  have hst41 : Stop s (i + 1 + ([108, 97, 110, 103] : List UInt8).length + 1 + (namedF (l.getD k default).val).length) := stop_of (by rw [hx41]; decide)
  refine .inr (.inr (.inr ⟨hf.colon, fun w hp => ?_⟩))
  exact (psLang s B i _ _ w hs hp hf.lt hf.colon hf.pos hf.le hf.ne (bs [108, 97, 110, 103]) (by rw [bs_size]; decide) wlow_lang (fun w' hp' => wok_lang.reads hs hf.word hf.stop w' hp') hf.open_ (nwFirst hfn.2.ok) (by omega) h41.lt hx41
    (fun w' hp' => ident_reads hs hF.val0 hval hf.rest.left hst41 w' hp')).mono fun e w' h => psSem_plain h
theorem con_part {Wd : List UInt8} {t : ByteArray} (hw : WordOk Wd) (hlow : lowS (bs Wd) = ⟨#[99, 111, 110, 116, 97, 105, 110, 115]⟩ ∨ lowS (bs Wd) = ⟨#[99, 111, 110, 116, 97, 105, 110, 115, 111, 119, 110]⟩) (hz : NoZero t) (hs : s.size ≤ 9000) (hA : At s i (58 :: (Wd ++ 40 :: (quoL t ++ [41])))) :
    PartCalls d s B i (i + (58 :: (Wd ++ 40 :: (quoL t ++ [41]))).length) (0, 1, 0) := by
  have hf := front_of hw hA
  obtain ⟨h34, hq⟩ := qrun_quo t hz hf.rest.left
  have h41 := hf.rest.right
  have hV : 2 ≤ (quoL t).length := by simp [quoL]
  obtain ⟨j, hj⟩ : ∃ j, i + 1 + Wd.length = j := ⟨_, rfl⟩
  rw [hj] at hf h34 hq h41
  obtain ⟨e, he⟩ : ∃ e, j + 1 + (quoL t).length - 1 = e := ⟨_, rfl⟩
  rw [he] at hq
  rw [show j + 1 + (quoL t).length = e + 1 by omega] at h41
  have hlen : i + (58 :: (Wd ++ 40 :: (quoL t ++ [41]))).length = e + 2 := by simp; omega
  rw [hlen]
  refine .inr (.inr (.inr ⟨hf.colon, fun w hp => ?_⟩))
  exact (psCon s B i j e w hs hp hf.lt hf.colon hf.pos hf.le hf.ne (bs Wd) (by rw [bs_size]; exact hw.size) hlow (fun w' hp' => by
      have hst := hf.stop
      rw [← hj] at hst ⊢
      exact hw.reads hs hf.word hst w' hp') hf.open_ (nwOf h34 (by decide) (by decide) (by decide) (by decide) (by decide) (by decide)) h34 hq (by omega) h41.lt h41.head).mono fun e w' h => psSem_plain h
theorem part_con (hT : SelTree l) (hs : s.size ≤ 9000) (hk : k < l.length) (h : kdS l k = 16 ∨ kdS l k = 17) (hA : At s i (T l k)) : PartCalls d s B i (i + (T l k).length) (S l k) := by
  have hF := hT.fields k hk
  have hS := S_sim hT hk (by omega)
  have hT2 := T_sim hT hk (by omega)
  have hS2 : simS (kdS l k) = (0, 1, 0) := by
    unfold simS
    rw [if_neg (by omega), if_neg (by omega), if_neg (by omega)]
  rw [hS, hS2]
  unfold simL at hT2
  rcases h with h | h
  · have hx : (l.getD k default).kind = 16 := h
    rw [if_neg (by omega), if_neg (by omega), if_neg (by omega), if_neg (by omega), if_neg (by omega), if_neg (by omega), if_neg (by omega), if_neg (by omega), if_pos hx] at hT2
    rw [hT2] at hA ⊢
    exact con_part wok_contains (.inl wlow_contains) hF.val0 hs hA
  · have hx : (l.getD k default).kind = 17 := h
    rw [if_neg (by omega), if_neg (by omega), if_neg (by omega), if_neg (by omega), if_neg (by omega), if_neg (by omega), if_neg (by omega), if_neg (by omega), if_neg (by omega), if_pos hx] at hT2
    rw [hT2] at hA ⊢
    exact con_part wok_containsOwn (.inr wlow_containsOwn) hF.val0 hs hA
theorem part_word (hT : SelTree l) (hs : s.size ≤ 9000) (hk : k < l.length) (h : 7 ≤ kdS l k ∧ kdS l k ≤ 14) (hA : At s i (T l k)) (hst : Stop s (i + (T l k).length)) : PartCalls d s B i (i + (T l k).length) (S l k) := by
  have hS := S_sim hT hk (by omega)
  have hT2 := T_sim hT hk (by omega)
  have hS2 : simS (kdS l k) = (0, 1, 0) := by
    unfold simS
    rw [if_neg (by omega), if_neg (by omega), if_neg (by omega)]
  rw [hS, hS2]
  unfold simL at hT2
  have e : kdS l k = (l.getD k default).kind := rfl
  rw [e] at h
  by_cases h7 : (l.getD k default).kind = 7
  · rw [if_neg (by omega), if_neg (by omega), if_neg (by omega), if_neg (by omega), if_neg (by omega), if_neg (by omega), if_pos h7] at hT2
    rw [hT2] at hA hst ⊢
    exact word_part onlyL_ok hs hA hst
  · rw [if_neg (by omega), if_neg (by omega), if_neg (by omega), if_neg (by omega), if_neg (by omega), if_neg (by omega), if_neg (by omega), if_neg (by omega), if_neg (by omega), if_neg (by omega)] at hT2
    rw [hT2] at hA hst ⊢
    exact word_part plainL_ok hs hA hst
/-- Behind a group: the end, or a closing bracket. -/
def EndGrp (s : ByteArray) (j : Nat) : Prop := (s.size = j) ∨ (j < s.size ∧ nx s j = 41)
theorem EndGrp.sel {s : ByteArray} {j : Nat} (h : EndGrp s j) : EndSel s j := by
  rcases h with h | ⟨h, h2⟩
  · exact .inl h
  · exact .inr ⟨h, .inr h2⟩
/-- A group at a place is read. -/
def GrpCalls (l : List SelD) (d : Int) (s : ByteArray) (B i q : Nat) : Prop := ∃ n f, n ≤ 10000 ∧ S l q = pmax f n ∧ ∀ w, Prs d w B s i → Calls Tryz.prog 56 #[.pointer (some ⟨B, 0, none⟩)] w (GrpRead (GrpR n f) d s B (i + (T l q).length) w)
theorem part_rel (hT : SelTree l) (hs : s.size ≤ 9000) (hk : k < l.length) (h : kdS l k = 18 ∨ kdS l k = 19 ∨ kdS l k = 20) (hA : At s i (T l k))
    (hG : ∀ q i, q < l.length → kdS l q = 23 → zs l q < zs l k → At s i (T l q) → EndGrp s (i + (T l q).length) → GrpCalls l d s B i q) : PartCalls d s B i (i + (T l k).length) (S l k) := by
  obtain ⟨m, hm, hm23, hml, hmz⟩ := hT.rel' hk h
  have hS := S_max hT hk (by omega)
  rw [hm] at hS
  simp only [List.map_cons, List.map_nil, List.foldl_cons, List.foldl_nil, triMax_zero] at hS
  have hT2 := T_rel hT hk h hm
  rw [hT2] at hA ⊢
  obtain ⟨hw, hlow⟩ := relL_ok (f := kdS l k)
  have hf := front_of hw hA
  have hg := hf.rest.left
  have h41 := hf.rest.right
  have hx41 := h41.head
  simp at hx41
  have hend : EndGrp s (i + 1 + (relL (kdS l k)).length + 1 + (T l m).length) := .inr ⟨h41.lt, hx41⟩
  obtain ⟨hlt, hfo⟩ := group_first hT hml hm23 hg hend.sel
  obtain ⟨n, f, hn, hnf, hgc⟩ := hG m _ hml hm23 hmz hg hend
  have hlen : i + (58 :: (relL (kdS l k) ++ 40 :: (T l m ++ [41]))).length = i + 1 + (relL (kdS l k)).length + 1 + (T l m).length + 1 := by simp; omega
  rw [hlen, hS, hnf]
  refine .inr (.inr (.inr ⟨hf.colon, fun w hp => ?_⟩))
  exact (psRel s B i _ _ w hs hp hf.lt hf.colon hf.pos hf.le hf.ne (bs (relL (kdS l k))) (by rw [bs_size]; exact hw.size) hlow (fun w' hp' => hw.reads hs hf.word hf.stop w' hp') (GrpR n f) hf.open_ (nwFirst hfo) (by omega) h41.lt hx41 hgc).mono fun e w' h => psSem_rel hp hn h
/-- Each part. -/
theorem part_calls (hT : SelTree l) (hs : s.size ≤ 9000) (hk : k < l.length) (h3 : 3 ≤ kdS l k) (h20 : kdS l k ≤ 20) (hv : (l.getD k default).val.size ≤ 1000) (hA : At s i (T l k)) (hst : Stop s (i + (T l k).length))
    (hG : ∀ q i, q < l.length → kdS l q = 23 → zs l q < zs l k → At s i (T l q) → EndGrp s (i + (T l q).length) → GrpCalls l d s B i q) : PartCalls d s B i (i + (T l k).length) (S l k) := by
  by_cases h18 : 18 ≤ kdS l k
  · exact part_rel hT hs hk (by omega) hA hG
  · by_cases h16 : 16 ≤ kdS l k
    · exact part_con hT hs hk (by omega) hA
    · by_cases h15 : kdS l k = 15
      · exact part_lang hT hs hk h15 hA
      · by_cases h7 : 7 ≤ kdS l k
        · exact part_word hT hs hk ⟨h7, by omega⟩ hA hst
        · by_cases h6 : kdS l k = 6
          · exact part_nth hT hs hk h6 hA
          · by_cases h5 : kdS l k = 5
            · exact part_attr hT hs hk h5 hA hst
            · by_cases h4 : kdS l k = 4
              · exact part_id hT hs hk h4 hv hA hst
              · exact part_class hT hs hk (by omega) hA hst
end
variable {d : Int} {l : List SelD}
/-- All groups smaller than z are read. -/
def SmallGroups (l : List SelD) (d : Int) (s : ByteArray) (B z : Nat) : Prop := ∀ q i, q < l.length → kdS l q = 23 → zs l q < z → At s i (T l q) → EndGrp s (i + (T l q).length) → GrpCalls l d s B i q
theorem seq_calls (hT : SelTree l) {s : ByteArray} {B q i : Nat} (hs : s.size ≤ 9000) (hv : ∀ k, (l.getD k default).val.size ≤ 1000) (hq : q < l.length) (ha : Atom (kdS l q)) (h : At s i (T l q)) (hstop : StopSel s (i + (T l q).length))
    (hG : SmallGroups l d s B (zs l q)) (w : World) (hp : Prs d w B s i) :
    Calls Tryz.prog 33 #[.pointer (some ⟨B, 0, none⟩)] w (SelRead d s B (i + (T l q).length) (S l q) w) := by
  obtain ⟨h0, pos, hsq⟩ := seq_at hT hq ha h hstop
  have hpart : ∀ m, h0 ≤ m → m < (partsS l q).length → pos m < s.size ∧ PartCalls d s B (pos m) (pos (m + 1)) (S l ((partsS l q).getD m 0)) := fun m h1 h2 => by
    obtain ⟨p1, p2, p3, p4, p5⟩ := hsq.part m h2
    obtain ⟨k1, k2⟩ := hsq.kind m h1 h2
    rw [p3] at p4 ⊢
    obtain ⟨b, r, hb, _⟩ := part_first hT p1 k1 k2
    refine ⟨?_, part_calls hT hs p1 k1 k2 (hv _) p2 p4 fun q' i' a1 a2 a3 a4 a5 => hG q' i' a1 a2 (by omega) a4 a5⟩
    rw [hb] at p2
    exact p2.lt
  have hN := hsq.few
  have hlast := hsq.last
  rw [← hlast] at hstop ⊢
  rw [hsq.spec]
  obtain ⟨f, hf⟩ : ∃ f : Nat → Tri, f = fun j => S l ((partsS l q).getD j 0) := ⟨_, rfl⟩
  have hf' : ∀ j, f j = S l ((partsS l q).getD j 0) := fun j => by rw [hf]
  have hpart' : ∀ m, h0 ≤ m → m < (partsS l q).length → pos m < s.size ∧ PartCalls d s B (pos m) (pos (m + 1)) (f m) := fun m h1 h2 => by rw [hf']; exact hpart m h1 h2
  have hf9 : ∀ j, j < (partsS l q).length → Tri9 (f j) := fun j hj => by rw [hf']; exact S_9 hT (hsq.part j hj).1
  have hspec := hsq.spec
  rw [← hf] at hspec ⊢
  have hp9 : ∀ j, j ≤ (partsS l q).length → Tri9 (psum f j) := fun j hj => tot9 (by
    have h1 := psum_mono f j ((partsS l q).length - j)
    rw [show j + ((partsS l q).length - j) = (partsS l q).length by omega, ← hspec] at h1
    have := S_60 hT hq
    omega)
  rcases hsq.lead with ⟨h42, hp0, rfl, h124, hi⟩ | ⟨hp0, rfl, hne⟩ | ⟨hp0, rfl, hne, hk2, hnf, hi⟩
  · exact seqStar s B i _ pos f w hs hp hN hpart' hstop hf9 hp9 h42 hi h124 hp0
  · exact seqNone s B i _ pos f w hs hp hN hpart' hstop hf9 hp9 hne hp0
  · obtain ⟨p1, p2, p3, p4, p5⟩ := hsq.part 0 hne
    rw [hp0] at p2 p3
    rw [p3] at p4
    rw [T_tag hT p1 hk2] at p2 p3 p4
    have hF := hT.fields _ p1
    have hno := hnf.no
    refine seqTag s B i _ pos f w hs hp hN hpart' hstop hf9 hp9 hne hi ⟨hno.1, hno.2.1, hno.2.2.1, hno.2.2.2.1, hno.2.2.2.2⟩ ?_ fun w' hp' => ?_
    · rw [hf', S_sim hT p1 (by omega), hk2]
      rfl
    · rw [p3]
      exact typeA s B i _ w' hs hp' fun w2 hp2 => ident_reads hs hF.key0 (hF.named (.inl hk2)) p2 p4 w2 hp2
variable {d : Int}
theorem FirstOk.nows {s : ByteArray} {i : Nat} (h : FirstOk (nx s i)) : NoWs s i := by
  have := h.no
  exact ⟨by omega, by omega, by omega, by omega, by omega, by omega⟩
theorem EndSel.nows {s : ByteArray} {i : Nat} (h : EndSel s i) : NoWs s i := by
  rcases h with h | ⟨_, h⟩
  · have := nx_end (s := s) (k := i) (by omega)
    unfold NoWs
    omega
  · unfold NoWs
    omega
/-- Between two compounds. -/
def Between (s : ByteArray) (p b : Nat) : Prop := nx s p = 32 ∧ p < s.size ∧ (b = p + 1 ∨ ((nx s (p + 1) = 43 ∨ nx s (p + 1) = 62 ∨ nx s (p + 1) = 126) ∧ nx s (p + 2) = 32 ∧ b = p + 3 ∧ p + 2 < s.size))
theorem between_of {s : ByteArray} {p : Nat} {op : Int} (h1 : 1 ≤ op ∧ op ≤ 4) (h : At s p (combL op)) : Between s p (p + (combL op).length) := by
  unfold combL at h ⊢
  split
  · rename_i e
    rw [if_pos e] at h
    exact ⟨h.head, h.lt, .inl rfl⟩
  · rename_i e
    rw [if_neg e] at h
    split
    · rename_i e2
      rw [if_pos e2] at h
      exact ⟨h.head, h.lt, .inr ⟨.inr (.inl h.tail.head), h.tail.tail.head, rfl, h.tail.tail.lt⟩⟩
    · rename_i e2
      rw [if_neg e2] at h
      split
      · rename_i e3
        rw [if_pos e3] at h
        exact ⟨h.head, h.lt, .inr ⟨.inl h.tail.head, h.tail.tail.head, rfl, h.tail.tail.lt⟩⟩
      · rename_i e3
        rw [if_neg e3] at h
        exact ⟨h.head, h.lt, .inr ⟨.inr (.inr h.tail.head), h.tail.tail.head, rfl, h.tail.tail.lt⟩⟩
set_option maxRecDepth 100000 in
set_option maxHeartbeats 800000000 in
theorem selRun (s : ByteArray) (B i0 z n : Nat) (bp jp : Nat → Nat) (f : Nat → Tri) (w : World) (hs : s.size ≤ 9000) (h : Prs d w B s i0) (hz : i0 + z = bp 0) (hsp : ∀ j, j < z → nx s (i0 + j) = 32)
    (hfirst : ∀ m, m ≤ n → bp m < s.size ∧ FirstOk (nx s (bp m)))
    (hseq : ∀ m, m ≤ n → ∀ w', Prs d w' B s (bp m) → Calls Tryz.prog 33 #[.pointer (some ⟨B, 0, none⟩)] w' (SelRead d s B (jp m) (f m) w'))
    (hcomb : ∀ m, m < n → Between s (jp m) (bp (m + 1))) (hend : EndSel s (jp n)) (hjn : jp n ≤ s.size) (hf : ∀ m, m ≤ n → Tri9 (f m)) (ha : ∀ m, m ≤ n → Tri9 (asum f m)) :
    Calls Tryz.prog 22 #[.pointer (some ⟨B, 0, none⟩)] w (SelRead d s B (jp n) (asum f n) w) := by
  have hBw := World.objAt.lt h
  have HSK0 := Lib.hid (skipWs_any s B i0 z w hs h (by have := (hfirst 0 (by omega)).1; omega) hsp (by rw [hz]; exact (hfirst 0 (by omega)).2.nows))
  have HFI := Lib.hid hfirst
  have HSEQ := Lib.hid hseq
  have HCO := Lib.hid hcomb
  have HE := Lib.hid (And.intro hend hjn)
  have HF := Lib.hid (And.intro hf ha)
  have HP0 := Lib.hid (PK.start h)
  have HZ := Lib.hid hz
  clear h hsp hfirst hseq hcomb hend hjn hf ha hz
  go_enter Tryz.func22, Tryz.ntmps22
  go_wp2_with fail
  refine HSK0.out.mono ?_
  rintro e w1 ⟨rfl, hp1, hk1⟩
  have HP1 := Lib.hid (HP0.out.to (show Prs d w1 B s (bp 0) by rw [← HZ.out]; exact hp1.out) hk1.out)
  clear HP0 HSK0 hp1 hk1
  go_wp2_with fail
  refine ((HSEQ.out 0 (by omega)) _ HP1.out.prs).mono ?_
  rintro e w2 ⟨T, x9, F, rfl, hp2, hk2, HS2⟩
  have HP2 := Lib.hid (HP1.out.to hp2.out hk2.out)
  have hs1 : w.heap.size ≤ w1.heap.size := HP1.out.keep.below.size
  have HT2 := Lib.hid (show SelSem w2 F (.iface T x9) (asum f 0) ∧ ∀ b, F b → w.heap.size ≤ b from ⟨HS2.out.1, fun b hb => Nat.le_trans hs1 (HS2.out.2 b hb)⟩)
  clear HP1 hp2 hk2 HS2 hs1
  go_wp2
  go_loopg [4] n (fun gk v wr => ∃ (m : Nat) (F : Nat → Prop) (T : TypeId) (x9 : Value), gk + m = n ∧ v = .iface T x9 ∧ Hid (PK d w wr B s (jp m)) ∧ Hid (SelSem wr F (.iface T x9) (asum f m) ∧ ∀ b, F b → w.heap.size ≤ b))
  case atStart => exact ⟨0, F, T, x9, by omega, rfl, HP2, HT2⟩
  case round =>
    clear HP2 HT2
    obtain ⟨m, F, T, x9, hgm, rfl, HP, HT⟩ := hrel
    obtain ⟨p, hp⟩ : ∃ p, jp m = p := ⟨_, rfl⟩
    rw [hp] at HP
    by_cases hlt : m < n
    · obtain ⟨b1, b2, b3⟩ := HCO.out m hlt
      obtain ⟨hbl, hbf⟩ := HFI.out (m + 1) (by omega)
      rw [hp] at b1 b2 b3
      obtain ⟨q, hq⟩ : ∃ q, p + 1 = q := ⟨_, rfl⟩
      have hqI : (p : Int) + 1 = (q : Int) := by omega
      rcases b3 with b3 | ⟨b3, b4, b5, b6⟩
      · rw [hq] at b3
        have hbp := b3
        rw [b3] at hbl hbf
        have HSK := Lib.hid (fun w' (h' : Prs d w' B s p) => skipWs_any s B p 1 w' hs h' (by omega) (fun j hj => by rw [show p + j = p by omega]; exact b1) (by rw [hq]; exact hbf.nows))
        obtain ⟨x, hx⟩ : ∃ x, (s[q].toNat : Int) = x := ⟨_, rfl⟩
        have hno := hbf.no
        rw [nx_lt hbl, hx] at hno
        have e1 : (x == 43) = false := by simp; omega
        have e2 : (x == 62) = false := by simp; omega
        have e3 : (x == 126) = false := by simp; omega
        have e4 : (x == 44) = false := by simp; omega
        have e5 : (x == 41) = false := by simp; omega
        have g0 : decide ((s.size : Int) ≤ (q : Int)) = false := by simp; omega
        have g0n : decide (s.size ≤ q) = false := by simp; omega
        clear hno hbf b1 b2 b3
        go_wp2_with fail
        refine (HSK.out _ HP.out.prs).mono ?_
        rintro e w3 ⟨rfl, hp3, hk3⟩
        have HP3 := Lib.hid (HP.out.to (show Prs d w3 B s q by rw [← hq]; exact hp3.out) hk3.out)
        have HT3 := Lib.hid (show SelSem w3 F (.iface T x9) (asum f m) ∧ _ from ⟨HT.out.1.keep (fun b hb => hk3.out.rest b (by have := HT.out.2 b hb; omega) (HT.out.1.1 b hb)), HT.out.2⟩)
        clear HP HT hp3 hk3 HSK
        have c0 : w3.cell? ⟨B, 0, none⟩ = some (.string s) := World.objAt.cell HP3.out.prs (i := 0) rfl
        have c1 : w3.cell? ⟨B, 1, none⟩ = some (.int .i64 ((q : Nat) : Int)) := World.objAt.cell HP3.out.prs (i := 1) rfl
        go_wp2
        go_quiet (fail)
        obtain ⟨w4, hwq⟩ : ∃ w4, (w3.drewN nq) = w4 := ⟨_, rfl⟩
        have HP4 := Lib.hid (show PK d w w4 B s q by rw [← hwq]; exact HP3.out.drew nq)
        have HT4 := Lib.hid (show SelSem w4 F (.iface T x9) (asum f m) ∧ _ from ⟨HT3.out.1.keep (fun b _ => by rw [← hwq, World.heap_drewN]), HT3.out.2⟩)
        rw [hwq]
        clear hwq HP3 nq HT3
        try clear c0 c1
        try clear f1
        have c0 : w4.cell? ⟨B, 0, none⟩ = some (.string s) := World.objAt.cell HP4.out.prs (i := 0) rfl
        have c1 : w4.cell? ⟨B, 1, none⟩ = some (.int .i64 ((q : Nat) : Int)) := World.objAt.cell HP4.out.prs (i := 1) rfl
        go_wp2
        go_quiet (fail)
        obtain ⟨w5, hwq⟩ : ∃ w5, (w4.drewN nq) = w5 := ⟨_, rfl⟩
        have HP5 := Lib.hid (show PK d w w5 B s q by rw [← hwq]; exact HP4.out.drew nq)
        have HT5 := Lib.hid (show SelSem w5 F (.iface T x9) (asum f m) ∧ _ from ⟨HT4.out.1.keep (fun b _ => by rw [← hwq, World.heap_drewN]), HT4.out.2⟩)
        rw [hwq]
        clear hwq HP4 nq HT4
        try clear c0 c1
        try clear f1
        have c0 : w5.cell? ⟨B, 0, none⟩ = some (.string s) := World.objAt.cell HP5.out.prs (i := 0) rfl
        have c1 : w5.cell? ⟨B, 1, none⟩ = some (.int .i64 ((q : Nat) : Int)) := World.objAt.cell HP5.out.prs (i := 1) rfl
        go_wp2_with fail
        have HPp := Lib.hid (show PK d w w5 B s (bp (m + 1)) by rw [hbp]; exact HP5.out)
        refine ((HSEQ.out (m + 1) (by omega)) _ HPp.out.prs).mono ?_
        rintro e w8 ⟨T2, x8, F2, rfl, hp8, hk8, HS8⟩
        have HP8 := Lib.hid (HPp.out.to hp8.out hk8.out)
        have HT8 := Lib.hid (show SelSem w8 F (.iface T x9) (asum f m) ∧ _ from ⟨HT5.out.1.keep (fun b hb => hk8.out.rest b (by have := HT5.out.2 b hb; omega) (HT5.out.1.1 b hb)), HT5.out.2⟩)
        have hs8 : w.heap.size ≤ w5.heap.size := HPp.out.keep.below.size
        have HC8 := Lib.hid (show SelSem w8 (fun b => F b ∨ F2 b) (.iface 60 (.agg #[.iface T x9, .int .u8 (32), .iface T2 x8])) (asum f (m + 1)) ∧ ∀ b, F b ∨ F2 b → w.heap.size ≤ b from ⟨selComb (32) HT8.out.1 HS8.out.1 (HF.out.2 m (by omega)) (HF.out.1 (m + 1) (by omega)), fun b hb => by
            rcases hb with hb | hb
            · exact HT8.out.2 b hb
            · have := HS8.out.2 b hb
              omega⟩)
        clear HT8 HS8 hp8 hk8 HPp HP5
        try clear c0 c1
        try clear f1
        go_wp2
        go_roundg (n - (m + 1))
        case rel => exact ⟨m + 1, _, _, _, by omega, rfl, HP8, HC8⟩
        case measure => omega
      · obtain ⟨q2, hq2⟩ : ∃ q2, q + 1 = q2 := ⟨_, rfl⟩
        have hq2I : (q : Int) + 1 = (q2 : Int) := by omega
        obtain ⟨q3, hq3⟩ : ∃ q3, q2 + 1 = q3 := ⟨_, rfl⟩
        have hbp : bp (m + 1) = q3 := by omega
        rw [hbp] at hbl hbf
        rw [show p + 2 = q2 by omega] at b4 b6
        rw [hq] at b3
        have HSK := Lib.hid (fun w' (h' : Prs d w' B s p) => skipWs_any s B p 1 w' hs h' (by omega) (fun j hj => by rw [show p + j = p by omega]; exact b1) (by rw [hq]; unfold NoWs; omega))
        have HSKB := Lib.hid (fun w' (h' : Prs d w' B s q2) => skipWs_any s B q2 1 w' hs h' (by omega) (fun j hj => by rw [show q2 + j = q2 by omega]; exact b4) (by rw [hq3]; exact hbf.nows))
        have hql : q < s.size := by omega
        obtain ⟨x, hx⟩ : ∃ x, (s[q].toNat : Int) = x := ⟨_, rfl⟩
        rw [nx_lt hql, hx] at b3
        have g0 : decide ((s.size : Int) ≤ (q : Int)) = false := by simp; omega
        have g0n : decide (s.size ≤ q) = false := by simp; omega
        have e0 : (x == 0) = false := by rcases b3 with h | h | h <;> rw [h] <;> rfl
        rcases b3 with hx3 | hx3 | hx3
        all_goals
          first | (have e1 : (x == 43) = true := by rw [hx3]; rfl) | (have e1 : (x == 43) = false := by rw [hx3]; rfl)
          first | (have e2 : (x == 62) = true := by rw [hx3]; rfl) | (have e2 : (x == 62) = false := by rw [hx3]; rfl)
          first | (have e3 : (x == 126) = true := by rw [hx3]; rfl) | (have e3 : (x == 126) = false := by rw [hx3]; rfl)
          clear hx3 hbf b1 b2 b4
          go_wp2_with fail
          refine (HSK.out _ HP.out.prs).mono ?_
          rintro e w3 ⟨rfl, hp3, hk3⟩
          have HP3 := Lib.hid (HP.out.to (show Prs d w3 B s q by rw [← hq]; exact hp3.out) hk3.out)
          have HT3 := Lib.hid (show SelSem w3 F (.iface T x9) (asum f m) ∧ _ from ⟨HT.out.1.keep (fun b hb => hk3.out.rest b (by have := HT.out.2 b hb; omega) (HT.out.1.1 b hb)), HT.out.2⟩)
          clear HP HT hp3 hk3 HSK
          have c0 : w3.cell? ⟨B, 0, none⟩ = some (.string s) := World.objAt.cell HP3.out.prs (i := 0) rfl
          have c1 : w3.cell? ⟨B, 1, none⟩ = some (.int .i64 ((q : Nat) : Int)) := World.objAt.cell HP3.out.prs (i := 1) rfl
          go_wp2
          go_quiet (fail)
          obtain ⟨w4, hwq⟩ : ∃ w4, (w3.drewN nq) = w4 := ⟨_, rfl⟩
          have HP4 := Lib.hid (show PK d w w4 B s q by rw [← hwq]; exact HP3.out.drew nq)
          have HT4 := Lib.hid (show SelSem w4 F (.iface T x9) (asum f m) ∧ _ from ⟨HT3.out.1.keep (fun b _ => by rw [← hwq, World.heap_drewN]), HT3.out.2⟩)
          rw [hwq]
          clear hwq HP3 nq HT3
          try clear c0 c1
          try clear f1
          have c0 : w4.cell? ⟨B, 0, none⟩ = some (.string s) := World.objAt.cell HP4.out.prs (i := 0) rfl
          have c1 : w4.cell? ⟨B, 1, none⟩ = some (.int .i64 ((q : Nat) : Int)) := World.objAt.cell HP4.out.prs (i := 1) rfl
          go_wp2
          go_quiet (fail)
          obtain ⟨w5, hwq⟩ : ∃ w5, (w4.drewN nq) = w5 := ⟨_, rfl⟩
          have HP5 := Lib.hid (show PK d w w5 B s q by rw [← hwq]; exact HP4.out.drew nq)
          have HT5 := Lib.hid (show SelSem w5 F (.iface T x9) (asum f m) ∧ _ from ⟨HT4.out.1.keep (fun b _ => by rw [← hwq, World.heap_drewN]), HT4.out.2⟩)
          rw [hwq]
          clear hwq HP4 nq HT4
          try clear c0 c1
          try clear f1
          have c0 : w5.cell? ⟨B, 0, none⟩ = some (.string s) := World.objAt.cell HP5.out.prs (i := 0) rfl
          have c1 : w5.cell? ⟨B, 1, none⟩ = some (.int .i64 ((q : Nat) : Int)) := World.objAt.cell HP5.out.prs (i := 1) rfl
          go_wp2
          go_quiet (fail)
          obtain ⟨w6, hwq⟩ : ∃ w6, (w5.drewN nq) = w6 := ⟨_, rfl⟩
          have HP6 := Lib.hid (show PK d w w6 B s q by rw [← hwq]; exact HP5.out.drew nq)
          have HT6 := Lib.hid (show SelSem w6 F (.iface T x9) (asum f m) ∧ _ from ⟨HT5.out.1.keep (fun b _ => by rw [← hwq, World.heap_drewN]), HT5.out.2⟩)
          rw [hwq]
          clear hwq HP5 nq HT5
          try clear c0 c1
          try clear f1
          have c0 : w6.cell? ⟨B, 0, none⟩ = some (.string s) := World.objAt.cell HP6.out.prs (i := 0) rfl
          have c1 : w6.cell? ⟨B, 1, none⟩ = some (.int .i64 ((q : Nat) : Int)) := World.objAt.cell HP6.out.prs (i := 1) rfl
          have f1 : w6.frozen? ⟨B, 1, none⟩ = false := World.objAt.free HP6.out.prs 1
          go_wp2_with fail
          have HPs := Lib.hid (HP6.out.at q2)
          obtain ⟨ws, hws⟩ : ∃ ws, (w6.setCell ⟨B, 1, none⟩ (.int .i64 (q2 : Int))) = ws := ⟨_, rfl⟩
          have HPt := Lib.hid (show PK d w ws B s q2 by rw [← hws]; exact HPs.out)
          have HTs := Lib.hid (show SelSem ws F (.iface T x9) (asum f m) ∧ ∀ b, F b → w.heap.size ≤ b from ⟨HT6.out.1.keep (fun b hb => by
            rw [← hws]
            exact Below.heap_setCell _ _ _ _ (by have := HT6.out.2 b hb; show b ≠ B; omega)), HT6.out.2⟩)
          rw [hws]
          clear hws HPs HP6 HT6 c0 c1 f1
          refine (HSKB.out _ HPt.out.prs).mono ?_
          rintro e w7 ⟨rfl, hp7, hk7⟩
          have HP7 := Lib.hid (HPt.out.to (show Prs d w7 B s q3 by rw [← hq3]; exact hp7.out) hk7.out)
          have HT7 := Lib.hid (show SelSem w7 F (.iface T x9) (asum f m) ∧ _ from ⟨HTs.out.1.keep (fun b hb => hk7.out.rest b (by have := HTs.out.2 b hb; omega) (HTs.out.1.1 b hb)), HTs.out.2⟩)
          clear HPt HTs hp7 hk7 HSKB
          go_wp2_with fail
          have HPp := Lib.hid (show PK d w w7 B s (bp (m + 1)) by rw [hbp]; exact HP7.out)
          refine ((HSEQ.out (m + 1) (by omega)) _ HPp.out.prs).mono ?_
          rintro e w8 ⟨T2, x8, F2, rfl, hp8, hk8, HS8⟩
          have HP8 := Lib.hid (HPp.out.to hp8.out hk8.out)
          have HT8 := Lib.hid (show SelSem w8 F (.iface T x9) (asum f m) ∧ _ from ⟨HT7.out.1.keep (fun b hb => hk8.out.rest b (by have := HT7.out.2 b hb; omega) (HT7.out.1.1 b hb)), HT7.out.2⟩)
          have hs8 : w.heap.size ≤ w7.heap.size := HPp.out.keep.below.size
          have HC8 := Lib.hid (show SelSem w8 (fun b => F b ∨ F2 b) (.iface 60 (.agg #[.iface T x9, .int .u8 (x), .iface T2 x8])) (asum f (m + 1)) ∧ ∀ b, F b ∨ F2 b → w.heap.size ≤ b from ⟨selComb (x) HT8.out.1 HS8.out.1 (HF.out.2 m (by omega)) (HF.out.1 (m + 1) (by omega)), fun b hb => by
              rcases hb with hb | hb
              · exact HT8.out.2 b hb
              · have := HS8.out.2 b hb
                omega⟩)
          clear HT8 HS8 hp8 hk8 HPp HP7
          try clear c0 c1
          try clear f1
          go_wp2
          go_roundg (n - (m + 1))
          case rel => exact ⟨m + 1, _, _, _, by omega, rfl, HP8, HC8⟩
          case measure => omega
    · obtain rfl : m = n := by omega
      have hend := HE.out.1
      have hjn := HE.out.2
      rw [hp] at hend hjn
      have HSK := Lib.hid (fun w' (h' : Prs d w' B s p) => skipWs_any s B p 0 w' hs h' (by omega) (fun j hj => absurd hj (by omega)) hend.nows)
      rcases hend with hend | ⟨hend, hx2⟩
      · have g0 : decide ((s.size : Int) ≤ (p : Int)) = true := by simp; omega
        have g0n : decide (s.size ≤ p) = true := by simp; omega
        clear hend hjn
        go_wp2_with fail
        refine (HSK.out _ HP.out.prs).mono ?_
        rintro e w3 ⟨rfl, hp3, hk3⟩
        have HP3 := Lib.hid (HP.out.to (show Prs d w3 B s p from hp3.out) hk3.out)
        have HT3 := Lib.hid (show SelSem w3 F (.iface T x9) (asum f m) ∧ _ from ⟨HT.out.1.keep (fun b hb => hk3.out.rest b (by have := HT.out.2 b hb; omega) (HT.out.1.1 b hb)), HT.out.2⟩)
        clear HP HT hp3 hk3 HSK
        have c0 : w3.cell? ⟨B, 0, none⟩ = some (.string s) := World.objAt.cell HP3.out.prs (i := 0) rfl
        have c1 : w3.cell? ⟨B, 1, none⟩ = some (.int .i64 ((p : Nat) : Int)) := World.objAt.cell HP3.out.prs (i := 1) rfl
        go_wp2
        go_quiet (fail)
        obtain ⟨w4, hwq⟩ : ∃ w4, (w3.drewN nq) = w4 := ⟨_, rfl⟩
        have HP4 := Lib.hid (show PK d w w4 B s p by rw [← hwq]; exact HP3.out.drew nq)
        have HT4 := Lib.hid (show SelSem w4 F (.iface T x9) (asum f m) ∧ _ from ⟨HT3.out.1.keep (fun b _ => by rw [← hwq, World.heap_drewN]), HT3.out.2⟩)
        rw [hwq]
        clear hwq HP3 nq HT3
        try clear c0 c1
        try clear f1
        have c0 : w4.cell? ⟨B, 0, none⟩ = some (.string s) := World.objAt.cell HP4.out.prs (i := 0) rfl
        have c1 : w4.cell? ⟨B, 1, none⟩ = some (.int .i64 ((p : Nat) : Int)) := World.objAt.cell HP4.out.prs (i := 1) rfl
        go_wp2
        go_ret2
        exact ⟨T, x9, F, rfl, Lib.hid (by rw [hp]; exact HP4.out.prs), Lib.hid HP4.out.keep, HT4⟩
      · have g0 : decide ((s.size : Int) ≤ (p : Int)) = false := by simp; omega
        have g0n : decide (s.size ≤ p) = false := by simp; omega
        obtain ⟨x, hx⟩ : ∃ x, (s[p].toNat : Int) = x := ⟨_, rfl⟩
        rw [nx_lt hend, hx] at hx2
        have e1 : (x == 43) = false := by simp; omega
        have e2 : (x == 62) = false := by simp; omega
        have e3 : (x == 126) = false := by simp; omega
        rcases hx2 with hx2 | hx2
        all_goals
          first | (have e4 : (x == 44) = true := by rw [hx2]; rfl) | (have e4 : (x == 44) = false := by rw [hx2]; rfl)
          first | (have e5 : (x == 41) = true := by rw [hx2]; rfl) | (have e5 : (x == 41) = false := by rw [hx2]; rfl)
          clear hx2 hjn
          go_wp2_with fail
          refine (HSK.out _ HP.out.prs).mono ?_
          rintro e w3 ⟨rfl, hp3, hk3⟩
          have HP3 := Lib.hid (HP.out.to (show Prs d w3 B s p from hp3.out) hk3.out)
          have HT3 := Lib.hid (show SelSem w3 F (.iface T x9) (asum f m) ∧ _ from ⟨HT.out.1.keep (fun b hb => hk3.out.rest b (by have := HT.out.2 b hb; omega) (HT.out.1.1 b hb)), HT.out.2⟩)
          clear HP HT hp3 hk3 HSK
          have c0 : w3.cell? ⟨B, 0, none⟩ = some (.string s) := World.objAt.cell HP3.out.prs (i := 0) rfl
          have c1 : w3.cell? ⟨B, 1, none⟩ = some (.int .i64 ((p : Nat) : Int)) := World.objAt.cell HP3.out.prs (i := 1) rfl
          go_wp2
          go_quiet (fail)
          obtain ⟨w4, hwq⟩ : ∃ w4, (w3.drewN nq) = w4 := ⟨_, rfl⟩
          have HP4 := Lib.hid (show PK d w w4 B s p by rw [← hwq]; exact HP3.out.drew nq)
          have HT4 := Lib.hid (show SelSem w4 F (.iface T x9) (asum f m) ∧ _ from ⟨HT3.out.1.keep (fun b _ => by rw [← hwq, World.heap_drewN]), HT3.out.2⟩)
          rw [hwq]
          clear hwq HP3 nq HT3
          try clear c0 c1
          try clear f1
          have c0 : w4.cell? ⟨B, 0, none⟩ = some (.string s) := World.objAt.cell HP4.out.prs (i := 0) rfl
          have c1 : w4.cell? ⟨B, 1, none⟩ = some (.int .i64 ((p : Nat) : Int)) := World.objAt.cell HP4.out.prs (i := 1) rfl
          go_wp2
          go_quiet (fail)
          obtain ⟨w5, hwq⟩ : ∃ w5, (w4.drewN nq) = w5 := ⟨_, rfl⟩
          have HP5 := Lib.hid (show PK d w w5 B s p by rw [← hwq]; exact HP4.out.drew nq)
          have HT5 := Lib.hid (show SelSem w5 F (.iface T x9) (asum f m) ∧ _ from ⟨HT4.out.1.keep (fun b _ => by rw [← hwq, World.heap_drewN]), HT4.out.2⟩)
          rw [hwq]
          clear hwq HP4 nq HT4
          try clear c0 c1
          try clear f1
          have c0 : w5.cell? ⟨B, 0, none⟩ = some (.string s) := World.objAt.cell HP5.out.prs (i := 0) rfl
          have c1 : w5.cell? ⟨B, 1, none⟩ = some (.int .i64 ((p : Nat) : Int)) := World.objAt.cell HP5.out.prs (i := 1) rfl
          go_wp2
          go_ret2
          exact ⟨T, x9, F, rfl, Lib.hid (by rw [hp]; exact HP5.out.prs), Lib.hid HP5.out.keep, HT5⟩
end Go.Proofs.YtoanofdomhnafaaGreatDoor
