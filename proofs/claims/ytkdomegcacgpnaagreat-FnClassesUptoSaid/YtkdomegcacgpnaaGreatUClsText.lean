/- The text of names of classes: joined, bare, cut into words. -/
import Derived.Test.YtkdomegcacgpnaaGreatUClsPure
import Derived.Test.YtkdomegcacgpnaaGreatJoinZ
import Derived.Test.YtkdomegcacgpnaaGreatAttrsAll
namespace Go.Proofs.YtkdomegcacgpnaaGreat
open Go.RowKit
set_option linter.unusedVariables false
set_option linter.unusedSimpArgs false

theorem tail_words : ∀ (r : Wds) (x : List UInt8), NameOk x → (∀ y ∈ r, NameOk y) → wl (x ++ Lib.joinTail [32] r) = x :: r
  | [], x, hx, _ => by
    have : Lib.joinTail [32] [] = [] := rfl
    rw [this, List.append_nil, wl_word hx.sp hx.ne]
  | y :: t, x, hx, h => by
    have e : Lib.joinTail [32] (y :: t) = 32 :: (y ++ Lib.joinTail [32] t) := by simp [Lib.joinTail]
    rw [e, wl_app (by decide), wl_word hx.sp hx.ne, tail_words t y (h y (by simp)) (fun z hz => h z (by simp [hz]))]
    rfl

theorem join_words {L : Wds} (h0 : L ≠ []) (h : ∀ y ∈ L, NameOk y) : wl (Lib.join L [32]) = L := by
  cases L with
  | nil => exact absurd rfl h0
  | cons x r => rw [Lib.join_cons, tail_words r x (h x (by simp)) (fun y hy => h y (by simp [hy]))]

theorem tail_cls : ∀ (r : Wds), (∀ y ∈ r, NameOk y) → (∀ b ∈ Lib.joinTail [32] r, clsB b) ∧ (Lib.joinTail [32] r).length ≤ 1048577 * r.length
  | [], _ => ⟨fun b hb => by simp [Lib.joinTail] at hb, by simp [Lib.joinTail]⟩
  | y :: t, h => by
    have e : Lib.joinTail [32] (y :: t) = 32 :: (y ++ Lib.joinTail [32] t) := by simp [Lib.joinTail]
    obtain ⟨h1, h2⟩ := tail_cls t (fun z hz => h z (by simp [hz]))
    have h3 := (h y (by simp)).len
    rw [e]
    refine ⟨fun b hb => ?_, by simp; omega⟩
    simp at hb
    rcases hb with rfl | hb | hb
    · exact ⟨by decide, by decide, by decide⟩
    · exact (h y (by simp)).asc b hb
    · exact h1 b hb

theorem join_cls {L : Wds} (h : ∀ y ∈ L, NameOk y) : (∀ b ∈ Lib.join L [32], clsB b) ∧ (Lib.join L [32]).length ≤ 1048577 * L.length := by
  cases L with
  | nil => exact ⟨fun b hb => by simp [Lib.join_nil] at hb, by simp [Lib.join_nil]⟩
  | cons x r =>
    rw [Lib.join_cons]
    obtain ⟨h1, h2⟩ := tail_cls r (fun y hy => h y (by simp [hy]))
    have h3 := (h x (by simp)).len
    refine ⟨fun b hb => ?_, by simp; omega⟩
    rcases List.mem_append.1 hb with hb | hb
    · exact (h x (by simp)).asc b hb
    · exact h1 b hb

/-- Names as they lie in memory. -/
structure NamesAt (w : World) (a : Option Addr) (xs : List ByteArray) (c : Nat) : Prop where
  cells : StrCells w a xs.length xs
  cap : xs.length ≤ c
  ok : ∀ x ∈ xs, NameOk x.data.toList
  nodup : (xs.map (·.data.toList)).Nodup
  pos : 0 < xs.length
  few : xs.length ≤ 1048576

theorem NamesAt.below {w w' : World} {a : Option Addr} {xs : List ByteArray} {c : Nat} (h : NamesAt w a xs c) (hb : Below w.heap.size w w') : NamesAt w' a xs c := ⟨h.cells.below hb, h.cap, h.ok, h.nodup, h.pos, h.few⟩

theorem cls_at {c : ByteArray} (h : ∀ b ∈ c.data.toList, clsB b) : ∀ i (h : i < c.size), (c[i]'h).toNat < 128 ∧ (c[i]'h).toNat ≠ 11 := fun i hi => by
  have hm : c[i] ∈ c.data.toList := by
    rw [Array.mem_toList_iff]
    exact Array.getElem_mem (by exact hi)
  exact ⟨(h _ hm).1, (h _ hm).2.1⟩

/-- The names joined. -/
def JoinPost (xs : List ByteArray) (w : World) (e : Ending) (w' : World) : Prop := ∃ r : ByteArray, e = .returned (.string r) ∧ Hid (wl r.data.toList = xs.map (·.data.toList)) ∧ Hid (∀ b ∈ r.data.toList, clsB b) ∧ r.size ≤ 1099512676352 ∧ Hid (Below w.heap.size w w')

theorem join_any (a : Option Addr) (xs : List ByteArray) (c : Nat) (w : World) (h : NamesAt w a xs c) :
    Calls Tryz.prog 74 #[.slice a xs.length c, .string ⟨#[32]⟩] w (JoinPost xs w) := by
  obtain ⟨b, off, rfl, hc⟩ := h.cells.2 h.pos
  have hL : ∀ y ∈ xs.map (·.data.toList), NameOk y := fun y hy => by
    obtain ⟨x, hx, rfl⟩ := List.mem_map.1 hy
    exact h.ok x hx
  have hcl := join_cls hL
  have hfew := h.few
  rw [List.length_map] at hcl
  have hne : xs.map (·.data.toList) ≠ [] := fun e => by
    have h1 := h.pos
    have h2 := congrArg List.length e
    simp at h2
    rw [h2] at h1
    simp at h1
  refine (Tryz.strings_Join b off c xs ⟨#[32]⟩ w (fun j x hx => ?_) ?_ (by omega) h.cap (by show (Lib.join _ [32]).length ≤ _; omega)).mono fun e w' ⟨he, hb⟩ => ?_
  · have hj : j < xs.length := by
      rw [List.getElem?_eq_some_iff] at hx
      exact hx.1
    have h1 := hc j hj
    rw [List.getD_eq_getElem?_getD, hx] at h1
    exact h1
  · exact World.block_lt_of_cell? w _ (hc 0 h.pos)
  · refine ⟨⟨(Lib.join (xs.map (·.data.toList)) [32]).toArray⟩, he, Lib.hid ?_, Lib.hid ?_, ?_, Lib.hid hb⟩
    · show wl (Lib.join (xs.map (·.data.toList)) [32]).toArray.toList = _
      rw [List.toList_toArray, join_words hne hL]
    · show ∀ b ∈ (Lib.join (xs.map (·.data.toList)) [32]).toArray.toList, clsB b
      rw [List.toList_toArray]
      exact hcl.1
    · show (Lib.join (xs.map (·.data.toList)) [32]).toArray.size ≤ 1099512676352
      simp only [List.size_toArray]
      omega

/-- The value of the class that a text gives. -/
theorem at_val {l l1 : KVs} {k : Nat} {val : ByteArray} (h : ClsAt l l1 k val) : ClsVal l = val := by
  rcases h with ⟨rfl, hk, hno, he, hv⟩ | ⟨rfl, hk, hno, hv⟩
  · unfold ClsVal
    rw [look_at hk hno (by rw [he]; simp), hv]
    rfl
  · unfold ClsVal
    rw [look_none hno, hv]
    rfl

end Go.Proofs.YtkdomegcacgpnaaGreat
