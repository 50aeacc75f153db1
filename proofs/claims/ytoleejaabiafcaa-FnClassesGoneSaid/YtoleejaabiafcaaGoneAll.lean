/- goquery: RemoveClass without names; a document whose nodes lose their class. Attributes that have lost their class: which ones are left. Plain. impl: ClassesGone. -/
import Derived.Test.YtoleejaabiafcaaRemoveAttrAll
import Derived.Test.YtoleejaabiafcaaTrimAll
import Derived.Test.YtoleejaabiafcaaDomAll
import Derived.Test.YtoleejaabiafcaaTakenAll
import Derived.Test.YtoleejaabiafcaaDoneOf
import Derived.Test.YtoleejaabiafcaaOutMore
import Derived.Test.YtoleejaabiafcaaClassless
import Derived.Test.YtoleejaabiafcaaRightAll
namespace Go.Proofs.Ytoleejaabiafcaa
open Go.RowKit
set_option linter.unusedVariables false
set_option linter.unusedSimpArgs false

/-- Behind a change of attributes: only nodes and their rows turn. -/
structure OnlyA (B n : Nat) (nb : Nat → Nat) (v : Nat → Value) (lab : Nat → NodeD) (w w' : World) : Prop where
  size : w.heap.size ≤ w'.heap.size
  block : ∀ k, k < w.heap.size → (∀ i, i < n → k ≠ nb i) → (∀ i, i < n → 0 < (lab i).attrs.length → (v i).ownBlock ≠ some k) → w'.heap[k]? = w.heap[k]?
  below : ∀ B', B' ≤ B → (∀ i, i < n → B' ≤ nb i) → Below B' w w'

/-- Labels of which some have lost their class. -/
def LabR (lab lab' : Nat → NodeD) (done : List Nat) : Prop := ∀ i, (i ∉ done → lab' i = lab i) ∧ (i ∈ done → ∃ A, RemC (lab i).attrs A ∧ lab' i = { lab i with attrs := A })

theorem remC_len {l l' : List (ByteArray × ByteArray)} (h : RemC l l') : l'.length ≤ l.length := by
  rcases h with ⟨_, rfl⟩ | ⟨i, _, _, rfl⟩
  · exact Nat.le_refl _
  · simp

/-- One node's attributes turned. -/
theorem DomAt.unattr {B : Nat} {w w' : World} {n : Nat} {nb : Nat → Nat} {v : Nat → Value} {lab : Nat → NodeD} {F : Wd} (h : DomAt B w n nb v lab F) {i : Nat} (hi : i < n) {v1 : Value} {A : List (ByteArray × ByteArray)} (hu : Unattr B (nb i) (linkR F nb (lab i) (v i) i) (lab i).attrs w w' v1 A) :
    DomAt B w' n nb (fun j => if j = i then v1 else v j) (fun j => if j = i then { lab i with attrs := A } else lab j) F := by
  have hsame : v1.ownBlock = (v i).ownBlock := hu.same
  refine ⟨fun j hj => ?_, fun j hj => ?_, h.base, h.inj, fun j k hj hk hne b hb => ?_⟩
  · by_cases e : j = i
    · subst e
      simp only [if_true]
      exact hu.node
    · simp only [if_neg e]
      have h1 := h.node j hj
      unfold World.nodeAt at h1 ⊢
      rw [hu.keep (nb j) (World.nodeAt.lt (h.node j hj)) (h.ne hj hi e) (fun _ => node_ne_own (h.node j hj) (h.own i hi))]
      exact h1
  · by_cases e : j = i
    · subst e
      simp only [if_true]
      exact hu.own
    · simp only [if_neg e]
      refine ownsRow_kept (h.own j hj) (fun q hq => hu.keep q (World.ownsRow.lt (h.own j hj) q hq).2 (fun e2 => node_ne_own (h.node i hi) (h.own j hj) (by rw [hq, e2])) (fun _ => h.sep j i hj hi e q hq))
  · have hb' : (v j).ownBlock = some b := by
      by_cases e : j = i
      · subst e; simp only [if_true] at hb; rw [← hsame]; exact hb
      · simp only [if_neg e] at hb; exact hb
    have := h.sep j k hj hk hne b hb'
    by_cases e : k = i
    · subst e; simp only [if_true]; rw [hsame]; exact this
    · simp only [if_neg e]; exact this

theorem OnlyA.refl (B n : Nat) (nb : Nat → Nat) (v : Nat → Value) (lab : Nat → NodeD) (w : World) : OnlyA B n nb v lab w w := ⟨Nat.le_refl _, fun _ _ _ _ => rfl, fun _ _ _ => Below.refl _ _⟩

theorem OnlyA.step {B : Nat} {w0 w w' : World} {n : Nat} {nb : Nat → Nat} {v : Nat → Value} {lab lab2 : Nat → NodeD} {r : NRec} (h : OnlyA B n nb v lab w0 w) {i : Nat} (hi : i < n) {v1 : Value} {A : List (ByteArray × ByteArray)} (hu : Unattr B (nb i) r (lab2 i).attrs w w' v1 A) (hr : r.attr.ownBlock = (v i).ownBlock) (hl : (lab2 i).attrs.length ≤ (lab i).attrs.length) : OnlyA B n nb v lab w0 w' :=
  ⟨Nat.le_trans h.size hu.size, fun k hk h1 h2 => (hu.keep k (Nat.lt_of_lt_of_le hk h.size) (h1 i hi) (fun h0 => by rw [hr]; exact h2 i hi (by omega))).trans (h.block k hk h1 h2), fun B' h1 h2 => (h.below B' h1 h2).trans (hu.bel B' h1 (h2 i hi))⟩

/-- A row of attributes that is not empty begins with a text. -/
theorem own_ne_slice {w : World} {B : Nat} {v : Value} {l : List (ByteArray × ByteArray)} (h : w.ownsRow B 123 3 v l.length (attrCells l)) (h0 : 0 < l.length) {s : Nat} {a : Option Addr} {m c : Nat} (hc : w.cell? ⟨s, 0, none⟩ = some (.slice a m c)) : v.ownBlock ≠ some s := fun e => by
  obtain ⟨a', cap, g, rfl, _, hg, hcc⟩ := attr_open h
  obtain rfl := hg h0
  simp only [Value.ownBlock, Option.some.injEq] at e
  obtain rfl : g = s := by first | exact e | (rw [if_pos rfl] at e; exact e) | simpa using e
  have := (hcc 0 h0).1
  simp only [Nat.zero_mul] at this
  rw [hc] at this
  cases this

theorem joinNone_any (sep : ByteArray) (w : World) : Calls Try.prog 91 #[.slice none 0 0, .string sep] w (fun e w' => e = .returned (.string ByteArray.empty) ∧ w = w') := by
  go_enter Try.func91, Try.ntmps91
  go_wp2
  go_ret
  exact ⟨rfl, rfl⟩

theorem trimNone_any (w : World) : Calls Try.prog 90 #[.string ByteArray.empty] w (fun e w' => e = .returned (.string ByteArray.empty) ∧ Hid (Below w.heap.size w w')) := by
  refine (trim_any ByteArray.empty w (by decide) (fun i h => absurd h (by show ¬ i < 0; omega))).mono ?_
  rintro e w' ⟨r, rfl, _, hr, hb⟩
  have h0 : r = ByteArray.empty := by
    have h1 : r.size = 0 := by have : ByteArray.empty.size = 0 := rfl; omega
    cases r with
    | mk d =>
      have : d = #[] := Array.eq_empty_of_size_eq_zero h1
      rw [this]
      rfl
  rw [h0]
  exact ⟨rfl, Lib.hid hb⟩

theorem OnlyA.of_below {B n : Nat} {nb : Nat → Nat} {v : Nat → Value} {lab : Nat → NodeD} {w0 w w' : World} (h : OnlyA B n nb v lab w0 w) (hb : Below w.heap.size w w') (hB : ∀ B', B' ≤ B → (∀ i, i < n → B' ≤ nb i) → B' ≤ w.heap.size) : OnlyA B n nb v lab w0 w' :=
  ⟨Nat.le_trans h.size hb.size, fun k hk h1 h2 => (hb.block k (Nat.lt_of_lt_of_le hk h.size)).trans (h.block k hk h1 h2), fun B' h1 h2 => (h.below B' h1 h2).trans (hb.mono (hB B' h1 h2))⟩

def UnclassPost (s B n : Nat) (nb : Nat → Nat) (v : Nat → Value) (lab : Nat → NodeD) (F : Wd) (l : List Nat) (w : World) (e : Ending) (w' : World) : Prop :=
  e = .returned (.pointer (some ⟨s, 0, none⟩)) ∧ ∃ v' lab', Hid (DomAt B w' n nb v' lab' F) ∧ Hid (LabR lab lab' l) ∧ Hid (OnlyA B n nb v lab w w')

/-- While nodes lose their class. -/
structure UncMid (B n : Nat) (nb : Nat → Nat) (v : Nat → Value) (lab : Nat → NodeD) (F : Wd) (w wr : World) (done : List Nat) (v' : Nat → Value) (lab' : Nat → NodeD) : Prop where
  dom : DomAt B wr n nb v' lab' F
  labs : LabR lab lab' done
  only : OnlyA B n nb v lab w wr
  blk : ∀ i, i < n → (v' i).ownBlock = (v i).ownBlock

theorem UncMid.step {B n : Nat} {nb : Nat → Nat} {v : Nat → Value} {lab : Nat → NodeD} {F : Wd} {w wr w' : World} {done : List Nat} {v' : Nat → Value} {lab' : Nat → NodeD} (h : UncMid B n nb v lab F w wr done v' lab') {x : Nat} (hx : x < n) (hnd : x ∉ done) {v1 : Value} {A : List (ByteArray × ByteArray)} (hu : Unattr B (nb x) (linkR F nb (lab' x) (v' x) x) (lab' x).attrs wr w' v1 A) :
    UncMid B n nb v lab F w w' (done ++ [x]) (fun j => if j = x then v1 else v' j) (fun j => if j = x then { lab' x with attrs := A } else lab' j) := by
  have hlx := (h.labs x).1 hnd
  have hsame : v1.ownBlock = (v' x).ownBlock := hu.same
  refine ⟨h.dom.unattr hx hu, fun i => ⟨fun hi => ?_, fun hi => ?_⟩, h.only.step (lab2 := lab') hx hu (h.blk x hx) (by rw [hlx]; exact Nat.le_refl _), fun i hi => ?_⟩
  · simp only [List.mem_append, List.mem_singleton, not_or] at hi
    simp only [if_neg hi.2]
    exact (h.labs i).1 hi.1
  · by_cases e : i = x
    · subst e
      refine ⟨A, ?_, ?_⟩
      · have := hu.rem; rwa [hlx] at this
      · simp only [if_true, hlx]
    · simp only [if_neg e]
      simp only [List.mem_append, List.mem_singleton] at hi
      rcases hi with hi | hi
      · exact (h.labs i).2 hi
      · exact absurd hi e
  · by_cases e : i = x
    · subst e; simp only [if_true]; rw [hsame]; exact h.blk i hi
    · simp only [if_neg e]; exact h.blk i hi

set_option maxRecDepth 100000 in
set_option maxHeartbeats 2000000 in
theorem unclass_any {B n : Nat} (h0 : 0 < n) {w : World} {nb : Nat → Nat} {v : Nat → Value} {lab : Nat → NodeD} {F : Wd} (h : DomAt B w n nb v lab F) (l : List Nat) (hin : ∀ x ∈ l, x < n) (hnd : Once l) (hln : l.length ≤ 200) (hfew : ∀ i, i < n → (lab i).attrs.length ≤ 100) {s sg scap : Nat} {sa : Option Addr} (hsa : 0 < l.length → sa = some ⟨sg, 0, none⟩) (c0 : w.cell? ⟨s, 0, none⟩ = some (.slice sa l.length scap)) (crow : ∀ i, i < l.length → w.cell? ⟨sg, i, none⟩ = some (.pointer (some ⟨nb (l.getD i 0), 0, none⟩))) (hne : 0 < l.length → ∀ i, i < n → sg ≠ nb i ∧ (0 < (lab i).attrs.length → (v i).ownBlock ≠ some sg)) :
    Calls Try.prog 66 #[.pointer (some ⟨s, 0, none⟩), .slice none 0 0] w (UnclassPost s B n nb v lab F l w) := by
  have hkeep : 0 < l.length → ∀ (w9 : World), OnlyA B n nb v lab w w9 → ∀ (o : Nat) (u : Value), w.cell? ⟨sg, o, none⟩ = some u → w9.cell? ⟨sg, o, none⟩ = some u := fun hl0 w9 ho o u hc => (World.cell?_of_block (ho.block sg (World.block_lt_of_cell? w _ hc) (fun i hi => (hne hl0 i hi).1) (fun i hi h0 => (hne hl0 i hi).2 h0))).trans hc
  have HK := Lib.hid hkeep
  have hm0 : ∀ w1, Below w.heap.size w w1 → UncMid B n nb v lab F w w1 (l.take 0) v lab := fun w1 hb => ⟨h.below hb, fun i => ⟨fun _ => rfl, fun hi => by simp at hi⟩, (OnlyA.refl _ _ _ _ _ _).of_below hb (fun B' _ h2 => Nat.le_trans (h2 0 h0) (Nat.le_of_lt (World.nodeAt.lt (h.node 0 h0)))), fun _ _ => rfl⟩
  have HM0 := Lib.hid hm0
  have HC := Lib.hid crow
  have HSA := Lib.hid hsa
  have HX := Lib.hid (And.intro hin (And.intro hnd hfew))
  have HJ := Lib.hid (fun w => joinNone_any ⟨#[32]⟩ w)
  have HT := Lib.hid trimNone_any
  clear h hin hnd hfew crow hne hkeep hm0 hsa
  go_enter Try.func66, Try.ntmps66
  go_wp2_with fail
  refine (HJ.out _).mono ?_
  rintro e w1 ⟨rfl, rfl⟩
  go_wp2_with fail
  refine (HT.out _).mono ?_
  rintro e w1 ⟨rfl, hb1⟩
  have HM := Lib.hid (HM0.out w1 hb1.out)
  have c0 := cell_below hb1.out c0
  have ge : (ByteArray.empty.toList == ([] : List UInt8)) = true := by rw [ByteArray.toList_eq]; rfl
  have ge2 : ByteArray.empty.toList.isEmpty = true := by rw [ByteArray.toList_eq]; rfl
  clear hb1 HM0
  go_wp2
  go_loopw [28] (fun iv wr => ∃ (i : Nat) (v' : Nat → Value) (lab' : Nat → NodeD), iv = .int .i64 (i : Int) ∧ i ≤ l.length ∧ Hid (UncMid B n nb v lab F w wr (l.take i) v' lab')) (fun iv _ => l.length - (intOf iv).toNat)
  case atStart => exact ⟨0, v, lab, by go_num, by omega, HM⟩
  case round =>
    obtain ⟨i, v', lab', rfl, hi, HU⟩ := hrel
    clear HM
    by_cases hlt : i < l.length
    · have hxm := getD_mem' (d := 0) hlt
      have hxn := HX.out.1 _ hxm
      obtain rfl := HSA.out (by omega)
      have ck := HK.out (by omega) wr HU.out.only i _ (HC.out i hlt)
      have hnot : l.getD i 0 ∉ l.take i := HX.out.2.1.notin hlt
      have hsn : l.take (i + 1) = l.take i ++ [l.getD i 0] := take_snoc hlt
      obtain ⟨x, hx⟩ : ∃ x, l.getD i 0 = x := ⟨_, rfl⟩
      rw [hx] at ck hxn hnot hsn
      have hra := removeAttr_any B (nb x) (linkR F nb (lab' x) (v' x) x) (lab' x).attrs wr (HU.out.dom.node x hxn) (HU.out.dom.own x hxn) (by rw [(HU.out.labs x).1 hnot]; exact HX.out.2.2 x hxn)
      have HRA := Lib.hid hra
      have HN := Lib.hid (And.intro hxn (And.intro hnot hsn))
      obtain ⟨X, hX⟩ : ∃ X, nb x = X := ⟨_, rfl⟩
      rw [hX] at ck HRA
      have HXX := Lib.hid hX
      have hiI : (i : Int) < (l.length : Int) := by omega
      clear hra hxm hxn hnot hsn hx hX
      go_wp2_with fail
      refine HRA.out.mono ?_
      rintro e w2 ⟨v1, A, rfl, hu⟩
      rw [← HXX.out] at hu
      have HU2 := Lib.hid (HU.out.step HN.out.1 HN.out.2.1 hu.out)
      rw [← HN.out.2.2] at HU2
      clear hu HRA ck
      go_wp2
      go_roundw
      case rel => exact ⟨i + 1, _, _, by go_num, by omega, HU2⟩
      case measure => simp [intOf]; omega
    · obtain rfl : i = l.length := by omega
      have hm := HU.out
      rw [List.take_length] at hm
      have H1 := Lib.hid hm.dom
      have H2 := Lib.hid hm.labs
      have H3 := Lib.hid hm.only
      clear hm HU hlt
      go_wp2
      go_ret
      exact ⟨rfl, v', lab', H1, H2, H3⟩

end Go.Proofs.Ytoleejaabiafcaa

namespace Go.Proofs.Ytoleejaabiafcaa
set_option linter.unusedVariables false
set_option linter.unusedSimpArgs false

theorem dist_at {l : KVs} (h : DistKV l) {a b : Nat} (ha : a < l.length) (hb : b < l.length) (hne : a ≠ b) : (l.getD a default).1.toList ≠ (l.getD b default).1.toList := by
  unfold DistKV at h
  rw [List.pairwise_iff_getElem] at h
  rw [List.getD_eq_getElem?_getD, List.getD_eq_getElem?_getD, List.getElem?_eq_getElem ha, List.getElem?_eq_getElem hb]
  rcases Nat.lt_or_gt_of_ne hne with h1 | h1
  · exact h a b ha hb h1
  · exact fun e => h b a hb ha h1 e.symm

theorem dist_mk {l : KVs} (h : ∀ a b, a < l.length → b < l.length → a < b → (l.getD a default).1.toList ≠ (l.getD b default).1.toList) : DistKV l := by
  unfold DistKV
  rw [List.pairwise_iff_getElem]
  intro a b ha hb hab
  have := h a b ha hb hab
  rw [List.getD_eq_getElem?_getD, List.getD_eq_getElem?_getD, List.getElem?_eq_getElem ha, List.getElem?_eq_getElem hb] at this
  exact this

theorem swap_get {l : KVs} {i j : Nat} {e : ByteArray × ByteArray} (hj : j + 1 < l.length) : ((l.set i e).dropLast).getD j default = if j = i then e else l.getD j default := by
  rw [List.getD_eq_getElem?_getD, List.getElem?_dropLast, List.length_set, if_pos (by omega), List.getElem?_set]
  by_cases h : i = j
  · subst h
    rw [if_pos rfl, if_pos (by omega), if_pos rfl]
    rfl
  · rw [if_neg h, if_neg (Ne.symm h), List.getD_eq_getElem?_getD]

structure RemSay (l l' : KVs) : Prop where
  dist : DistKV l'
  mem : ∀ x, x ∈ l' ↔ x ∈ l ∧ (x.1.toList == [99, 108, 97, 115, 115]) = false
  len : l'.length ≤ l.length

theorem getD_mem_kv {l : KVs} {j : Nat} (h : j < l.length) : l.getD j default ∈ l := by
  rw [List.getD_eq_getElem?_getD, List.getElem?_eq_getElem h]; exact List.getElem_mem _

theorem mem_getD_kv {l : KVs} {x : ByteArray × ByteArray} (h : x ∈ l) : ∃ j, j < l.length ∧ l.getD j default = x := by
  obtain ⟨j, hj, e⟩ := List.getElem_of_mem h
  exact ⟨j, hj, by rw [List.getD_eq_getElem?_getD, List.getElem?_eq_getElem hj]; exact e⟩

theorem remC_say {l l' : KVs} (hd : DistKV l) (h : RemC l l') : RemSay l l' := by
  rcases h with ⟨hn, rfl⟩ | ⟨i, hi, hc, rfl⟩
  · exact ⟨hd, fun x => ⟨fun hx => ⟨hx, hn x hx⟩, fun hx => hx.1⟩, Nat.le_refl _⟩
  · have hlen : ((l.set i (l.getD (l.length - 1) default)).dropLast).length = l.length - 1 := by simp
    have hcls : ∀ j, j < l.length → j ≠ i → ((l.getD j default).1.toList == [99, 108, 97, 115, 115]) = false := fun j hj hne => by
      have h1 := dist_at hd hj hi hne
      have h2 := eq_of_beq hc
      rw [h2] at h1
      simpa using h1
    -- each place of the new list is a place of the old one
    have hidx : ∀ j, j + 1 < l.length → ∃ k, k < l.length ∧ k ≠ i ∧ ((l.set i (l.getD (l.length - 1) default)).dropLast).getD j default = l.getD k default ∧ ((j = i ∧ k = l.length - 1) ∨ (j ≠ i ∧ k = j)) := fun j hj => by
      rw [swap_get hj]
      by_cases e : j = i
      · exact ⟨l.length - 1, by omega, by omega, by rw [if_pos e], .inl ⟨e, rfl⟩⟩
      · exact ⟨j, by omega, e, by rw [if_neg e], .inr ⟨e, rfl⟩⟩
    refine ⟨dist_mk (fun a b ha hb hab => ?_), fun x => ⟨fun hx => ?_, fun hx => ?_⟩, by rw [hlen]; omega⟩
    · rw [hlen] at ha hb
      obtain ⟨ka, a1, a2, a3, a4⟩ := hidx a (by omega)
      obtain ⟨kb, b1, b2, b3, b4⟩ := hidx b (by omega)
      rw [a3, b3]
      refine dist_at hd a1 b1 ?_
      rcases a4 with ⟨_, e1⟩ | ⟨_, e1⟩ <;> rcases b4 with ⟨_, e2⟩ | ⟨_, e2⟩ <;> omega
    · obtain ⟨j, hj, rfl⟩ := mem_getD_kv hx
      rw [hlen] at hj
      obtain ⟨k, a1, a2, a3, _⟩ := hidx j (by omega)
      rw [a3]
      exact ⟨getD_mem_kv a1, hcls k a1 a2⟩
    · obtain ⟨hx1, hx2⟩ := hx
      obtain ⟨k, hk, rfl⟩ := mem_getD_kv hx1
      have hki : k ≠ i := fun e => by rw [e, hc] at hx2; cases hx2
      by_cases hl : k + 1 < l.length
      · have h1 := swap_get (i := i) (e := l.getD (l.length - 1) default) hl
        rw [if_neg hki] at h1
        rw [← h1]
        exact getD_mem_kv (by rw [hlen]; omega)
      · have hk2 : k = l.length - 1 := by omega
        have h1 := swap_get (l := l) (i := i) (j := i) (e := l.getD (l.length - 1) default) (by omega)
        rw [if_pos rfl] at h1
        have h2 := getD_mem_kv (l := (l.set i (l.getD (l.length - 1) default)).dropLast) (j := i) (by rw [hlen]; omega)
        rw [h1] at h2
        rw [hk2]
        exact h2

theorem offC_mem {l : KVs} {x : ByteArray × ByteArray} : x ∈ offC l ↔ x ∈ l ∧ (x.1.toList == [99, 108, 97, 115, 115]) = false := by
  unfold offC
  rw [List.mem_filter]
  constructor
  · rintro ⟨h1, h2⟩
    refine ⟨h1, ?_⟩
    simpa [bne] using h2
  · rintro ⟨h1, h2⟩
    exact ⟨h1, by rw [bne, h2]; rfl⟩

theorem offC_dist {l : KVs} (h : DistKV l) : DistKV (offC l) := List.Pairwise.filter _ h

/-- The two lists without class hold the same. -/
theorem rem_alike {l l' : KVs} (hd : DistKV l) (h : RemC l l') : (∀ x ∈ offC l', lookKV (offC l) x.1 = some x.2) ∧ (∀ x ∈ offC l, lookKV (offC l') x.1 = some x.2) ∧ (∀ x ∈ offC l', (x.1.toList == [99, 108, 97, 115, 115]) = false) ∧ ∀ x ∈ offC l, (x.1.toList == [99, 108, 97, 115, 115]) = false := by
  have hs := remC_say hd h
  refine ⟨fun x hx => look_mem (offC_dist hd) (offC_mem.2 ?_), fun x hx => look_mem (offC_dist hs.dist) (offC_mem.2 ?_), fun x hx => (offC_mem.1 hx).2, fun x hx => (offC_mem.1 hx).2⟩
  · obtain ⟨h1, h2⟩ := offC_mem.1 hx
    exact (hs.mem x).1 h1
  · obtain ⟨h1, h2⟩ := offC_mem.1 hx
    exact ⟨(hs.mem x).2 ⟨h1, h2⟩, h2⟩

theorem look_noC {l : KVs} (h : ∀ x ∈ l, (x.1.toList == [99, 108, 97, 115, 115]) = false) : lookKV l ⟨#[99, 108, 97, 115, 115]⟩ = none := by
  refine look_none (fun j hj => ?_)
  have := h _ (getD_mem_kv hj)
  have e : (⟨#[99, 108, 97, 115, 115]⟩ : ByteArray).toList = [99, 108, 97, 115, 115] := by rw [ByteArray.toList_eq]
  first | (rw [e]; exact this) | simpa [e] using this

/-- The attributes of a right node without class are those of a right node. -/
theorem rem_ok {m : NodeD} {z a : Nat} (h : NodeOk m z a) (h3 : m.kind = 3) {A : KVs} (hd : DistKV m.attrs) (hr : RemC m.attrs A) : NodeOk { m with attrs := A } z a := by
  have hs := remC_say hd hr
  refine ⟨h.kinds, fun hk => absurd h3 hk, fun _ => ⟨Nat.le_trans hs.len (h.attrs h3).1, fun i k hki hi => ?_⟩, h.txt⟩
  have hi' : i < A.length := hi
  have := dist_at hs.dist (a := k) (b := i) (by omega) hi' (by omega)
  simpa using this

end Go.Proofs.Ytoleejaabiafcaa

namespace Go.Proofs.Ytoleejaabiafcaa
open Go.RowKit
set_option linter.unusedVariables false
set_option linter.unusedSimpArgs false

theorem BegunAt.keptA {W w w' : World} {g bl len : Nat} {nb : Nat → Nat} {vv : Nat → Value} {ts : List NodeD} {s : Nat} (h : BegunAt W w g bl len nb vv ts s) (hR : RightT ts len) (ho : OnlyA W.heap.size len nb vv (fun i => ts.getD i default) w w') :
    w'.cell? ⟨g, 0, none⟩ = some (.slice (some ⟨bl, 0, none⟩) len len) ∧ (∀ i, i < len → w'.cell? ⟨bl, i, none⟩ = some (.pointer (some ⟨nb i, 0, none⟩))) ∧ Below W.heap.size W w' := by
  have hD := h.forest.dom hR
  have hnode : ∀ i, i < len → World.nodeAt w (nb i) _ := fun i hi => h.forest.node hi
  have hg : w'.heap[g]? = w.heap[g]? := ho.block g h.obj.lt (fun i hi e => by
    have h1 := h.obj
    have h2 := hnode i hi
    unfold World.objAt at h1
    unfold World.nodeAt at h2
    rw [e, h2] at h1
    simp only [NRec.obj, Option.some.injEq, Obj.cells.injEq] at h1
    exact absurd h1.2.1 (by decide)) (fun i hi _ => objAt_ne_own h.obj (hD.own i hi) (by decide))
  obtain ⟨arr, r1, r2, r3⟩ := h.forest.row
  have hblt : bl < w.heap.size := (Array.getElem?_eq_some_iff.1 r1).1
  have hbl : w'.heap[bl]? = w.heap[bl]? := ho.block bl hblt (fun i hi e => by
    have h2 := hnode i hi
    unfold World.nodeAt at h2
    rw [e, h2] at r1
    simp only [NRec.obj, Option.some.injEq, Obj.cells.injEq] at r1
    exact absurd r1.2.1 (by decide)) (fun i hi _ hb => by
    obtain ⟨cur, hc⟩ := ownsRow_type (hD.own i hi) hb
    rw [hc] at r1
    simp only [Option.some.injEq, Obj.cells.injEq] at r1
    exact absurd r1.2.1 (by decide))
  refine ⟨?_, fun i hi => ?_, h.bel.trans (ho.below _ (Nat.le_refl _) (fun i hi => h.forest.seg.base i (Nat.zero_le _) hi))⟩
  · exact (World.cell?_of_block hg).trans (h.obj.cell (i := 0) rfl)
  · exact (World.cell?_of_block hbl).trans (h.forest.cell hi)

theorem own_ptrs {w : World} {B : Nat} {g cap : Nat} {nb : Nat → Nat} {l : List Nat} (h : w.ownsRow B 84 1 (.slice (some ⟨g, 0, none⟩) l.length cap) l.length (l.map fun y => ptrV (nb y))) : ∀ i, i < l.length → w.cell? ⟨g, i, none⟩ = some (.pointer (some ⟨nb (l.getD i 0), 0, none⟩)) := fun i hi => by
  have := World.ownsRow.cells (h := h) (g := g) rfl i (ptrV (nb (l.getD i 0))) (by simp [List.getD, hi])
  have hadd : (⟨g, 0, none⟩ : Addr).add i = ⟨g, 0 + i, none⟩ := by unfold Addr.add; split <;> simp_all
  rw [hadd, Nat.zero_add] at this
  exact this

def GonePost (lab : Nat → NodeD) (l : List Nat) (C : List (Nat × Nat)) (W : World) (e : Ending) (w' : World) : Prop :=
  ∃ tv lab', e = .returned (.tuple #[tv, .bool true]) ∧ Hid (OutAt w' W.heap.size tv lab' C) ∧ Hid (LabR lab lab' l) ∧ Hid (Below W.heap.size W w')

set_option maxRecDepth 100000 in
set_option maxHeartbeats 1000000 in
theorem classesGone_any (W : World) (a : Option Addr) (len cap : Nat) (ts : List NodeD) (hR : RightT ts len) (hN : Nodes W a len ts) (v : Value) (l : List Nat) (h : ReadsAs W v (l.map intV)) (hin : ∀ i ∈ l, i < len) (hon : Once l) (hn : l.length ≤ 200) (hel : ∀ i ∈ l, (ts.getD i default).kind = 3) (C : List (Nat × Nat)) (hC : Fs (wd0 (sz ts) len).kids [0] C) :
    Calls Try.prog 43 #[.slice a len cap, v] W (GonePost (fun i => ts.getD i default) l C W) := by
  have hlen := hR.le
  have hpos := hR.pos
  have hsel := selected_any W a len cap ts hR hN v l h hin hon hn
  have hdist : ∀ i, i < len → DistKV (ts.getD i default).attrs := fun i hi => (fit_of hR hN i hi).dist
  have hfew : ∀ i, i < len → (ts.getD i default).attrs.length ≤ 100 := fun i hi => (fit_of hR hN i hi).few
  have HSEL := Lib.hid hsel
  have HR := Lib.hid hR
  have HL := Lib.hid (And.intro hin (And.intro hon (And.intro hn (And.intro hel (And.intro hdist hfew)))))
  have HC := Lib.hid hC
  clear hsel hR hN h hin hon hn hel hdist hfew hC
  go_enter Try.func43, Try.ntmps43
  go_wp2_with fail
  refine HSEL.out.mono ?_
  rintro e w1 ⟨g, bl, nb, vv, s0, s, v1, S, rfl, hB, hs, hS, hWS⟩
  have hD := hB.out.forest.dom HR.out
  have hF := wd0_ok HR.out.nest
  have hown := hs.out.own
  have hsb := hs.out.base
  have c0 := hs.out.nodes
  unfold OwnPtrs at hown
  rw [List.length_map, List.map_map] at hown
  obtain ⟨sa, scap, rfl⟩ := ownsRow_slice hown
  have hun : Calls Try.prog 66 #[.pointer (some ⟨s, 0, none⟩), .slice none 0 0] w1 (UnclassPost s W.heap.size len nb vv (fun i => ts.getD i default) (wd0 (sz ts) len) l w1) := by
    obtain ⟨sg, hsg⟩ : ∃ sg, 0 < l.length → sa = some ⟨sg, 0, none⟩ := by
      rcases hown.2 with ⟨_, h2⟩ | ⟨g0, c0_, cur, hv, _⟩
      · exact ⟨0, fun h => by omega⟩
      · simp at hv; exact ⟨g0, fun _ => hv.1⟩
    refine unclass_any hpos hD l HL.out.1 HL.out.2.1 HL.out.2.2.1 HL.out.2.2.2.2.2 hsg c0 (fun i hi => ?_) (fun h0 i hi => ?_)
    · obtain rfl := hsg (by omega)
      exact own_ptrs hown i hi
    · obtain rfl := hsg h0
      have h1 := hS i hi
      have h2 := (World.ownsRow.lt hown sg rfl).1
      exact ⟨by omega, fun h3 hb => own_ne_own (hD.own i hi) hown (by decide) hb rfl⟩
  have HUN := Lib.hid hun
  have HB1 := Lib.hid hB.out
  clear hun hown hsb c0 hs HSEL hD hS hB
  go_wp2_with fail
  refine HUN.out.mono ?_
  rintro e w2 ⟨rfl, v2, lab2, hd2, hl2, ho2⟩
  obtain ⟨hg, hrow, hb2⟩ := HB1.out.keptA HR.out ho2.out
  obtain ⟨o1, o2, o3⟩ := hF.order hpos HC.out
  have hok : ∀ i, i < len → ∃ z a, NodeOk (lab2 i) z a := fun i hi => by
    by_cases e : i ∈ l
    · obtain ⟨A, h1, h2⟩ := (hl2.out i).2 e
      rw [h2]
      exact ⟨_, _, rem_ok (HR.out.node i hi) (HL.out.2.2.2.1 i e) (HL.out.2.2.2.2.1 i hi) h1⟩
    · rw [(hl2.out i).1 e]
      exact ⟨_, _, HR.out.node i hi⟩
  have hends := ends_any hd2.out hF hok hpos hlen g bl hg hrow C HC.out o1 o2 (by omega)
  have HE := Lib.hid hends
  have HB2 := Lib.hid hb2
  clear hends hb2 hg hrow HUN hF o1 o2 o3 hok hd2 ho2
  go_wp2_with fail
  refine HE.out.mono ?_
  rintro e w3 ⟨tv, pv, rfl, hot, hz, hb3⟩
  have hbs := HB2.out.size
  have HB3 := Lib.hid (HB2.out.trans (hb3.out.mono hbs))
  have HOT := Lib.hid (hot.out.base hbs)
  clear hot hz hb3 HE
  go_wp2
  go_ret2
  exact ⟨_, _, rfl, HOT, hl2, HB3⟩

end Go.Proofs.Ytoleejaabiafcaa

