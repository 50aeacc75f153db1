/- goquery.Text: the parts of all nodes of a selection, joined. -/
import Derived.Test.YtikimffifkiinaaTextRec
import Derived.Test.YtikimffifkiinaaJoinShelf
import Derived.Test.YtikimffifkiinaaChosen
import Derived.Lib.Join
import Derived.StillTailTactics
namespace Go.Proofs.Ytikimffifkiinaa
open Go.RowKit
set_option linter.unusedVariables false
set_option linter.unusedSimpArgs false

/-- The parts of some nodes. -/
def partsL (ts : List NodeD) (trim : Bool) (name : Option ByteArray) (l : List Nat) : List ByteArray := l.flatMap fun i => parts ts trim name i (sz ts i)

theorem partsL_snoc (ts : List NodeD) (trim : Bool) (name : Option ByteArray) (l : List Nat) (k : Nat) : partsL ts trim name (l ++ [k]) = partsL ts trim name l ++ parts ts trim name k (sz ts k) := by simp [partsL]

theorem partsL_length (ts : List NodeD) (trim : Bool) (name : Option ByteArray) {M : Nat} : ∀ l : List Nat, (∀ i ∈ l, sz ts i ≤ M) → (partsL ts trim name l).length ≤ l.length * M
  | [], _ => Nat.zero_le _
  | k :: l, h => by
    have h1 := partsL_length ts trim name l (fun i hi => h i (List.mem_cons_of_mem _ hi))
    have h2 := parts_length ts trim name k (sz ts k)
    have h3 := h k (List.mem_cons_self ..)
    have : partsL ts trim name (k :: l) = parts ts trim name k (sz ts k) ++ partsL ts trim name l := rfl
    rw [this, List.length_append, List.length_cons, Nat.succ_mul]
    omega

def JoinedPost (ps : List ByteArray) (sep : ByteArray) (w : World) (e : Ending) (w' : World) : Prop := e = .returned (.string ⟨(Lib.join (ps.map (·.data.toList)) sep.data.toList).toArray⟩) ∧ Below w.heap.size w w'

theorem join_own {w : World} {B : Nat} {pa : Option Addr} {pc : Nat} {L : List ByteArray} {sep : ByteArray} (h : w.ownsRow B 9 1 (.slice pa L.length pc) L.length (L.map .string)) (hN : L.length ≤ 140737488355328)
    (hlim : (Lib.join (L.map (·.data.toList)) sep.data.toList).length ≤ 140737488355328) :
    Calls Try.prog 40 #[.slice pa L.length pc, .string sep] w (JoinedPost L sep w) := by
  rcases h.2 with ⟨hv, h0⟩ | ⟨g, cap, cur, hv, hb, hg, hn, hm, hcs, ht⟩
  · have hL : L = [] := List.eq_nil_of_length_eq_zero h0
    subst hL
    refine (Try.strings_Join_none pa pc sep w).mono ?_
    rintro e w' ⟨rfl, rfl⟩
    exact ⟨rfl, Below.refl _ _⟩
  · have hpa : pa = some ⟨g, 0, none⟩ := by cases hv; rfl
    subst hpa
    have hpc : pc = cap := by cases hv; rfl
    have hgl : g < w.heap.size := (World.ownsRow.lt h g rfl).2
    refine Try.strings_Join g 0 pc L sep w (fun j x hj => ?_) hgl hN (by rw [hpc]; simpa using hn) hlim
    have := h.cells (g := g) rfl j (.string x) (by simp [hj])
    rwa [show (⟨g, 0, none⟩ : Addr).add j = ⟨g, 0 + j, none⟩ by unfold Addr.add; split <;> simp_all] at this

set_option maxRecDepth 100000 in
set_option maxHeartbeats 4000000 in
theorem text_any {B B' : Nat} (s : Nat) (v : Value) (l : List Nat) (w : World) (bl len : Nat) (nb : Nat → Nat) (vv : Nat → Value) (ts : List NodeD) (hs : SelAt w s v (l.map nb) B) (hF : Forest B' w bl len nb vv ts) (hR : RightT ts len) (hl : ∀ i ∈ l, i < len) (hll : l.length ≤ 200)
    (ob gb : Nat) (sep : ByteArray) (trim : Bool) (name : Option ByteArray) (ho : OptsAt w ob gb sep trim name) (htr : ∀ i ∈ l, Trimmable ts i trim name) (hlim : (Lib.join ((partsL ts trim name l).map (·.data.toList)) sep.data.toList).length ≤ 140737488355328) :
    Calls Try.prog 23 #[.pointer (some ⟨s, 0, none⟩), .pointer (some ⟨ob, 0, none⟩)] w (JoinedPost (partsL ts trim name l) sep w) := by
  have c0 := hs.nodes
  obtain ⟨a, cp, b, of_, rfl, hm, ha, hc⟩ := ptrs_open hs.own.ptrs
  rw [List.length_map] at c0 ha hc
  have hobw : ob < w.heap.size := World.block_lt_of_cell? _ _ ho.sep
  have hb3 : Below w.heap.size w (((w.alloc (.cells #[.pointer (some ⟨ob, 0, none⟩)] 49)).alloc (.cells #[.slice none 0 0] 72)).alloc (.cells #[.func (.func 38) #[] #[.pointer (some ⟨w.heap.size, 0, none⟩), .pointer (some ⟨w.heap.size + 1, 0, none⟩), .pointer (some ⟨w.heap.size + 1 + 1, 0, none⟩)]] 73)) := (((Below.refl _ _).alloc (Nat.le_refl _) _).alloc (by simp) _).alloc (by simp; omega) _
  have hclo : CloAt (((w.alloc (.cells #[.pointer (some ⟨ob, 0, none⟩)] 49)).alloc (.cells #[.slice none 0 0] 72)).alloc (.cells #[.func (.func 38) #[] #[.pointer (some ⟨w.heap.size, 0, none⟩), .pointer (some ⟨w.heap.size + 1, 0, none⟩), .pointer (some ⟨w.heap.size + 1 + 1, 0, none⟩)]] 73)) w.heap.size ob [] := by
    refine ⟨cell_alloc_old (cell_alloc_old (cell_alloc_new' w _ _ rfl rfl) _) _, cell_alloc_new' _ _ _ (by simp) rfl, .slice none 0 0, ?_, World.ownsRow_nil _ _ _ _⟩
    have h1 := objAt_alloc_new (w.alloc (.cells #[.pointer (some ⟨ob, 0, none⟩)] 49)) #[.slice none 0 0] 72
    rw [World.size_alloc] at h1
    exact h1.below ((Below.refl _ _).alloc (Nat.le_refl _) _) (by simp)
  have hsz3 : (((w.alloc (.cells #[.pointer (some ⟨ob, 0, none⟩)] 49)).alloc (.cells #[.slice none 0 0] 72)).alloc (.cells #[.func (.func 38) #[] #[.pointer (some ⟨w.heap.size, 0, none⟩), .pointer (some ⟨w.heap.size + 1, 0, none⟩), .pointer (some ⟨w.heap.size + 1 + 1, 0, none⟩)]] 73)).heap.size = w.heap.size + 3 := by simp
  have c0' := cell_below hb3 c0
  have HC0 := Lib.hid (And.intro hclo hb3)
  have HF := Lib.hid hF
  have HR := Lib.hid hR
  have HCELL := Lib.hid hc
  have HA := Lib.hid ha
  have HL := Lib.hid hl
  have HO := Lib.hid ho
  have HTR := Lib.hid htr
  have HLIM := Lib.hid hlim
  clear hclo hb3 hF hR hc ha hl ho htr hs hlim
  go_enter Try.func23, Try.ntmps23
  go_wp2_with fail
  go_loopw [19] (fun i wr => ∃ k : Nat, k ≤ l.length ∧ i = .int .i64 (k : Int) ∧ CloAt wr w.heap.size ob (partsL ts trim name (l.take k)) ∧ w.heap.size + 3 ≤ wr.heap.size ∧ Below w.heap.size w wr) (fun i _ => l.length - (intOf i).toNat)
  case atStart => exact ⟨0, by omega, by go_num, HC0.out.1, by omega, HC0.out.2⟩
  case round =>
    obtain ⟨k, hk, rfl, hc1, hwr, hbel⟩ := hrel
    clear c0' hsz3
    by_cases hlt : k < l.length
    · obtain rfl := HA.out (by omega)
      have ck := cell_below hbel (HCELL.out k hlt)
      have hkI : (k : Int) < (l.length : Int) := by omega
      have htk := take_snoc hlt
      have hxl := HL.out _ (getD_mem' (d := 0) hlt)
      have hgd : (l.map nb).getD k 0 = nb (l.getD k 0) := by simp [List.getD, hlt]
      rw [hgd] at ck
      have htrx := HTR.out _ (getD_mem' (d := 0) hlt)
      obtain ⟨x, hx⟩ : ∃ x, l.getD k 0 = x := ⟨_, rfl⟩
      rw [hx] at ck htk hxl htrx
      have hle := HR.out.le
      have hfit := HR.out.nest.fit x hxl
      have hpl := partsL_length ts trim name (M := 200) (l.take k) (fun i hi => by
        have hi2 := HL.out i (List.mem_of_mem_take hi)
        have := HR.out.nest.fit i hi2
        omega)
      rw [List.length_take] at hpl
      have hcall := clo_any HF.out HR.out ob gb sep trim name HO.out (sz ts x) x (partsL ts trim name (l.take k)) wr hxl (Nat.le_refl _) hbel hwr hc1 (by omega) htrx
      rw [← partsL_snoc, ← htk] at hcall
      have cf : wr.cell? ⟨w.heap.size + 1 + 1, 0, none⟩ = some (.func (.func 38) #[] #[.pointer (some ⟨w.heap.size, 0, none⟩), .pointer (some ⟨w.heap.size + 1, 0, none⟩), .pointer (some ⟨w.heap.size + 1 + 1, 0, none⟩)]) := hc1.fn
      have HCL := Lib.hid hcall
      have HBEL := Lib.hid hbel
      clear hcall hbel hpl htk hgd hx hc1 htrx
      go_wp2_with fail
      refine HCL.out.mono ?_
      rintro e w2 ⟨rfl, hc2, hb2⟩
      have hsz2 := hb2.size
      have HB3 := Lib.hid (And.intro hc2 (HBEL.out.trans hb2))
      clear hc2 hb2
      go_wp2
      go_roundw
      case rel => exact ⟨k + 1, by omega, by go_num, HB3.out.1, by omega, HB3.out.2⟩
      case measure => simp [intOf]; omega
    · obtain rfl : k = l.length := by omega
      rw [List.take_length] at hc1
      obtain ⟨v, hobj, hown⟩ := hc1.row
      obtain ⟨pa, pc, rfl⟩ := rowSlice hown
      have d1 := hc1.box
      have d2 := hobj.cell (i := 0) (v := .slice pa _ pc) rfl
      have dsep := cell_below hbel HO.out.sep
      have HBEL := Lib.hid hbel
      have HOWN := Lib.hid hown
      clear hobj hbel hc1 hown
      have hpl := partsL_length ts trim name (M := 200) l (fun i hi => by
        have hi2 := HL.out i hi
        have := HR.out.nest.fit i hi2
        have := HR.out.le
        omega)
      have hjoin := join_own (w := wr.drew) (sep := sep) HOWN.out.drew (by omega) HLIM.out
      have hbd : Below w.heap.size w wr.drew := below_drewN HBEL.out 1
      have HBD := Lib.hid hbd
      clear hbd
      have HJ := Lib.hid hjoin
      clear hjoin hpl
      obtain ⟨n, hn⟩ : ∃ n, (partsL ts trim name l).length = n := ⟨_, rfl⟩
      rw [hn] at d2 HJ
      go_wp2
      go_still_tail 5, (by kernel_rfl)
      go_wp2_with fail
      refine HJ.out.mono ?_
      rintro e w2 ⟨rfl, hb2⟩
      have HB2 := Lib.hid (HBD.out.trans (hb2.mono HBD.out.size))
      clear hb2
      go_wp2
      go_ret
      exact ⟨rfl, HB2.out⟩

end Go.Proofs.Ytikimffifkiinaa
