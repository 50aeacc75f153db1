/- laws.attrs7, val7, others7same; spec.Attr. -/
import Derived.Test.YtikimffifkiinaaAttrPure
import Derived.Test.YtikimffifkiinaaWords
namespace Go.Proofs.Ytikimffifkiinaa
open Go.RowKit
set_option linter.unusedVariables false
set_option linter.unusedSimpArgs false

/-- What attrs7 says with a yes. -/
def Attrs7Say (l : KVs) (b : Bool) : Prop := b = true → l.length ≤ 12 ∧ (∀ x ∈ l, x.1.size ≤ 200 ∧ x.2.size ≤ 200) ∧ DistKV l
theorem attrs7Say_false (l : KVs) : Attrs7Say l false := by simp [Attrs7Say]

def sClass : ByteArray := ⟨#[99, 108, 97, 115, 115]⟩

/-- What is known of the first n. -/
def A7 (l : KVs) (n : Nat) : Prop := (∀ i, i < n → (l.getD i default).1.size ≤ 200 ∧ (l.getD i default).2.size ≤ 200) ∧ ∀ i, i < n → NoneBefore l (l.getD i default).1 i

set_option maxRecDepth 100000 in
set_option maxHeartbeats 4000000 in
theorem attrs7_any (a : Option Addr) (len cap : Nat) (l : KVs) (w : World) (h : AttrsAt w a len l) :
    Calls Try.prog 11 #[.slice a len cap] w (SomeBoolB (Attrs7Say l) w) := by
  have hm := h.2.1
  unfold maxLen at hm
  by_cases h12 : 12 < len
  · have g12 : decide ((12 : Int) < (len : Int)) = true := by simp; omega
    go_enter Try.func11, Try.ntmps11
    go_wp2
    go_ret
    exact ⟨_, attrs7Say_false _, rfl, Below.refl _ _⟩
  have h12' : len ≤ 12 := by omega
  have g12 : decide ((12 : Int) < (len : Int)) = false := by simp; omega
  have HA := Lib.hid h
  clear h h12
  go_enter Try.func11, Try.ntmps11
  go_wp2
  go_loopw [3] (fun i wr => ∃ (n : Nat), n ≤ len ∧ i = .int .i64 n ∧ A7 l n ∧ Below w.heap.size w wr) (fun i _ => len - (intOf i).toNat)
  case atStart => exact ⟨0, by omega, rfl, ⟨fun i h => by omega, fun i h => by omega⟩, Below.refl _ _⟩
  case round =>
    obtain ⟨n, hn, rfl, hap, hbel⟩ := hrel
    have HAP := Lib.hid hap
    have HBEL := Lib.hid hbel
    clear hap hbel
    by_cases hlt : n < len
    · obtain ⟨h1, h2, hsz, hcc⟩ := HA.out.below HBEL.out
      obtain ⟨b, off, rfl, hc⟩ := hcc (by omega)
      obtain ⟨ck, cv⟩ := hc n hlt
      have hin : n < l.length := by omega
      have hs := hsz _ (getD_mem' (d := default) hin)
      have HC := Lib.hid hc
      obtain ⟨key, hkey⟩ : ∃ key, (l.getD n default).1 = key := ⟨_, rfl⟩
      obtain ⟨val, hval⟩ : ∃ val, (l.getD n default).2 = val := ⟨_, rfl⟩
      rw [hkey] at ck hs
      rw [hval] at cv hs
      unfold maxLen at hs
      have hs1 := hs.1
      have hs2 := hs.2
      have HK := Lib.hid (And.intro hkey hval)
      have hnI : (n : Int) < (len : Int) := by omega
      clear h1 h2 hsz hcc hc hin hkey hval hs
      by_cases q1 : 200 < key.size
      · have g1 : decide ((200 : Int) < (key.size : Int)) = true := by simp; omega
        have g1n : decide (200 < key.size) = true := by simp; omega
        clear q1
        go_wp2
        go_ret
        exact ⟨_, attrs7Say_false _, rfl, HBEL.out⟩
      have g1 : decide ((200 : Int) < (key.size : Int)) = false := by simp; omega
      have g1n : decide (200 < key.size) = false := by simp; omega
      by_cases q2 : 200 < val.size
      · have g2 : decide ((200 : Int) < (val.size : Int)) = true := by simp; omega
        have g2n : decide (200 < val.size) = true := by simp; omega
        clear q1 q2
        go_wp2
        go_ret
        exact ⟨_, attrs7Say_false _, rfl, HBEL.out⟩
      have g2 : decide ((200 : Int) < (val.size : Int)) = false := by simp; omega
      have g2n : decide (200 < val.size) = false := by simp; omega
      have HQ := Lib.hid (And.intro q1 q2)
      have hcall := fun wr' => simpleClass_any val wr' (by omega)
      have HCL := Lib.hid hcall
      clear q1 q2 hcall
      by_cases hcl : key.toList = [99, 108, 97, 115, 115]
      rotate_left
      · have hcb : (key.toList == [99, 108, 97, 115, 115]) = false := by simpa using hcl
        go_wp2
        clear hcl hcb
        go_loopw [4] (fun i wr2 => ∃ (k : Nat), k ≤ n ∧ i = .int .i64 k ∧ NoneBefore l key k ∧ Below w.heap.size w wr2) (fun i _ => n - (intOf i).toNat)
        case atStart => exact ⟨0, by omega, rfl, fun j hj => by omega, HBEL.out⟩
        case round =>
          obtain ⟨k, hkn, rfl, hne, hbel2⟩ := hrel
          have HNE := Lib.hid hne
          have HBE2 := Lib.hid hbel2
          clear hne hbel2
          by_cases hlk : k < n
          · obtain ⟨_, _, _, hcc⟩ := HA.out.below HBE2.out
            obtain ⟨b2, off2, hbe, hc⟩ := hcc (by omega)
            simp at hbe
            obtain ⟨rfl, rfl⟩ := hbe
            have ck2 := (hc k (by omega)).1
            have ck3 := (hc n hlt).1
            obtain ⟨y, hy⟩ : ∃ y, (l.getD k default).1 = y := ⟨_, rfl⟩
            rw [hy] at ck2
            rw [HK.out.1] at ck3
            have HY := Lib.hid hy
            have hkI : (k : Int) < (n : Int) := by omega
            have hkL : (k : Int) < (len : Int) := by omega
            have hnL : (n : Int) < (len : Int) := by omega
            clear hy hcc hc
            cases heq : (y.toList == key.toList)
            · go_wp2
              go_quiet (fail)
              go_wp2
              go_roundw
              case rel => exact ⟨k + 1, by omega, by go_num, HNE.out.succ HY.out heq, by first | exact below_drewN HBE2.out _ | exact below_drewN (below_drewN HBE2.out _) _⟩
              case measure => simp [intOf]; omega
            · go_wp2
              go_quiet (fail)
              go_wp2
              go_ret
              exact ⟨_, attrs7Say_false _, rfl, by first | exact below_drewN HBE2.out _ | exact below_drewN (below_drewN HBE2.out _) _⟩
          · obtain rfl : k = n := by omega
            have hap2 : A7 l (k + 1) := ⟨fun i hi => by
              by_cases e : i = k
              · subst e; rw [HK.out.1, HK.out.2]; have := HQ.out; omega
              · exact HAP.out.1 i (by omega), fun i hi => by
              by_cases e : i = k
              · subst e; rw [HK.out.1]; exact HNE.out
              · exact HAP.out.2 i (by omega)⟩
            have HAP2 := Lib.hid hap2
            clear hap2
            go_wp2
            go_roundw
            case rel => exact ⟨k + 1, by omega, by go_num, HAP2.out, HBE2.out⟩
            case measure => simp [intOf]; omega
      · have hcb : (key.toList == [99, 108, 97, 115, 115]) = true := by simpa using hcl
        go_wp2_with fail
        refine (HCL.out _).mono ?_
        rintro e w1 ⟨c, _, rfl, hb1⟩
        have HB1 := Lib.hid (HBEL.out.trans (hb1.mono HBEL.out.size))
        clear hb1 hcl hcb
        cases c
        · go_wp2
          go_ret
          exact ⟨_, attrs7Say_false _, rfl, HB1.out⟩
        go_wp2
        go_loopw [4] (fun i wr2 => ∃ (k : Nat), k ≤ n ∧ i = .int .i64 k ∧ NoneBefore l key k ∧ Below w.heap.size w wr2) (fun i _ => n - (intOf i).toNat)
        case atStart => exact ⟨0, by omega, rfl, fun j hj => by omega, HB1.out⟩
        case round =>
          obtain ⟨k, hkn, rfl, hne, hbel2⟩ := hrel
          have HNE := Lib.hid hne
          have HBE2 := Lib.hid hbel2
          clear hne hbel2
          by_cases hlk : k < n
          · obtain ⟨_, _, _, hcc⟩ := HA.out.below HBE2.out
            obtain ⟨b2, off2, hbe, hc⟩ := hcc (by omega)
            simp at hbe
            obtain ⟨rfl, rfl⟩ := hbe
            have ck2 := (hc k (by omega)).1
            have ck3 := (hc n hlt).1
            obtain ⟨y, hy⟩ : ∃ y, (l.getD k default).1 = y := ⟨_, rfl⟩
            rw [hy] at ck2
            rw [HK.out.1] at ck3
            have HY := Lib.hid hy
            have hkI : (k : Int) < (n : Int) := by omega
            have hkL : (k : Int) < (len : Int) := by omega
            have hnL : (n : Int) < (len : Int) := by omega
            clear hy hcc hc
            cases heq : (y.toList == key.toList)
            · go_wp2
              go_quiet (fail)
              go_wp2
              go_roundw
              case rel => exact ⟨k + 1, by omega, by go_num, HNE.out.succ HY.out heq, by first | exact below_drewN HBE2.out _ | exact below_drewN (below_drewN HBE2.out _) _⟩
              case measure => simp [intOf]; omega
            · go_wp2
              go_quiet (fail)
              go_wp2
              go_ret
              exact ⟨_, attrs7Say_false _, rfl, by first | exact below_drewN HBE2.out _ | exact below_drewN (below_drewN HBE2.out _) _⟩
          · obtain rfl : k = n := by omega
            have hap2 : A7 l (k + 1) := ⟨fun i hi => by
              by_cases e : i = k
              · subst e; rw [HK.out.1, HK.out.2]; have := HQ.out; omega
              · exact HAP.out.1 i (by omega), fun i hi => by
              by_cases e : i = k
              · subst e; rw [HK.out.1]; exact HNE.out
              · exact HAP.out.2 i (by omega)⟩
            have HAP2 := Lib.hid hap2
            clear hap2
            go_wp2
            go_roundw
            case rel => exact ⟨k + 1, by omega, by go_num, HAP2.out, HBE2.out⟩
            case measure => simp [intOf]; omega
    · obtain rfl : n = len := by omega
      go_wp2
      go_ret
      refine ⟨true, fun _ => ⟨by rw [HA.out.1]; exact h12', fun x hx => ?_, dist_of fun i hi j hj => ?_⟩, rfl, HBEL.out⟩
      · obtain ⟨i, hi, rfl⟩ := List.mem_iff_getElem.mp hx
        have := HAP.out.1 i (by rw [← HA.out.1]; exact hi)
        rwa [List.getD_eq_getElem?_getD, List.getElem?_eq_getElem hi] at this
      · exact HAP.out.2 i (by rw [← HA.out.1]; exact hi) j hj

def LookPost (l : KVs) (key : ByteArray) (w : World) (e : Ending) (w' : World) : Prop := e = .returned (.tuple #[.string ((lookKV l key).getD ByteArray.empty), .bool (lookKV l key).isSome]) ∧ Hid (Below w.heap.size w w')

set_option maxRecDepth 100000 in
set_option maxHeartbeats 1000000 in
theorem look_any (k z : Int) (tag text : ByteArray) (aa : Option Addr) (al ac : Nat) (l : KVs) (key : ByteArray) (w : World) (h : AttrsAt w aa al l) :
    Calls Try.prog 45 #[.agg #[.int .i64 k, .string tag, .string text, .slice aa al ac, .int .i64 z], .string key] w (LookPost l key w) := by
  have hm := h.2.1
  unfold maxLen at hm
  have hll := h.1
  have hb0 : Below w.heap.size w (w.alloc (.cells #[.int .i64 k, .string tag, .string text, .slice aa al ac, .int .i64 z] 37)) := (Below.refl _ _).alloc (Nat.le_refl _) _
  have cb : (w.alloc (.cells #[.int .i64 k, .string tag, .string text, .slice aa al ac, .int .i64 z] 37)).cell? ⟨w.heap.size, 3, none⟩ = some (.slice aa al ac) := cell_alloc_new' _ _ _ rfl rfl
  have h0 := h.below hb0
  have HA := Lib.hid h0
  have HB := Lib.hid hb0
  clear h hb0 h0
  subst hll
  go_enter Try.func45, Try.ntmps45
  go_wp2
  go_loop [6] (fun i => ∃ n : Nat, n ≤ l.length ∧ i = .int .i64 (n : Int) ∧ NoneBefore l key n) (fun i => l.length - (intOf i).toNat)
  case atStart => exact ⟨0, by omega, by go_num, fun j hj => by omega⟩
  case round =>
    obtain ⟨n, hn, rfl, hno⟩ := hrel
    have HNO := Lib.hid hno
    clear hno
    by_cases hlt : n < l.length
    · obtain ⟨_, _, _, hcc⟩ := HA.out
      obtain ⟨b, off, rfl, hc⟩ := hcc (by omega)
      obtain ⟨c1, c2⟩ := hc n hlt
      have hnI : (n : Int) < (l.length : Int) := by omega
      obtain ⟨x, hx⟩ : ∃ x, (l.getD n default).1 = x := ⟨_, rfl⟩
      obtain ⟨y, hy⟩ : ∃ y, (l.getD n default).2 = y := ⟨_, rfl⟩
      rw [hx] at c1
      rw [hy] at c2
      have HX := Lib.hid (And.intro hx hy)
      clear hx hy hcc hc
      cases hke : (x.toList == key.toList)
      · have HKE := Lib.hid (HNO.out.succ HX.out.1 hke)
        go_wp2
        go_round
        case rel => exact ⟨n + 1, by omega, by go_num, HKE.out⟩
        case measure => simp [intOf]; omega
      · have hfin : lookKV l key = some y := by rw [look_at hlt HNO.out (by rw [HX.out.1]; exact hke), HX.out.2]
        have HFIN := Lib.hid hfin
        clear hfin
        go_wp2
        go_ret2
        exact ⟨by rw [HFIN.out]; rfl, HB⟩
    · obtain rfl : n = l.length := by omega
      have hfin : lookKV l key = none := look_none HNO.out
      have HFIN := Lib.hid hfin
      clear hfin
      go_wp2
      go_ret2
      exact ⟨by rw [HFIN.out]; rfl, HB⟩

set_option maxRecDepth 100000 in
set_option maxHeartbeats 1000000 in
theorem val7_any (aa : Option Addr) (al ac : Nat) (l : KVs) (key : ByteArray) (w : World) (h : AttrsAt w aa al l) :
    Calls Try.prog 29 #[.slice aa al ac, .string key] w (LookPost l key w) := by
  have hl := fun (o : Obj) => look_any 0 0 ⟨#[]⟩ ⟨#[]⟩ aa al ac l key (w.alloc o) (h.below ((Below.refl _ _).alloc (Nat.le_refl _) o))
  have hl0 := look_any 0 0 ⟨#[]⟩ ⟨#[]⟩ aa al ac l key w h
  have HL := Lib.hid hl
  have HL0 := Lib.hid hl0
  clear hl hl0 h
  go_enter Try.func29, Try.ntmps29
  go_wp2_with fail
  first | (refine (HL.out _).mono ?_) | (refine HL0.out.mono ?_)
  rintro e w1 ⟨rfl, hb⟩
  have hb1 : Below w.heap.size w w1 := by first | exact hb.out | exact ((Below.refl _ _).alloc (Nat.le_refl _) _).trans (hb.out.mono (by simp))
  have HB := Lib.hid hb1
  clear HL HL0 hb hb1
  obtain ⟨o, ho⟩ : ∃ o, lookKV l key = o := ⟨_, rfl⟩
  rw [ho]
  have HO := Lib.hid ho
  clear ho
  go_wp2
  go_ret2
  exact ⟨by rw [HO.out]; rfl, HB⟩

set_option maxRecDepth 100000 in
set_option maxHeartbeats 4000000 in
theorem others_any (a1 a2 : Option Addr) (n1 c1 n2 c2 : Nat) (l1 l2 : KVs) (key : ByteArray) (w : World) (h1 : AttrsAt w a1 n1 l1) (h2 : AttrsAt w a2 n2 l2) (f12 : Found l1 l2) (f21 : Found l2 l1) :
    Calls Try.prog 13 #[.slice a1 n1 c1, .slice a2 n2 c2, .string key] w (YesB w) := by
  have hm1 := h1.2.1
  have hm2 := h2.2.1
  unfold maxLen at hm1 hm2
  have H1 := Lib.hid h1
  have H2 := Lib.hid h2
  have F12 := Lib.hid f12
  have F21 := Lib.hid f21
  clear h1 h2 f12 f21
  go_enter Try.func13, Try.ntmps13
  go_wp2
  go_loopw [7] (fun i wr => ∃ (n : Nat), n ≤ n1 ∧ i = .int .i64 n ∧ Below w.heap.size w wr) (fun i _ => n1 - (intOf i).toNat)
  case atStart => exact ⟨0, by omega, rfl, Below.refl _ _⟩
  case round =>
    obtain ⟨n, hn, rfl, hbel⟩ := hrel
    have HBEL := Lib.hid hbel
    clear hbel
    by_cases hlt : n < n1
    · obtain ⟨e1, _, _, hcc⟩ := H1.out.below HBEL.out
      obtain ⟨b, off, rfl, hc⟩ := hcc (by omega)
      obtain ⟨ck, cv⟩ := hc n hlt
      have hfd := F12.out _ (getD_mem' (d := default) (show n < l1.length by omega))
      have hv := val7_any a2 n2 c2 l2 (l1.getD n default).1 wr (H2.out.below HBEL.out)
      unfold LookPost at hv
      rw [hfd] at hv
      obtain ⟨x, hx⟩ : ∃ x, (l1.getD n default).1 = x := ⟨_, rfl⟩
      obtain ⟨y, hy⟩ : ∃ y, (l1.getD n default).2 = y := ⟨_, rfl⟩
      rw [hx] at ck hv
      rw [hy] at cv hv
      have HV := Lib.hid hv
      have hnI : (n : Int) < (n1 : Int) := by omega
      have hyy : (y.toList != y.toList) = false := by simp
      have hyy2 : (y.toList == y.toList) = true := by simp
      clear e1 hcc hc hfd hv hx hy
      go_wp2_with fail
      refine HV.out.mono ?_
      rintro e w1 ⟨rfl, hb⟩
      have ck1 := cell_below hb.out ck
      have cv1 := cell_below hb.out cv
      have HB1 := Lib.hid (HBEL.out.trans (hb.out.mono HBEL.out.size))
      clear HV hb ck cv
      cases hk : (x.toList == key.toList)
      all_goals
        go_wp2
        go_roundw
        case rel => exact ⟨n + 1, by omega, by go_num, HB1.out⟩
        case measure => simp [intOf]; omega
    · obtain rfl : n = n1 := by omega
      go_wp2
      go_loopw [10] (fun i wr => ∃ (n : Nat), n ≤ n2 ∧ i = .int .i64 n ∧ Below w.heap.size w wr) (fun i _ => n2 - (intOf i).toNat)
      case atStart => exact ⟨0, by omega, rfl, HBEL.out⟩
      case round =>
        obtain ⟨m, hm, rfl, hbel⟩ := hrel
        have HBE := Lib.hid hbel
        clear hbel
        by_cases hlt2 : m < n2
        · obtain ⟨e1, _, _, hcc⟩ := H2.out.below HBE.out
          obtain ⟨b, off, rfl, hc⟩ := hcc (by omega)
          obtain ⟨ck, cv⟩ := hc m hlt2
          have hfd := F21.out _ (getD_mem' (d := default) (show m < l2.length by omega))
          have hv := val7_any a1 n c1 l1 (l2.getD m default).1 _ (H1.out.below HBE.out)
          unfold LookPost at hv
          rw [hfd] at hv
          obtain ⟨x, hx⟩ : ∃ x, (l2.getD m default).1 = x := ⟨_, rfl⟩
          obtain ⟨y, hy⟩ : ∃ y, (l2.getD m default).2 = y := ⟨_, rfl⟩
          rw [hx] at ck hv
          rw [hy] at cv hv
          have HV := Lib.hid hv
          have hnI : (m : Int) < (n2 : Int) := by omega
          clear e1 hcc hc hfd hv hx hy
          go_wp2_with fail
          refine HV.out.mono ?_
          rintro e w1 ⟨rfl, hb⟩
          have ck1 := cell_below hb.out ck
          have HB1 := Lib.hid (HBE.out.trans (hb.out.mono HBE.out.size))
          clear HV hb ck cv
          cases hk : (x.toList == key.toList)
          all_goals
            go_wp2
            go_roundw
            case rel => exact ⟨m + 1, by omega, by go_num, HB1.out⟩
            case measure => simp [intOf]; omega
        · obtain rfl : m = n2 := by omega
          go_wp2
          go_ret
          exact ⟨rfl, HBE.out⟩

end Go.Proofs.Ytikimffifkiinaa
