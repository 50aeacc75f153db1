/- spec.rightAttrs: where it says yes, there are at most 20 attributes, each key once. -/
import Derived.Test.YtikimffifkiinaaNodes
import Derived.Test.YtikimffifkiinaaName
import Derived.Test.YtikimffifkiinaaPlain
namespace Go.Proofs.Ytikimffifkiinaa
open Go.RowKit
set_option linter.unusedVariables false
set_option linter.unusedSimpArgs false

/-- The keys of the first attributes are different. -/
def Apart (l : List (ByteArray × ByteArray)) (n : Nat) : Prop := ∀ i k, k < i → i < n → ((l.getD k default).1.toList == (l.getD i default).1.toList) = false

def AttrsSay (l : List (ByteArray × ByteArray)) (b : Bool) : Prop := b = true → l.length ≤ 20 ∧ Apart l l.length
theorem attrsSay_false (l : List (ByteArray × ByteArray)) : AttrsSay l false := by simp [AttrsSay]

set_option maxRecDepth 100000 in
set_option maxHeartbeats 2000000 in
theorem rightAttrs_any (a : Option Addr) (len cap : Nat) (l : List (ByteArray × ByteArray)) (w : World) (h : AttrsAt w a len l) :
    Calls Try.prog 33 #[.slice a len cap] w (SomeBoolB (AttrsSay l) w) := by
  have hm := h.2.1
  unfold maxLen at hm
  by_cases h20 : 20 < len
  · go_enter Try.func33, Try.ntmps33
    go_wp2
    go_ret
    exact ⟨_, attrsSay_false _, rfl, Below.refl _ _⟩
  have h20' : len ≤ 20 := by omega
  have g20 : decide ((20 : Int) < (len : Int)) = false := by simp; omega
  have HA := Lib.hid h
  clear h h20
  go_enter Try.func33, Try.ntmps33
  go_wp2
  go_loopw [3] (fun i wr => ∃ (n d : Nat), n ≤ len ∧ i = .int .i64 n ∧ Apart l n ∧ wr = w.drewN d) (fun i _ => len - (intOf i).toNat)
  case atStart => exact ⟨0, 0, by omega, rfl, fun i k h1 h2 => by omega, rfl⟩
  case round =>
    obtain ⟨n, d, hn, rfl, hap, rfl⟩ := hrel
    have HAP := Lib.hid hap
    clear hap
    by_cases hlt : n < len
    · obtain ⟨h1, h2, hsz, hcc⟩ := HA.out
      obtain ⟨b, off, rfl, hc⟩ := hcc (by omega)
      have cn := hc n hlt
      have hin : n < l.length := by omega
      have hs1 : (l.getD n default).1.size ≤ maxLen := (hsz _ (by rw [List.getD_eq_getElem?_getD, List.getElem?_eq_getElem hin]; exact List.getElem_mem _)).1
      have hs2 : (l.getD n default).2.size ≤ maxLen := (hsz _ (by rw [List.getD_eq_getElem?_getD, List.getElem?_eq_getElem hin]; exact List.getElem_mem _)).2
      have HC := Lib.hid hc
      obtain ⟨key, hkey⟩ : ∃ key, (l.getD n default).1 = key := ⟨_, rfl⟩
      obtain ⟨val, hval⟩ : ∃ val, (l.getD n default).2 = val := ⟨_, rfl⟩
      rw [hkey] at cn hs1
      rw [hval] at cn hs2
      have ck := cn.1
      have cv := cn.2
      have HK := Lib.hid hkey
      have HS := Lib.hid (And.intro hs1 hs2)
      clear h1 h2 hsz hcc hc cn hin hkey hval hs1 hs2
      go_wp2_with fail
      refine (name_any key _ HS.out.1).mono ?_
      rintro e w' ⟨c, _, rfl, hw⟩
      rw [← hw]
      clear hw w'
      cases c
      · go_wp2
        go_ret
        exact ⟨_, attrsSay_false _, rfl, below_drewN (Below.refl _ _) d⟩
      go_wp2_with fail
      refine (plain_any val _ HS.out.2).mono ?_
      rintro e w' ⟨c, _, rfl, hw⟩
      rw [← hw]
      clear hw w'
      cases c
      · go_wp2
        go_ret
        exact ⟨_, attrsSay_false _, rfl, below_drewN (Below.refl _ _) d⟩
      go_wp2
      go_loopw [4] (fun i wr => ∃ (k d2 : Nat), k ≤ n ∧ i = .int .i64 k ∧ (∀ j, j < k → ((l.getD j default).1.toList == (l.getD n default).1.toList) = false) ∧ wr = w.drewN d2) (fun i _ => n - (intOf i).toNat)
      case atStart => exact ⟨0, d, by omega, rfl, fun j hj => by omega, rfl⟩
      case round =>
        obtain ⟨k, d2, hkn, rfl, hne, rfl⟩ := hrel
        have HNE := Lib.hid hne
        clear hne
        by_cases hlk : k < n
        · have ck2 := (HC.out k (by omega)).1
          obtain ⟨y, hy⟩ : ∃ y, (l.getD k default).1 = y := ⟨_, rfl⟩
          rw [hy] at ck2
          have HY := Lib.hid hy
          clear hy
          by_cases heq : (y.toList == key.toList) = true
          · go_wp2
            go_quiet (fail)
            go_wp2
            go_ret
            exact ⟨_, attrsSay_false _, rfl, by first | exact below_drewN (Below.refl _ _) _ | exact below_drewN (below_drewN (Below.refl _ _) _) _⟩
          · have heq' : (y.toList == key.toList) = false := by simpa using heq
            clear heq
            go_wp2
            go_quiet (fail)
            go_wp2
            go_roundw
            case rel =>
              refine ⟨k + 1, _, by omega, by go_num, fun j hj => ?_, rfl⟩
              by_cases hjk : j = k
              · subst hjk; rw [HY.out, HK.out]; exact heq'
              · exact HNE.out j (by omega)
            case measure => simp [intOf]; omega
        · have hap2 : Apart l (n + 1) := by
            intro i j hj hi
            by_cases hin : i = n
            · subst hin; exact HNE.out j (by omega)
            · exact HAP.out i j hj (by omega)
          have HAP2 := Lib.hid hap2
          clear hap2
          go_wp2
          go_roundw
          case rel => exact ⟨n + 1, _, by omega, by go_num, HAP2.out, rfl⟩
          case measure => simp [intOf]; omega
    · obtain rfl : n = len := by omega
      go_wp2
      go_ret
      exact ⟨true, fun _ => ⟨by rw [HA.out.1]; exact h20', by rw [HA.out.1]; exact HAP.out⟩, rfl, by first | exact below_drewN (Below.refl _ _) _ | exact below_drewN (below_drewN (Below.refl _ _) _) _⟩

end Go.Proofs.Ytikimffifkiinaa
