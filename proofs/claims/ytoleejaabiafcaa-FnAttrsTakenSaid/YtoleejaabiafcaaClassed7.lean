/- laws.others7same but for the class; laws.classed7. -/
import Derived.Test.YtoleejaabiafcaaWordIn
import Derived.Test.YtoleejaabiafcaaAttrsAll
namespace Go.Proofs.Ytoleejaabiafcaa
open Go.RowKit
set_option linter.unusedVariables false
set_option linter.unusedSimpArgs false

set_option maxRecDepth 100000 in
set_option maxHeartbeats 4000000 in
theorem othersC_any (a1 a2 : Option Addr) (n1 c1 n2 c2 : Nat) (l1 l2 : KVs) (w : World) (h1 : AttrsAt w a1 n1 l1) (h2 : AttrsAt w a2 n2 l2) (hnear : NearC l1 l2) :
    Calls Try.prog 39 #[.slice a1 n1 c1, .slice a2 n2 c2, .string ⟨#[99, 108, 97, 115, 115]⟩] w (YesB w) := by
  have hm1 := h1.2.1
  have hm2 := h2.2.1
  unfold maxLen at hm1 hm2
  have H1 := Lib.hid h1
  have H2 := Lib.hid h2
  have F12 := Lib.hid hnear.1
  have F21 := Lib.hid hnear.2
  clear h1 h2 hnear
  go_enter Try.func39, Try.ntmps39
  go_wp2
  go_loopw [7] (fun i wr => ∃ (n : Nat), n ≤ n1 ∧ i = .int .i64 n ∧ Below w.heap.size w wr) (fun i _ => n1 - (intOf i).toNat)
  case atStart => exact ⟨0, by omega, rfl, Below.refl _ _⟩
  case round =>
    obtain ⟨n, hn, rfl, hbel⟩ := hrel
    have HBEL := Lib.hid hbel
    clear hbel
    by_cases hlt : n < n1
    · obtain ⟨e1, _, _, hcc⟩ := H1.out.below HBEL.out
      obtain ⟨b, off, rfl, hc⟩ := hcc (by omega)
      obtain ⟨ck, cv⟩ := hc n hlt
      have hfd := F12.out _ (getD_mem' (d := default) (show n < l1.length by omega))
      obtain ⟨o, ho⟩ : ∃ o, lookKV l2 (l1.getD n default).1 = o := ⟨_, rfl⟩
      have hv := val7_any a2 n2 c2 l2 (l1.getD n default).1 wr (H2.out.below HBEL.out)
      unfold LookPost at hv
      rw [ho] at hv
      rw [ho] at hfd
      clear ho
      obtain ⟨x, hx⟩ : ∃ x, (l1.getD n default).1 = x := ⟨_, rfl⟩
      obtain ⟨y, hy⟩ : ∃ y, (l1.getD n default).2 = y := ⟨_, rfl⟩
      rw [hx] at ck hv hfd
      rw [hy] at cv hfd
      have HV := Lib.hid hv
      have hnI : (n : Int) < (n1 : Int) := by omega
      have hyy : (y.toList != y.toList) = false := by simp
      have hyy2 : (y.toList == y.toList) = true := by simp
      clear e1 hcc hc hv hx hy
      cases hk : (x.toList == [99, 108, 97, 115, 115])
      · obtain rfl := hfd (by rw [show clsK.toList = [99, 108, 97, 115, 115] by rw [ByteArray.toList_eq]; rfl]; simpa using hk)
        go_wp2_with fail
        refine HV.out.mono ?_
        rintro e w1 ⟨rfl, hb⟩
        have ck1 := cell_below hb.out ck
        have cv1 := cell_below hb.out cv
        have HB1 := Lib.hid (HBEL.out.trans (hb.out.mono HBEL.out.size))
        clear HV hb ck cv hfd
        go_wp2
        go_roundw
        case rel => exact ⟨n + 1, by omega, by go_num, HB1.out⟩
        case measure => simp [intOf]; omega
      · clear hfd
        go_wp2_with fail
        refine HV.out.mono ?_
        rintro e w1 ⟨rfl, hb⟩
        have ck1 := cell_below hb.out ck
        have cv1 := cell_below hb.out cv
        have HB1 := Lib.hid (HBEL.out.trans (hb.out.mono HBEL.out.size))
        clear HV hb ck cv
        go_wp2
        go_roundw
        case rel => exact ⟨n + 1, by omega, by go_num, HB1.out⟩
        case measure => simp [intOf]; omega
    · obtain rfl : n = n1 := by omega
      go_wp2
      go_loopw [10] (fun i wr => ∃ (n : Nat), n ≤ n2 ∧ i = .int .i64 n ∧ Below w.heap.size w wr) (fun i _ => n2 - (intOf i).toNat)
      case atStart => exact ⟨0, by omega, rfl, HBEL.out⟩
      case round =>
        obtain ⟨m, hm, rfl, hbel⟩ := hrel
        have HBE := Lib.hid hbel
        clear hbel
        by_cases hlt2 : m < n2
        · obtain ⟨e1, _, _, hcc⟩ := H2.out.below HBE.out
          obtain ⟨b, off, rfl, hc⟩ := hcc (by omega)
          obtain ⟨ck, cv⟩ := hc m hlt2
          have hfd := F21.out _ (getD_mem' (d := default) (show m < l2.length by omega))
          obtain ⟨o, ho⟩ : ∃ o, lookKV l1 (l2.getD m default).1 = o := ⟨_, rfl⟩
          have hv := val7_any a1 n c1 l1 (l2.getD m default).1 _ (H1.out.below HBE.out)
          unfold LookPost at hv
          rw [ho] at hv
          rw [ho] at hfd
          clear ho
          obtain ⟨x, hx⟩ : ∃ x, (l2.getD m default).1 = x := ⟨_, rfl⟩
          obtain ⟨y, hy⟩ : ∃ y, (l2.getD m default).2 = y := ⟨_, rfl⟩
          rw [hx] at ck hv hfd
          rw [hy] at cv hfd
          have HV := Lib.hid hv
          have hnI : (m : Int) < (n2 : Int) := by omega
          clear e1 hcc hc hv hx hy
          cases hk : (x.toList == [99, 108, 97, 115, 115])
          · obtain rfl := hfd (by rw [show clsK.toList = [99, 108, 97, 115, 115] by rw [ByteArray.toList_eq]; rfl]; simpa using hk)
            go_wp2_with fail
            refine HV.out.mono ?_
            rintro e w1 ⟨rfl, hb⟩
            have ck1 := cell_below hb.out ck
            have HB1 := Lib.hid (HBE.out.trans (hb.out.mono HBE.out.size))
            clear HV hb ck cv hfd
            go_wp2
            go_roundw
            case rel => exact ⟨m + 1, by omega, by go_num, HB1.out⟩
            case measure => simp [intOf]; omega
          · clear hfd
            go_wp2_with fail
            refine HV.out.mono ?_
            rintro e w1 ⟨rfl, hb⟩
            have ck1 := cell_below hb.out ck
            have HB1 := Lib.hid (HBE.out.trans (hb.out.mono HBE.out.size))
            clear HV hb ck cv
            go_wp2
            go_roundw
            case rel => exact ⟨m + 1, by omega, by go_num, HB1.out⟩
            case measure => simp [intOf]; omega
        · obtain rfl : m = n2 := by omega
          go_wp2
          go_ret
          exact ⟨rfl, HBE.out⟩

set_option maxRecDepth 100000 in
set_option maxHeartbeats 4000000 in
theorem classed7_any (a : Option Addr) (n c : Nat) (l : KVs) (W : Wds) (m sz : Nat) (a2 : Option Addr) (ws : List ByteArray) (c2 : Nat) (w : World) (h : AttrsAt w a n l) (hg : GoodC l W m sz) (hsz : sz ≤ 9000) (h2 : StrCells w a2 ws.length ws) (hlen : ws.length = W.length) (hin : ∀ x ∈ ws, x.data.toList ∈ W) :
    Calls Try.prog 38 #[.slice a n c, .slice a2 ws.length c2] w (YesB w) := by
  have hv := val7_any a n c l clsK w h
  unfold LookPost at hv
  have hvz : (ClsVal l).size ≤ 9000 := by
    unfold ClsVal
    cases hq : lookKV l clsK with
    | none => exact Nat.zero_le _
    | some y =>
      obtain ⟨x, hx, _, h3⟩ := look_eq hq
      have := (hg.size x hx).2
      rw [h3] at this
      show y.size ≤ 9000
      omega
  have hwl : (wordsF (ClsVal l)).length = ws.length := by
    rw [hlen, ← hg.words, ← wordsF_wl, List.length_map]
  have hwd := hg.words
  have hm := h2.1
  obtain ⟨o, ho⟩ : ∃ o, lookKV l clsK = o := ⟨_, rfl⟩
  have hval : ClsVal l = o.getD ByteArray.empty := by unfold ClsVal; rw [ho]
  rw [ho] at hv
  obtain ⟨val, hvv⟩ : ∃ val, o.getD ByteArray.empty = val := ⟨_, rfl⟩
  rw [hvv] at hv hval
  rw [hval] at hvz hwl hwd
  unfold clsK at hv
  have HV := Lib.hid hv
  have HS := Lib.hid h2
  have HWD := Lib.hid (And.intro hwd (And.intro hin hwl))
  clear hv h2 hwd hin hwl hlen hg h ho hval hvv
  go_enter Try.func38, Try.ntmps38
  go_wp2_with fail
  refine HV.out.mono ?_
  rintro e w1 ⟨rfl, hb1⟩
  have HWS := Lib.hid (words_any val w1 (by omega))
  go_wp2_with fail
  refine HWS.out.mono ?_
  rintro e w2 ⟨v, rfl, ho, hb2⟩
  obtain ⟨ha, hcap, rfl, _, _⟩ := ho.out.open
  have HB2 := Lib.hid (hb1.out.trans (hb2.out.mono hb1.out.size))
  rw [HWD.out.2.2]
  have g0 : ((ws.length : Int) != (ws.length : Int)) = false := by simp
  clear ho hb1 hb2 HWS HV
  go_wp2
  go_loopw [8] (fun i wr => ∃ (k : Nat), k ≤ ws.length ∧ i = .int .i64 (k : Int) ∧ Hid (Below w.heap.size w wr)) (fun i _ => ws.length - (intOf i).toNat)
  case atStart => exact ⟨0, by omega, by go_num, HB2⟩
  case round =>
    obtain ⟨k, hk, rfl, hbel⟩ := hrel
    by_cases hlt : k < ws.length
    · obtain ⟨b, off, rfl, hc⟩ := (HS.out.below hbel.out).2 (by omega)
      have ck := hc k hlt
      have hmem := HWD.out.2.1 (ws.getD k ByteArray.empty) (by rw [List.getD_eq_getElem?_getD, List.getElem?_eq_getElem hlt]; exact List.getElem_mem hlt)
      rw [← HWD.out.1] at hmem
      obtain ⟨x, hx⟩ : ∃ x, ws.getD k ByteArray.empty = x := ⟨_, rfl⟩
      rw [hx] at ck hmem
      have HWO := Lib.hid (word_any val x wr (by omega))
      have HMEM := Lib.hid hmem
      have hkI : (k : Int) < (ws.length : Int) := by omega
      clear hc hx hmem
      go_wp2_with fail
      refine HWO.out.mono ?_
      rintro e w3 ⟨bb, rfl, hbb, hb3⟩
      obtain rfl : bb = true := hbb.out.2 HMEM.out
      have HB3 := Lib.hid (hbel.out.trans (hb3.out.mono hbel.out.size))
      clear hbb hb3 hbel ck HWO
      go_wp2
      go_roundw
      case rel => exact ⟨k + 1, by omega, by go_num, HB3⟩
      case measure => simp [intOf]; omega
    · obtain rfl : k = ws.length := by omega
      go_wp2
      go_ret
      exact ⟨rfl, hbel.out⟩

end Go.Proofs.Ytoleejaabiafcaa
