/- Parts of a proof: WriteAt4, WriteAt5, WriteAt, FnSpecificWalk. -/
import Derived.Test.YtoanofdomhnafaaGreatDoorG39
import Derived.Test.YtoanofdomhnafaaGreatDoorG04
import Derived.Test.YtoanofdomhnafaaGreatDoorG30
import Derived.Test.YtoanofdomhnafaaGreatDoorG38
import Derived.Test.YtoanofdomhnafaaGreatDoorG05
import Derived.Deep.RegionHeld3
import Derived.ChangeKeysEq
set_option linter.unusedVariables false
set_option linter.unusedSimpArgs false
namespace Go.Proofs.YtoanofdomhnafaaGreatDoor
open Go.RowKit
variable {l : List SelD}
def relW (i : Nat) : ByteArray := bs ([[110, 111, 116], [104, 97, 115], [104, 97, 115, 99, 104, 105, 108, 100]].getD i [])
def relG (b off len cap g o kcap X p f : Nat) (kd_ : Int) (N : ByteArray) (i : Nat) (v : Value) (w : World) : Prop :=
  match i with
  | 0 => RowAt w 3 relW v
  | 1 => v = .pointer (some ⟨X, 0, none⟩)
  | 2 => v = .int .i64 kd_
  | 3 => v = .int .i64 (f : Int)
  | 4 => SpotAt w (relW f) v
  | 5 => v = .string (relW f)
  | 6 => v = .string (⟨#[58]⟩ ++ relW f)
  | 7 => v = .string (⟨#[58]⟩ ++ relW f ++ ⟨#[40]⟩)
  | 8 => v = .slice (some ⟨b, off, none⟩) len cap
  | 9 => v = .slice (some ⟨g, o, none⟩) 1 kcap
  | 10 => v = .pointer (some ⟨g, o, none⟩)
  | 11 => v = .int .i64 (p : Int)
  | 12 => v = .string N
  | 13 => v = .string (⟨#[58]⟩ ++ relW f ++ ⟨#[40]⟩ ++ N)
  | 14 => v = .string (⟨#[58]⟩ ++ relW f ++ ⟨#[40]⟩ ++ N ++ ⟨#[41]⟩)
  | 15 => v = .string (⟨#[58]⟩ ++ relW f ++ ⟨#[40]⟩ ++ N ++ ⟨#[41]⟩)
  | _ => True
theorem relG_mono {b off len cap g o kcap X p f : Nat} {kd_ : Int} {N : ByteArray} (i : Nat) (v : Value) (w w' : World) (h : relG b off len cap g o kcap X p f kd_ N i v w) (hb : Below w.heap.size w w') : relG b off len cap g o kcap X p f kd_ N i v w' := by
  unfold relG at h ⊢
  split at h
  all_goals first
    | exact h.below hb
    | exact h
set_option maxRecDepth 100000 in
set_option maxHeartbeats 8000000 in
theorem wat_rel (hSS : SmallSel l) (hNP : NoPseudo l) (a : Option Addr) (len cap n : Nat) (ih : ∀ (i : Nat) (w : World), i < len → zs l i ≤ n → Sels w a len l → Calls Tryz.prog 16 #[.slice a len cap, .int .i64 (i : Int)] w (StrPost (bs (T l i)) w)) (i : Nat) (w : World) (hi : i < len) (hn : zs l i ≤ n + 1) (h : Sels w a len l) (hcl : kdS l i = 18 ∨ kdS l i = 19 ∨ kdS l i = 20) :
    Calls Tryz.prog 16 #[.slice a len cap, .int .i64 (i : Int)] w (StrPost (bs (T l i)) w) := by
  have hT := hSS.tree
  have hl := h.len.1
  have hil : i < l.length := by omega
  have hlen60 : len ≤ 60 := by rw [← hl]; exact hT.small
  obtain ⟨hsz, hfit⟩ := hT.szs hl
  have HSL := Lib.hid h
  have HKID := Lib.hid (fun w' (h' : Sels w' a len l) => selKids_any a len cap l i w' h' hsz hfit hi (by omega))
  have hlt0 := kid_lt hsz hfit hi
  have hlen0 := kid_len hsz hfit hi
  have HIH := Lib.hid ih
  have HSS := Lib.hid (And.intro hSS hNP)
  have hkz : ∀ k ∈ kidsS l i, k < len ∧ zs l k ≤ n := fun k hk => by
    have := hT.kid hil hk
    exact ⟨by omega, by omega⟩
  have HKZ := Lib.hid hkz
  clear ih hkz h hsz hfit
  go_enter Tryz.func16, Tryz.ntmps16
  go_wp2_with fail
  refine (HKID.out w HSL.out).mono ?_
  rintro e w2 ⟨kv, rfl, hkv, hbk⟩
  obtain ⟨ks, hks⟩ : ∃ ks, kids (zs l) i = ks := ⟨_, rfl⟩
  rw [hks] at hkv hlt0 hlen0
  have hS2 := HSL.out.later hbk (Nat.le_refl _)
  obtain ⟨b, off, rfl, hc⟩ := hS2.at (by omega)
  have c := hc i hi
  have c0 := c.kind
  have c1 := c.op
  have c2 := c.key
  have c3 := c.val
  have c4 := c.a
  have c5 := c.b
  have c6 := c.flag
  have c7 := c.size
  have HCE := Lib.hid c
  obtain ⟨kd_, hkd⟩ : ∃ kd_, (l.getD i default).kind = kd_ := ⟨_, rfl⟩
  obtain ⟨op_, hop⟩ : ∃ op_, (l.getD i default).op = op_ := ⟨_, rfl⟩
  obtain ⟨key, hkey⟩ : ∃ key, (l.getD i default).key = key := ⟨_, rfl⟩
  obtain ⟨val, hval⟩ : ∃ val, (l.getD i default).val = val := ⟨_, rfl⟩
  obtain ⟨a_, ha_⟩ : ∃ a_, (l.getD i default).a = a_ := ⟨_, rfl⟩
  obtain ⟨b_, hb_⟩ : ∃ b_, (l.getD i default).b = b_ := ⟨_, rfl⟩
  obtain ⟨fl_, hfl⟩ : ∃ fl_, (l.getD i default).flag = fl_ := ⟨_, rfl⟩
  obtain ⟨sz_, hsz_⟩ : ∃ sz_, (l.getD i default).size = sz_ := ⟨_, rfl⟩
  rw [hkd] at c0
  rw [hop] at c1
  rw [hkey] at c2
  rw [hval] at c3
  rw [ha_] at c4
  rw [hb_] at c5
  rw [hfl] at c6
  rw [hsz_] at c7
  have HEQS := Lib.hid (show (l.getD i default) = ⟨kd_, op_, key, val, a_, b_, fl_, sz_⟩ by rw [← hkd, ← hop, ← hkey, ← hval, ← ha_, ← hb_, ← hfl, ← hsz_])
  have HX := Lib.hid (And.intro hkd (And.intro hop (And.intro hks (And.intro hlt0 hlen0))))
  have hnode := objAt_alloc_new w2 #[.int .i64 kd_, .int .i64 op_, .string key, .string val, .int .i64 a_, .int .i64 b_, .int .i64 fl_, .int .i64 sz_] 25
  have hbel3 : Below w.heap.size w (w2.alloc (.cells #[.int .i64 kd_, .int .i64 op_, .string key, .string val, .int .i64 a_, .int .i64 b_, .int .i64 fl_, .int .i64 sz_] 25)) := hbk.alloc hbk.size _
  have hkv3 := hkv.ints.below ((Below.refl w2.heap.size w2).alloc (Nat.le_refl _) (.cells #[.int .i64 kd_, .int .i64 op_, .string key, .string val, .int .i64 a_, .int .i64 b_, .int .i64 fl_, .int .i64 sz_] 25))
  obtain ⟨w3, hw3⟩ : ∃ w3, w2.alloc (.cells #[.int .i64 kd_, .int .i64 op_, .string key, .string val, .int .i64 a_, .int .i64 b_, .int .i64 fl_, .int .i64 sz_] 25) = w3 := ⟨_, rfl⟩
  obtain ⟨X, hX⟩ : ∃ X, w2.heap.size = X := ⟨_, rfl⟩
  rw [hw3] at hnode hbel3 hkv3
  rw [hX] at hnode
  have HS3 := Lib.hid (HSL.out.later hbel3 (Nat.le_refl _))
  have HN3 := Lib.hid hnode
  have HB3 := Lib.hid hbel3
  have HKV := Lib.hid hkv3
  have hkk : kdS l i = kd_ := hkd
  rw [hkk] at hcl
  have k0 : w3.cell? ⟨X, 0, none⟩ = some (.int .i64 kd_) := World.objAt.cell HN3.out (i := 0) rfl
  clear hkv hbk hS2 hc c hkd hop hkey hval ha_ hb_ hfl hsz_ hks HKID hnode hbel3 hkv3 hlt0 hlen0
  have x23 : (kd_ == 23) = false := by simp; omega
  have x22 : (kd_ == 22) = false := by simp; omega
  have x21 : (kd_ == 21) = false := by simp; omega
  have hT' := HSS.out.1.tree
  have hkr : kdS l i = 18 ∨ kdS l i = 19 ∨ kdS l i = 20 := by rw [hkk]; exact hcl
  obtain ⟨p, hp1, _, hpl, hpz⟩ := hT'.rel' hil hkr
  have hks' : kidsS l i = ks := HX.out.2.2.1
  obtain rfl : ks = [p] := hks'.symm.trans hp1
  have htx := T_rel hT' hil hkr hp1
  rw [hkk] at htx
  obtain ⟨f, hf⟩ : ∃ f : Nat, kd_ = (f : Int) + 18 := ⟨(kd_ - 18).toNat, by omega⟩
  have hf3 : f < 3 := by omega
  have hsub : IntKind.i64.wrap (kd_ - 18) = (f : Int) := by
    rw [show kd_ - 18 = (f : Int) by omega]
    unfold IntKind.wrap
    simp [IntKind.bits, IntKind.signed]
    omega
  have HP0 := Lib.hid (fun w' (h' : Sels w' (some ⟨b, off, none⟩) len l) => HIH.out p w' (by omega) (by omega) h')
  have hNl := HSS.out.1.textAt hpl
  obtain ⟨N, hN⟩ : ∃ N, bs (T l p) = N := ⟨_, rfl⟩
  have hNs : N.size ≤ 9000 := by rw [← hN, bs_size]; exact hNl
  have hWs : (relW f).size ≤ 8 := by
    unfold relW
    rw [bs_size]
    rcases (show f = 0 ∨ f = 1 ∨ f = 2 by omega) with rfl | rfl | rfl <;> simp
  have hE : bs (T l i) = ⟨#[58]⟩ ++ relW f ++ ⟨#[40]⟩ ++ N ++ ⟨#[41]⟩ := by
    rw [htx, ← hN]
    show _ = bs [58] ++ relW f ++ bs [40] ++ bs (T l p) ++ bs [41]
    unfold relW
    simp only [bs_append]
    congr 1
    unfold relL
    rw [hf]
    rcases (show f = 0 ∨ f = 1 ∨ f = 2 by omega) with rfl | rfl | rfl <;> simp
  simp only [hN] at HP0
  have HE := Lib.hid hE
  clear hE htx hN hNl hpz hpl hT' hkr hkk hks' hp1 HX
  obtain ⟨ka, kcap, rfl, hk1, hk2, hrow⟩ := id HKV.out
  obtain ⟨g, o, rfl, hcell⟩ := hrow.2.2 (by simp)
  have ck0 : w3.cell? ⟨g, o, none⟩ = some (.int .i64 (p : Int)) := hcell 0 (by simp)
  clear hcell hrow
  simp only [List.length_cons, List.length_nil, Nat.reduceAdd] at hk1 ⊢
  have HHF := Lib.hid hf
  clear hf
  have hx : ((kd_ == 18) = true) ∨ ((kd_ == 18) = false ∧ (kd_ == 19) = true) ∨ ((kd_ == 18) = false ∧ (kd_ == 19) = false ∧ (kd_ == 20) = true) := by
    rcases hcl with h | h | h <;> simp [h]
  clear hcl
  rcases hx with x18 | ⟨x18, x19⟩ | ⟨x18, x19, x20⟩
  all_goals
    go_wp2
    refine wp_plan2 (relG b off len cap g o kcap X p f kd_ N) (fun w1 => Below w3.heap.size w3 w1) (by kernel_rfl) (n := 87) (by kernel_rfl) (by kernel_rfl) relG_mono (Below.refl _ _).drew ?_ ?_
    · intro i o a' w1 hi hS1 hF hD
      have d0 := cell_belowS hS1 k0
      have ck0 := cell_belowS hS1 ck0
      have x0 := hF.rest 0 (no_dst (by kernel_rfl))
      have x5 := hF.rest 5 (no_dst (by kernel_rfl))
      have x6 := hF.rest 6 (no_dst (by kernel_rfl))
      match i, hi with
      | 0, hi =>
        obtain rfl := Option.some.inj hi
        refine plan_value rfl rfl (v := .slice (some ⟨w1.heap.size, 0, none⟩) 3 3) (by go_simp; all_goals first | rfl | exact ⟨rfl, rfl⟩ | exact ⟨rfl, rfl, rfl⟩ | omega) ?h ?hs ?hb
        case h =>
          refine ⟨_, rfl, fun i hi => ?_⟩
          have hn := objAt_alloc_new w1 #[.string (relW 0), .string (relW 1), .string (relW 2)] 9
          rcases (show i = 0 ∨ i = 1 ∨ i = 2 by omega) with rfl | rfl | rfl
          · exact World.objAt.cell hn (i := 0) rfl
          · exact World.objAt.cell hn (i := 1) rfl
          · exact World.objAt.cell hn (i := 2) rfl
        case hs => exact hS1.alloc hS1.size _
        case hb => exact (Below.refl _ _).alloc (Nat.le_refl _) _
      | 1, hi =>
        obtain rfl := Option.some.inj hi
        exact plan_pure rfl rfl hS1 (by go_simp; all_goals first | rfl | exact ⟨rfl, rfl⟩ | exact ⟨rfl, rfl, rfl⟩ | omega) rfl
      | 2, hi =>
        obtain rfl := Option.some.inj hi
        have y68 : a'.tmps.getD 68 undef = _ := hD ⟨1, .data⟩ (by simp) rfl _ _ rfl rfl
        exact plan_pure rfl rfl hS1 (by go_simp; all_goals first | rfl | exact ⟨rfl, rfl⟩ | exact ⟨rfl, rfl, rfl⟩ | omega) rfl
      | 3, hi =>
        obtain rfl := Option.some.inj hi
        have y69 : a'.tmps.getD 69 undef = _ := hD ⟨2, .data⟩ (by simp) rfl _ _ rfl rfl
        exact plan_pure rfl rfl hS1 (by go_simp; all_goals first | rfl | exact ⟨rfl, rfl⟩ | exact ⟨rfl, rfl, rfl⟩ | omega) rfl
      | 4, hi =>
        obtain rfl := Option.some.inj hi
        obtain ⟨gr, y67, hc⟩ : RowAt w1 3 relW (a'.tmps.getD 67 undef) := hD ⟨0, .data⟩ (by simp) rfl _ _ rfl rfl
        have y70 : a'.tmps.getD 70 undef = _ := hD ⟨3, .data⟩ (by simp) rfl _ _ rfl rfl
        exact plan_pure rfl rfl hS1 (by go_simp; all_goals first | rfl | exact ⟨rfl, rfl⟩ | exact ⟨rfl, rfl, rfl⟩ | omega) ⟨_, rfl, hc f hf3⟩
      | 5, hi =>
        obtain rfl := Option.some.inj hi
        obtain ⟨pt, y71, hc⟩ : SpotAt w1 (relW f) (a'.tmps.getD 71 undef) := hD ⟨4, .data⟩ (by simp) rfl _ _ rfl rfl
        exact plan_pure rfl rfl hS1 (by go_simp; all_goals first | rfl | exact ⟨rfl, rfl⟩ | exact ⟨rfl, rfl, rfl⟩ | omega) rfl
      | 6, hi =>
        obtain rfl := Option.some.inj hi
        have y72 : a'.tmps.getD 72 undef = _ := hD ⟨5, .data⟩ (by simp) rfl _ _ rfl rfl
        exact plan_pure rfl rfl hS1 (by go_simp; all_goals first | rfl | exact ⟨rfl, rfl⟩ | exact ⟨rfl, rfl, rfl⟩ | omega) rfl
      | 7, hi =>
        obtain rfl := Option.some.inj hi
        have y73 : a'.tmps.getD 73 undef = _ := hD ⟨6, .data⟩ (by simp) rfl _ _ rfl rfl
        exact plan_pure rfl rfl hS1 (by go_simp; all_goals first | rfl | exact ⟨rfl, rfl⟩ | exact ⟨rfl, rfl, rfl⟩ | omega) rfl
      | 8, hi =>
        obtain rfl := Option.some.inj hi
        exact plan_pure rfl rfl hS1 (by go_simp; all_goals first | rfl | exact ⟨rfl, rfl⟩ | exact ⟨rfl, rfl, rfl⟩ | omega) rfl
      | 9, hi =>
        obtain rfl := Option.some.inj hi
        exact plan_pure rfl rfl hS1 (by go_simp; all_goals first | rfl | exact ⟨rfl, rfl⟩ | exact ⟨rfl, rfl, rfl⟩ | omega) rfl
      | 10, hi =>
        obtain rfl := Option.some.inj hi
        have y76 : a'.tmps.getD 76 undef = _ := hD ⟨9, .data⟩ (by simp) rfl _ _ rfl rfl
        exact plan_pure rfl rfl hS1 (by go_simp; all_goals first | rfl | exact ⟨rfl, rfl⟩ | exact ⟨rfl, rfl, rfl⟩ | omega) rfl
      | 11, hi =>
        obtain rfl := Option.some.inj hi
        have y77 : a'.tmps.getD 77 undef = _ := hD ⟨10, .data⟩ (by simp) rfl _ _ rfl rfl
        exact plan_pure rfl rfl hS1 (by go_simp; all_goals first | rfl | exact ⟨rfl, rfl⟩ | exact ⟨rfl, rfl, rfl⟩ | omega) rfl
      | 12, hi =>
        obtain rfl := Option.some.inj hi
        have y75 : a'.tmps.getD 75 undef = _ := hD ⟨8, .data⟩ (by simp) rfl _ _ rfl rfl
        have y78 : a'.tmps.getD 78 undef = _ := hD ⟨11, .data⟩ (by simp) rfl _ _ rfl rfl
        refine plan_call rfl rfl (by go_simp; all_goals first | rfl | exact ⟨rfl, rfl⟩ | exact ⟨rfl, rfl, rfl⟩ | omega) ((HP0.out _ (HS3.out.below hS1)).mono ?_)
        rintro e w5 ⟨rfl, hb5⟩
        exact ⟨_, rfl, rfl, hS1.trans (hb5.mono hS1.size), hb5⟩
      | 13, hi =>
        obtain rfl := Option.some.inj hi
        have y74 : a'.tmps.getD 74 undef = _ := hD ⟨7, .data⟩ (by simp) rfl _ _ rfl rfl
        have y79 : a'.tmps.getD 79 undef = _ := hD ⟨12, .data⟩ (by simp) rfl _ _ rfl rfl
        exact plan_pure rfl rfl hS1 (by go_simp; all_goals first | rfl | exact ⟨rfl, rfl⟩ | exact ⟨rfl, rfl, rfl⟩ | omega) rfl
      | 14, hi =>
        obtain rfl := Option.some.inj hi
        have y80 : a'.tmps.getD 80 undef = _ := hD ⟨13, .data⟩ (by simp) rfl _ _ rfl rfl
        exact plan_pure rfl rfl hS1 (by go_simp; all_goals first | rfl | exact ⟨rfl, rfl⟩ | exact ⟨rfl, rfl, rfl⟩ | omega) rfl
      | 15, hi =>
        obtain rfl := Option.some.inj hi
        have y81 : a'.tmps.getD 81 undef = _ := hD ⟨14, .data⟩ (by simp) rfl _ _ rfl rfl
        exact plan_pure rfl rfl hS1 (by go_simp; all_goals first | rfl | exact ⟨rfl, rfl⟩ | exact ⟨rfl, rfl, rfl⟩ | omega) rfl
      | n + 16, hi => simp at hi
    · intro a' w1 hS1 hF hD
      have y : a'.tmps.getD 4 undef = _ := hD 15 _ 4 rfl rfl
      have HY := Lib.hid (And.intro y hF.defers)
      clear y hF hD
      go_wp2
      (try simp only [Exit.inBlock, Exit.then])
      refine bodyPost_ret (results_tmp rfl _ _ _) HY.out.2 ?_
      rw [HY.out.1]
      exact ⟨by rw [HE.out], HB3.out.trans (hS1.mono HB3.out.size)⟩
variable {l : List SelD}
set_option maxRecDepth 100000 in
set_option maxHeartbeats 8000000 in
theorem wat_comp (hSS : SmallSel l) (hNP : NoPseudo l) (a : Option Addr) (len cap n : Nat) (ih : ∀ (i : Nat) (w : World), i < len → zs l i ≤ n → Sels w a len l → Calls Tryz.prog 16 #[.slice a len cap, .int .i64 (i : Int)] w (StrPost (bs (T l i)) w)) (i : Nat) (w : World) (hi : i < len) (hn : zs l i ≤ n + 1) (h : Sels w a len l) (hcl : kdS l i = 21) :
    Calls Tryz.prog 16 #[.slice a len cap, .int .i64 (i : Int)] w (StrPost (bs (T l i)) w) := by
  have hT := hSS.tree
  have hl := h.len.1
  have hil : i < l.length := by omega
  have hlen60 : len ≤ 60 := by rw [← hl]; exact hT.small
  obtain ⟨hsz, hfit⟩ := hT.szs hl
  have HSL := Lib.hid h
  have HKID := Lib.hid (fun w' (h' : Sels w' a len l) => selKids_any a len cap l i w' h' hsz hfit hi (by omega))
  have hlt0 := kid_lt hsz hfit hi
  have hlen0 := kid_len hsz hfit hi
  have HIH := Lib.hid ih
  have HSS := Lib.hid (And.intro hSS hNP)
  have hkz : ∀ k ∈ kidsS l i, k < len ∧ zs l k ≤ n := fun k hk => by
    have := hT.kid hil hk
    exact ⟨by omega, by omega⟩
  have HKZ := Lib.hid hkz
  clear ih hkz h hsz hfit
  go_enter Tryz.func16, Tryz.ntmps16
  go_wp2_with fail
  refine (HKID.out w HSL.out).mono ?_
  rintro e w2 ⟨kv, rfl, hkv, hbk⟩
  obtain ⟨ks, hks⟩ : ∃ ks, kids (zs l) i = ks := ⟨_, rfl⟩
  rw [hks] at hkv hlt0 hlen0
  have hS2 := HSL.out.later hbk (Nat.le_refl _)
  obtain ⟨b, off, rfl, hc⟩ := hS2.at (by omega)
  have c := hc i hi
  have c0 := c.kind
  have c1 := c.op
  have c2 := c.key
  have c3 := c.val
  have c4 := c.a
  have c5 := c.b
  have c6 := c.flag
  have c7 := c.size
  have HCE := Lib.hid c
  obtain ⟨kd_, hkd⟩ : ∃ kd_, (l.getD i default).kind = kd_ := ⟨_, rfl⟩
  obtain ⟨op_, hop⟩ : ∃ op_, (l.getD i default).op = op_ := ⟨_, rfl⟩
  obtain ⟨key, hkey⟩ : ∃ key, (l.getD i default).key = key := ⟨_, rfl⟩
  obtain ⟨val, hval⟩ : ∃ val, (l.getD i default).val = val := ⟨_, rfl⟩
  obtain ⟨a_, ha_⟩ : ∃ a_, (l.getD i default).a = a_ := ⟨_, rfl⟩
  obtain ⟨b_, hb_⟩ : ∃ b_, (l.getD i default).b = b_ := ⟨_, rfl⟩
  obtain ⟨fl_, hfl⟩ : ∃ fl_, (l.getD i default).flag = fl_ := ⟨_, rfl⟩
  obtain ⟨sz_, hsz_⟩ : ∃ sz_, (l.getD i default).size = sz_ := ⟨_, rfl⟩
  rw [hkd] at c0
  rw [hop] at c1
  rw [hkey] at c2
  rw [hval] at c3
  rw [ha_] at c4
  rw [hb_] at c5
  rw [hfl] at c6
  rw [hsz_] at c7
  have HEQS := Lib.hid (show (l.getD i default) = ⟨kd_, op_, key, val, a_, b_, fl_, sz_⟩ by rw [← hkd, ← hop, ← hkey, ← hval, ← ha_, ← hb_, ← hfl, ← hsz_])
  have HX := Lib.hid (And.intro hkd (And.intro hop (And.intro hks (And.intro hlt0 hlen0))))
  have hnode := objAt_alloc_new w2 #[.int .i64 kd_, .int .i64 op_, .string key, .string val, .int .i64 a_, .int .i64 b_, .int .i64 fl_, .int .i64 sz_] 25
  have hbel3 : Below w.heap.size w (w2.alloc (.cells #[.int .i64 kd_, .int .i64 op_, .string key, .string val, .int .i64 a_, .int .i64 b_, .int .i64 fl_, .int .i64 sz_] 25)) := hbk.alloc hbk.size _
  have hkv3 := hkv.ints.below ((Below.refl w2.heap.size w2).alloc (Nat.le_refl _) (.cells #[.int .i64 kd_, .int .i64 op_, .string key, .string val, .int .i64 a_, .int .i64 b_, .int .i64 fl_, .int .i64 sz_] 25))
  obtain ⟨w3, hw3⟩ : ∃ w3, w2.alloc (.cells #[.int .i64 kd_, .int .i64 op_, .string key, .string val, .int .i64 a_, .int .i64 b_, .int .i64 fl_, .int .i64 sz_] 25) = w3 := ⟨_, rfl⟩
  obtain ⟨X, hX⟩ : ∃ X, w2.heap.size = X := ⟨_, rfl⟩
  rw [hw3] at hnode hbel3 hkv3
  rw [hX] at hnode
  have HS3 := Lib.hid (HSL.out.later hbel3 (Nat.le_refl _))
  have HN3 := Lib.hid hnode
  have HB3 := Lib.hid hbel3
  have HKV := Lib.hid hkv3
  have hkk : kdS l i = kd_ := hkd
  rw [hkk] at hcl
  have k0 : w3.cell? ⟨X, 0, none⟩ = some (.int .i64 kd_) := World.objAt.cell HN3.out (i := 0) rfl
  clear hkv hbk hS2 hc c hkd hop hkey hval ha_ hb_ hfl hsz_ hks HKID hnode hbel3 hkv3 hlt0 hlen0
  have x23 : (kd_ == 23) = false := by simp; omega
  have x22 : (kd_ == 22) = false := by simp; omega
  have x21 : (kd_ == 21) = true := by simp; omega
  have hT' := HSS.out.1.tree
  have HC := Lib.hid (writtenCmp_any HSS.out.1.tree HSS.out.2 _ len cap i w3 HS3.out hi (by rw [hkk]; exact hcl) (fun k hk => HSS.out.1.textAt (by have := HKZ.out k hk; omega)) (fun k hk w' h' => HIH.out k w' (HKZ.out k hk).1 (HKZ.out k hk).2 h'))
  clear hT' hkk hcl
  go_wp2_with fail
  refine HC.out.mono ?_
  rintro e w5 ⟨rfl, hb5⟩
  have HB5 := Lib.hid (HB3.out.trans (hb5.mono HB3.out.size))
  clear hb5 HC
  go_wp2
  go_ret
  exact ⟨rfl, HB5.out⟩
variable {l : List SelD}
theorem writtenAt_any (hSS : SmallSel l) (hNP : NoPseudo l) (a : Option Addr) (len cap : Nat) : ∀ (n i : Nat) (w : World), i < len → zs l i ≤ n → Sels w a len l →
    Calls Tryz.prog 16 #[.slice a len cap, .int .i64 (i : Int)] w (StrPost (bs (T l i)) w)
  | 0, i, w, hi, hn, h => by
    have := hSS.tree.nest.pos i (by rw [h.len.1]; exact hi)
    omega
  | n + 1, i, w, hi, hn, h => by
    have ih := writtenAt_any hSS hNP a len cap n
    have hr := (hSS.tree.shape i (by rw [h.len.1]; exact hi)).range
    by_cases h17 : kdS l i ≤ 17
    · exact wat_sim hSS hNP a len cap n ih i w hi hn h h17
    · by_cases h23 : kdS l i = 23
      · exact wat_group hSS hNP a len cap n ih i w hi hn h h23
      · by_cases h22 : kdS l i = 22
        · exact wat_comb hSS hNP a len cap n ih i w hi hn h h22
        · by_cases h21 : kdS l i = 21
          · exact wat_comp hSS hNP a len cap n ih i w hi hn h h21
          · exact wat_rel hSS hNP a len cap n ih i w hi hn h (by omega)
theorem writtenS_any (hSS : SmallSel l) (hNP : NoPseudo l) (a : Option Addr) (len cap : Nat) (w : World) (h : Sels w a len l) :
    Calls Tryz.prog 9 #[.slice a len cap] w (StrPost (bs (T l 0)) w) := by
  have hpos := hSS.tree.pos
  have hl := h.len.1
  exact written_any a len cap w _ (by omega) (writtenAt_any hSS hNP a len cap (zs l 0) 0 w (by omega) (Nat.le_refl _) h)
set_option maxRecDepth 100000 in
theorem tri_eql (w : World) (t0 t1 t2 : Nat) : (Op.equalIn 10000 28 (.agg #[.int .i64 (t0 : Int), .int .i64 (t1 : Int), .int .i64 (t2 : Int)]) (.agg #[.int .i64 (t0 : Int), .int .i64 (t1 : Int), .int .i64 (t2 : Int)])).run Tryz.prog w = .ok true w := by
  obtain ⟨i0, hi, hz0, hz1, hz2⟩ := info_parts Tryz.infoInt
  have hce : Tryz.prog.cellsOf 3 = 1 := by kernel_rfl
  have heq : ∀ (d : Nat) (n : Int), (Op.equalIn (d + 1) 3 (.int .i64 n) (.int .i64 n)).run Tryz.prog w = .ok true w := fun d n => by
    simp [Op.equalIn, run_underlying Tryz.underlying3]
  have hun : Tryz.prog.underlying 28 = some (.array 3 3) := by kernel_rfl
  have hpart : ∀ (k : Nat) (v : Value) (cs : Array Value), cs[k]? = some v → (part 3 cs k).run Tryz.prog w = .ok v w := fun k v cs h => by
    simp [part, isAgg, run_underlying Tryz.underlying3, h]
  have hall : ∀ d : Nat, (Op.equalIn (d + 2) 28 (.agg #[.int .i64 (t0 : Int), .int .i64 (t1 : Int), .int .i64 (t2 : Int)]) (.agg #[.int .i64 (t0 : Int), .int .i64 (t1 : Int), .int .i64 (t2 : Int)])).run Tryz.prog w = .ok true w := fun d => by
    rw [run_equalIn_array (P := Tryz.prog) (w := w) (d + 1) _ _ hun hi, hce, show List.range 3 = [0, 1, 2] from rfl]
    have p0 := hpart 0 (.int .i64 (t0 : Int)) #[.int .i64 (t0 : Int), .int .i64 (t1 : Int), .int .i64 (t2 : Int)] rfl
    have p1 := hpart 1 (.int .i64 (t1 : Int)) #[.int .i64 (t0 : Int), .int .i64 (t1 : Int), .int .i64 (t2 : Int)] rfl
    have p2 := hpart 2 (.int .i64 (t2 : Int)) #[.int .i64 (t0 : Int), .int .i64 (t1 : Int), .int .i64 (t2 : Int)] rfl
    simp [Op.eqItems, p0, p1, p2, heq]
  exact hall 9998
namespace lawFnSpecific
/-- The law says yes, and what was there is as it was. -/
def YesS (w : World) (e : Ending) (w' : World) : Prop := e = .returned (.bool true) ∧ Below w.heap.size w w'
set_option maxRecDepth 100000 in
set_option maxHeartbeats 8000000 in
theorem walk {W : World} (a : Option Addr) (len cap : Nat) (l : List SelD) (h : Sels W a len l ∧ len ≤ cap ∧ cap ≤ maxLen) :
    Calls Tryz.prog 3 #[.slice a len cap] W (YesS W) := by
  have HN := Lib.hid h.1
  have HC := Lib.hid h.2
  have hm := h.1.len.2
  have hl := h.1.len.1
  clear h
  go_enter Tryz.func3, Tryz.ntmps3
  go_wp2_with fail
  refine (fits5S_any a len cap l W HN.out).mono ?_
  rintro e w1 ⟨b1, hb1, rfl, hbel1⟩
  have HB1 := Lib.hid hbel1.out
  clear hbel1
  cases b1
  · clear hb1
    go_wp2
    go_ret
    exact ⟨rfl, HB1.out⟩
  have HF := Lib.hid (hb1 rfl)
  clear hb1
  go_wp2_with fail
  refine (written9_any a len cap l w1 (HN.out.below HB1.out) HC.out.1 HC.out.2 HF.out).mono ?_
  rintro e w2 ⟨b2, hb2, rfl, hbel2⟩
  have HB2 := Lib.hid (HB1.out.trans (hbel2.out.mono HB1.out.size))
  clear hbel2 HB1
  cases b2
  · clear hb2
    go_wp2
    go_ret
    exact ⟨rfl, HB2.out⟩
  have HSS := Lib.hid (hb2 rfl)
  clear hb2
  go_wp2_with fail
  refine (HasPseudo_any a len cap l w2 (HN.out.below HB2.out)).mono ?_
  rintro e w3 ⟨b3, hb3, rfl, rfl⟩
  cases b3
  case true =>
    clear hb3
    go_wp2
    go_ret
    exact ⟨rfl, HB2.out⟩
  have HNP := Lib.hid (show NoPseudo l from fun i hi h21 => hb3 rfl i (by omega) h21)
  clear hb3
  have hpos := HSS.out.tree.pos
  have hl0 : 0 < len := by omega
  have HS2 := Lib.hid (HN.out.below HB2.out)
  obtain ⟨b, off, rfl, hc⟩ := HS2.out.at hl0
  have c0 := (hc 0 hl0).kind
  obtain ⟨kd_, hkd⟩ : ∃ kd_, (l.getD 0 default).kind = kd_ := ⟨_, rfl⟩
  rw [hkd] at c0
  have HKD := Lib.hid (show kdS l 0 = kd_ from hkd)
  clear hc hkd
  simp only [Nat.zero_mul, Nat.add_zero] at c0
  obtain ⟨t, ht⟩ : ∃ t, S l 0 = t := ⟨_, rfl⟩
  have HSC := Lib.hid (fun w' (h' : Sels w' (some ⟨b, off, none⟩) len l) => specificityS_any HSS.out.tree HNP.out (some ⟨b, off, none⟩) len cap w' h')
  have HWR := Lib.hid (fun w' (h' : Sels w' (some ⟨b, off, none⟩) len l) => writtenS_any HSS.out HNP.out (some ⟨b, off, none⟩) len cap w' h')
  have HSP := Lib.hid (fun w' (h1 : kdS l 0 = 23 → (kidsS l 0).length = 1) => specific_calls HSS.out.tree (s := bs (T l 0)) rfl HSS.out.text HSS.out.val h1 w')
  rw [ht] at HSC HSP
  obtain ⟨X, hX⟩ : ∃ X, bs (T l 0) = X := ⟨_, rfl⟩
  rw [hX] at HSP HWR
  obtain ⟨t0, t1, t2⟩ := t
  clear ht hX
  by_cases h23 : kd_ = 23
  · have x23 : (kd_ == 23) = true := by simp [h23]
    have H23 := Lib.hid h23
    clear h23
    have hT := HSS.out.tree
    obtain ⟨hsz, hfit⟩ := hT.szs hl
    have HK := Lib.hid (selKids_any (some ⟨b, off, none⟩) len cap l 0 w2 HS2.out hsz hfit hl0 (by have := hT.small; omega))
    clear hT hsz hfit
    go_wp2_with fail
    refine HK.out.mono ?_
    rintro e w4 ⟨kv, rfl, hkv, hbk⟩
    have HB4 := Lib.hid (HB2.out.trans (hbk.mono HB2.out.size))
    obtain ⟨ks, hks⟩ : ∃ ks, kids (zs l) 0 = ks := ⟨_, rfl⟩
    rw [hks] at hkv
    obtain ⟨ka, kcap, rfl, _, _, _⟩ := hkv.ints
    have HKS := Lib.hid (show kidsS l 0 = ks from hks)
    clear hkv hbk hks HK
    by_cases h1 : ks.length = 1
    · have y1 : ((ks.length : Int) != 1) = false := by simp; omega
      have H1 := Lib.hid (show kdS l 0 = 23 → (kidsS l 0).length = 1 from fun _ => by rw [HKS.out]; exact h1)
      clear h1
      go_wp2_with fail
      have HS4 := Lib.hid (HN.out.below HB4.out)
      refine (HWR.out w4 HS4.out).mono ?_
      rintro e w5 ⟨rfl, hb5⟩
      have HB5 := Lib.hid (HB4.out.trans (hb5.mono HB4.out.size))
      clear hb5
      go_wp2_with fail
      refine (HSP.out w5 H1.out).mono ?_
      rintro e w6 ⟨rfl, hb6⟩
      have HB6 := Lib.hid (HB5.out.trans (hb6.out.mono HB5.out.size))
      unfold triV
      clear hb6 HSP HWR
      have hobj := objAt_alloc_new w6 #[.int .i64 (t0 : Int), .int .i64 (t1 : Int), .int .i64 (t2 : Int)] 28
      have hb7 : Below W.heap.size W (w6.alloc (.cells #[.int .i64 (t0 : Int), .int .i64 (t1 : Int), .int .i64 (t2 : Int)] 28)) := HB6.out.alloc HB6.out.size _
      obtain ⟨w7, hw7⟩ : ∃ w7, w6.alloc (.cells #[.int .i64 (t0 : Int), .int .i64 (t1 : Int), .int .i64 (t2 : Int)] 28) = w7 := ⟨_, rfl⟩
      obtain ⟨G, hG⟩ : ∃ G, w6.heap.size = G := ⟨_, rfl⟩
      rw [hw7] at hobj hb7
      rw [hG] at hobj
      have g0 : w7.cell? ⟨G, 0, none⟩ = some (.int .i64 (t0 : Int)) := World.objAt.cell hobj (i := 0) rfl
      have g1 : w7.cell? ⟨G, 1, none⟩ = some (.int .i64 (t1 : Int)) := World.objAt.cell hobj (i := 1) rfl
      have g2 : w7.cell? ⟨G, 2, none⟩ = some (.int .i64 (t2 : Int)) := World.objAt.cell hobj (i := 2) rfl
      have HB7 := Lib.hid hb7
      have HS7 := Lib.hid (HN.out.below hb7)
      have HG := Lib.hid hG
      have HQ := fun w' => tri_eql w' t0 t1 t2
      clear hobj hb7
      go_wp2
      clear hG hw7
      go_region_held3 (fun w' => Below W.heap.size W w' ∧ w'.cell? ⟨G, 0, none⟩ = some (.int .i64 (t0 : Int)) ∧ w'.cell? ⟨G, 1, none⟩ = some (.int .i64 (t1 : Int)) ∧ w'.cell? ⟨G, 2, none⟩ = some (.int .i64 (t2 : Int)))
        (first
          | exact ⟨HB7.out.drew, g0, g1, g2⟩
          | exact ⟨hb8, s0, s1, s2⟩)
        (first
          | (go_at_call 10
             refine (HSC.out _ (HS7.out.below (Below.refl _ _).drew)).mono ?_
             rintro e w8 ⟨rfl, hbx⟩
             unfold triS
             have hb8 : Below W.heap.size W w8 := HB7.out.drew.trans (hbx.out.mono HB7.out.drew.size)
             have s0 := cell_belowS hbx.out (show w7.drew.cell? _ = _ from g0)
             have s1 := cell_belowS hbx.out (show w7.drew.cell? _ = _ from g1)
             have s2 := cell_belowS hbx.out (show w7.drew.cell? _ = _ from g2)
             clear hbx))
      go_wp2
      go_ret
      exact ⟨rfl, hb8⟩
    · have y1 : ((ks.length : Int) != 1) = true := by simp; omega
      clear h1
      go_wp2
      go_ret
      exact ⟨rfl, HB4.out⟩
  · have x23 : (kd_ == 23) = false := by simp [h23]
    have H1 := Lib.hid (show kdS l 0 = 23 → (kidsS l 0).length = 1 from fun e => absurd (HKD.out.symm.trans e) h23)
    clear h23
    obtain ⟨w4, rfl⟩ : ∃ w4, w4 = w2 := ⟨w2, rfl⟩
    have HB4 := HB2
    go_wp2_with fail
    have HS4 := Lib.hid (HN.out.below HB4.out)
    refine (HWR.out w4 HS4.out).mono ?_
    rintro e w5 ⟨rfl, hb5⟩
    have HB5 := Lib.hid (HB4.out.trans (hb5.mono HB4.out.size))
    clear hb5
    go_wp2_with fail
    refine (HSP.out w5 H1.out).mono ?_
    rintro e w6 ⟨rfl, hb6⟩
    have HB6 := Lib.hid (HB5.out.trans (hb6.out.mono HB5.out.size))
    unfold triV
    clear hb6 HSP HWR
    have hobj := objAt_alloc_new w6 #[.int .i64 (t0 : Int), .int .i64 (t1 : Int), .int .i64 (t2 : Int)] 28
    have hb7 : Below W.heap.size W (w6.alloc (.cells #[.int .i64 (t0 : Int), .int .i64 (t1 : Int), .int .i64 (t2 : Int)] 28)) := HB6.out.alloc HB6.out.size _
    obtain ⟨w7, hw7⟩ : ∃ w7, w6.alloc (.cells #[.int .i64 (t0 : Int), .int .i64 (t1 : Int), .int .i64 (t2 : Int)] 28) = w7 := ⟨_, rfl⟩
    obtain ⟨G, hG⟩ : ∃ G, w6.heap.size = G := ⟨_, rfl⟩
    rw [hw7] at hobj hb7
    rw [hG] at hobj
    have g0 : w7.cell? ⟨G, 0, none⟩ = some (.int .i64 (t0 : Int)) := World.objAt.cell hobj (i := 0) rfl
    have g1 : w7.cell? ⟨G, 1, none⟩ = some (.int .i64 (t1 : Int)) := World.objAt.cell hobj (i := 1) rfl
    have g2 : w7.cell? ⟨G, 2, none⟩ = some (.int .i64 (t2 : Int)) := World.objAt.cell hobj (i := 2) rfl
    have HB7 := Lib.hid hb7
    have HS7 := Lib.hid (HN.out.below hb7)
    have HG := Lib.hid hG
    have HQ := fun w' => tri_eql w' t0 t1 t2
    clear hobj hb7
    go_wp2
    clear hG hw7
    go_region_held3 (fun w' => Below W.heap.size W w' ∧ w'.cell? ⟨G, 0, none⟩ = some (.int .i64 (t0 : Int)) ∧ w'.cell? ⟨G, 1, none⟩ = some (.int .i64 (t1 : Int)) ∧ w'.cell? ⟨G, 2, none⟩ = some (.int .i64 (t2 : Int)))
      (first
        | exact ⟨HB7.out.drew, g0, g1, g2⟩
        | exact ⟨hb8, s0, s1, s2⟩)
      (first
        | (go_at_call 10
           refine (HSC.out _ (HS7.out.below (Below.refl _ _).drew)).mono ?_
           rintro e w8 ⟨rfl, hbx⟩
           unfold triS
           have hb8 : Below W.heap.size W w8 := HB7.out.drew.trans (hbx.out.mono HB7.out.drew.size)
           have s0 := cell_belowS hbx.out (show w7.drew.cell? _ = _ from g0)
           have s1 := cell_belowS hbx.out (show w7.drew.cell? _ = _ from g1)
           have s2 := cell_belowS hbx.out (show w7.drew.cell? _ = _ from g2)
           clear hbx))
    go_wp2
    go_ret
    exact ⟨rfl, hb8⟩
end lawFnSpecific
end Go.Proofs.YtoanofdomhnafaaGreatDoor
