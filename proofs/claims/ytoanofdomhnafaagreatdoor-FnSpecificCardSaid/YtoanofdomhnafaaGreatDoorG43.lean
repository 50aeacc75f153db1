/- Parts of a proof: WriteAttr, WriteSim. -/
import Derived.Test.YtoanofdomhnafaaGreatDoorG42
import Derived.Test.YtoanofdomhnafaaGreatDoorG19
import Derived.Test.YtoanofdomhnafaaGreatDoorG03
set_option linter.unusedVariables false
set_option linter.unusedSimpArgs false
namespace Go.Proofs.YtoanofdomhnafaaGreatDoor
open Go.RowKit
set_option maxRecDepth 100000 in
set_option maxHeartbeats 8000000 in
theorem signsOf_any (op : Int) (h : 2 ≤ op ∧ op ≤ 8) (w : World) : Calls Tryz.prog 35 #[.int .i64 op] w (StrPost (bs (opL op)) w) := by
  have hb : ∀ o, Below w.heap.size w (w.alloc o) := fun o => (Below.refl _ _).alloc (Nat.le_refl _) o
  rcases (show op = 2 ∨ op = 3 ∨ op = 4 ∨ op = 5 ∨ op = 6 ∨ op = 7 ∨ op = 8 by omega) with rfl | rfl | rfl | rfl | rfl | rfl | rfl
  all_goals
    go_enter Tryz.func35, Tryz.ntmps35
    go_wp2
    go_ret
    exact ⟨rfl, hb _⟩
theorem opL_len (op : Int) : (opL op).length ≤ 2 := by
  unfold opL
  repeat' split
  all_goals simp
def flW (i : Nat) : ByteArray := bs ([[], [32, 105]].getD i [])
def attrG (S f : Nat) (op : Int) (key val N O Q : ByteArray) (i : Nat) (v : Value) (w : World) : Prop :=
  match i with
  | 0 => v = .pointer (some ⟨S, 2, none⟩)
  | 1 => v = .string key
  | 2 => v = .string N
  | 3 => v = .string (⟨#[91]⟩ ++ N)
  | 4 => v = .pointer (some ⟨S, 1, none⟩)
  | 5 => v = .int .i64 op
  | 6 => v = .string O
  | 7 => v = .string (⟨#[91]⟩ ++ N ++ O)
  | 8 => v = .pointer (some ⟨S, 3, none⟩)
  | 9 => v = .string val
  | 10 => v = .string Q
  | 11 => v = .string (⟨#[91]⟩ ++ N ++ O ++ Q)
  | 12 => RowAt w 2 flW v
  | 13 => v = .pointer (some ⟨S, 6, none⟩)
  | 14 => v = .int .i64 (f : Int)
  | 15 => SpotAt w (flW f) v
  | 16 => v = .string (flW f)
  | 17 => v = .string (⟨#[91]⟩ ++ N ++ O ++ Q ++ flW f)
  | 18 => v = .string (⟨#[91]⟩ ++ N ++ O ++ Q ++ flW f ++ ⟨#[93]⟩)
  | 19 => v = .string (⟨#[91]⟩ ++ N ++ O ++ Q ++ flW f ++ ⟨#[93]⟩)
  | _ => True
theorem attrG_mono {S f : Nat} {op : Int} {key val N O Q : ByteArray} (i : Nat) (v : Value) (w w' : World) (h : attrG S f op key val N O Q i v w) (hb : Below w.heap.size w w') : attrG S f op key val N O Q i v w' := by
  unfold attrG at h ⊢
  split at h
  all_goals first
    | exact h.below hb
    | exact h
set_option maxRecDepth 100000 in
set_option maxHeartbeats 8000000 in
theorem ws_attr (op : Int) (key val : ByteArray) (a b : Int) (f : Nat) (sz : Int) (w : World) (hop : 2 ≤ op ∧ op ≤ 8) (hf : f < 2) (hk : key.size ≤ 1000) (hkz : ∀ i, i < key.size → nx key i ≠ 0) (hv : val.size ≤ 1000) (hvz : ∀ i, i < val.size → nx val i ≠ 0) :
    Calls Tryz.prog 25 #[.agg #[.int .i64 5, .int .i64 op, .string key, .string val, .int .i64 a, .int .i64 b, .int .i64 (f : Int), .int .i64 sz]] w (StrPost (bs (91 :: (namedF key ++ (opL op ++ (quoL val ++ ((if (f : Int) = 1 then [32, 105] else []) ++ [93])))))) w) := by
  have h0 := objAt_alloc_new w #[.int .i64 5, .int .i64 op, .string key, .string val, .int .i64 a, .int .i64 b, .int .i64 (f : Int), .int .i64 sz] 25
  have hb0 : Below w.heap.size w (w.alloc (.cells #[.int .i64 5, .int .i64 op, .string key, .string val, .int .i64 a, .int .i64 b, .int .i64 (f : Int), .int .i64 sz] 25)) := (Below.refl _ _).alloc (Nat.le_refl _) _
  obtain ⟨w0, hw0⟩ : ∃ w0, w.alloc (.cells #[.int .i64 5, .int .i64 op, .string key, .string val, .int .i64 a, .int .i64 b, .int .i64 (f : Int), .int .i64 sz] 25) = w0 := ⟨_, rfl⟩
  obtain ⟨S, hS⟩ : ∃ S, w.heap.size = S := ⟨_, rfl⟩
  rw [hw0] at h0 hb0
  rw [hS] at h0
  have H0 := Lib.hid h0
  have HB0 := Lib.hid hb0
  clear h0 hb0
  have HN := Lib.hid (fun w' => named_any key w' hk hkz)
  have HO := Lib.hid (fun w' => signsOf_any op hop w')
  have HQ := Lib.hid (fun w' => quoted_any val w' hv hvz)
  obtain ⟨N, hN⟩ : ∃ N, bs (namedF key) = N := ⟨_, rfl⟩
  have hNs : N.size ≤ 5000 := by rw [← hN, bs_size]; have := namedF_len key; omega
  obtain ⟨O, hO⟩ : ∃ O, bs (opL op) = O := ⟨_, rfl⟩
  have hOs : O.size ≤ 2 := by rw [← hO, bs_size]; exact opL_len op
  obtain ⟨Q, hQ⟩ : ∃ Q, bs (quoL val) = Q := ⟨_, rfl⟩
  have hQs : Q.size ≤ 5000 := by rw [← hQ, bs_size]; have := (show (quoL val).length ≤ 2 + 4 * val.size by have := qg_len val val.size; simp [quoL]; omega); omega
  have HE := Lib.hid (show bs (91 :: (namedF key ++ (opL op ++ (quoL val ++ ((if (f : Int) = 1 then [32, 105] else []) ++ [93]))))) = ⟨#[91]⟩ ++ N ++ O ++ Q ++ flW f ++ ⟨#[93]⟩ by
    rw [← hN, ← hO, ← hQ]
    show _ = bs [91] ++ bs (namedF key) ++ bs (opL op) ++ bs (quoL val) ++ flW f ++ bs [93]
    unfold flW
    simp only [bs_append]
    congr 1
    rcases (show f = 0 ∨ f = 1 by omega) with rfl | rfl <;> simp)
  simp only [hN] at HN
  simp only [hO] at HO
  simp only [hQ] at HQ
  have hWs : (flW f).size ≤ 2 := by
    unfold flW
    rw [bs_size]
    rcases (show f = 0 ∨ f = 1 by omega) with rfl | rfl <;> simp
  have g1 : (op == 1) = false := by simp; omega
  clear hN hO hQ hk hkz hv hvz
  have c0 : w0.cell? ⟨S, 0, none⟩ = some (.int .i64 5) := World.objAt.cell H0.out (i := 0) rfl
  have c1 : w0.cell? ⟨S, 1, none⟩ = some (.int .i64 op) := World.objAt.cell H0.out (i := 1) rfl
  have c2 : w0.cell? ⟨S, 2, none⟩ = some (.string key) := World.objAt.cell H0.out (i := 2) rfl
  have c3 : w0.cell? ⟨S, 3, none⟩ = some (.string val) := World.objAt.cell H0.out (i := 3) rfl
  have c6 : w0.cell? ⟨S, 6, none⟩ = some (.int .i64 (f : Int)) := World.objAt.cell H0.out (i := 6) rfl
  rw [HE.out]
  clear HE
  go_enter Tryz.func25, Tryz.ntmps25
  go_wp2
  refine wp_plan2 (attrG S f op key val N O Q) (fun w1 => Below w0.heap.size w0 w1) (by kernel_rfl) (n := 105) (by kernel_rfl) (by kernel_rfl) attrG_mono (Below.refl _ _).drew ?step ?done
  case step =>
    intro i o a' w1 hi hS1 hF hD
    have d1 := cell_belowS hS1 c1
    have d2 := cell_belowS hS1 c2
    have d3 := cell_belowS hS1 c3
    have d6 := cell_belowS hS1 c6
    have x1 := hF.rest 1 (no_dst (by kernel_rfl))
    match i, hi with
    | 0, hi =>
      obtain rfl := Option.some.inj hi
      exact plan_pure rfl rfl hS1 (by go_simp; all_goals first | rfl | exact ⟨rfl, rfl⟩ | exact ⟨rfl, rfl, rfl⟩ | omega) rfl
    | 1, hi =>
      obtain rfl := Option.some.inj hi
      have y34 : a'.tmps.getD 34 undef = _ := hD ⟨0, .data⟩ (by simp) rfl _ _ rfl rfl
      exact plan_pure rfl rfl hS1 (by go_simp; all_goals first | rfl | exact ⟨rfl, rfl⟩ | exact ⟨rfl, rfl, rfl⟩ | omega) rfl
    | 2, hi =>
      obtain rfl := Option.some.inj hi
      have y35 : a'.tmps.getD 35 undef = _ := hD ⟨1, .data⟩ (by simp) rfl _ _ rfl rfl
      refine plan_call rfl rfl (by go_simp; all_goals first | rfl | exact ⟨rfl, rfl⟩ | exact ⟨rfl, rfl, rfl⟩ | omega) ((HN.out _).mono ?_)
      rintro e w5 ⟨rfl, hb5⟩
      exact ⟨_, rfl, rfl, hS1.trans (hb5.mono hS1.size), hb5⟩
    | 3, hi =>
      obtain rfl := Option.some.inj hi
      have y36 : a'.tmps.getD 36 undef = _ := hD ⟨2, .data⟩ (by simp) rfl _ _ rfl rfl
      exact plan_pure rfl rfl hS1 (by go_simp; all_goals first | rfl | exact ⟨rfl, rfl⟩ | exact ⟨rfl, rfl, rfl⟩ | omega) rfl
    | 4, hi =>
      obtain rfl := Option.some.inj hi
      exact plan_pure rfl rfl hS1 (by go_simp; all_goals first | rfl | exact ⟨rfl, rfl⟩ | exact ⟨rfl, rfl, rfl⟩ | omega) rfl
    | 5, hi =>
      obtain rfl := Option.some.inj hi
      have y38 : a'.tmps.getD 38 undef = _ := hD ⟨4, .data⟩ (by simp) rfl _ _ rfl rfl
      exact plan_pure rfl rfl hS1 (by go_simp; all_goals first | rfl | exact ⟨rfl, rfl⟩ | exact ⟨rfl, rfl, rfl⟩ | omega) rfl
    | 6, hi =>
      obtain rfl := Option.some.inj hi
      have y39 : a'.tmps.getD 39 undef = _ := hD ⟨5, .data⟩ (by simp) rfl _ _ rfl rfl
      refine plan_call rfl rfl (by go_simp; all_goals first | rfl | exact ⟨rfl, rfl⟩ | exact ⟨rfl, rfl, rfl⟩ | omega) ((HO.out _).mono ?_)
      rintro e w5 ⟨rfl, hb5⟩
      exact ⟨_, rfl, rfl, hS1.trans (hb5.mono hS1.size), hb5⟩
    | 7, hi =>
      obtain rfl := Option.some.inj hi
      have y37 : a'.tmps.getD 37 undef = _ := hD ⟨3, .data⟩ (by simp) rfl _ _ rfl rfl
      have y40 : a'.tmps.getD 40 undef = _ := hD ⟨6, .data⟩ (by simp) rfl _ _ rfl rfl
      exact plan_pure rfl rfl hS1 (by go_simp; all_goals first | rfl | exact ⟨rfl, rfl⟩ | exact ⟨rfl, rfl, rfl⟩ | omega) rfl
    | 8, hi =>
      obtain rfl := Option.some.inj hi
      exact plan_pure rfl rfl hS1 (by go_simp; all_goals first | rfl | exact ⟨rfl, rfl⟩ | exact ⟨rfl, rfl, rfl⟩ | omega) rfl
    | 9, hi =>
      obtain rfl := Option.some.inj hi
      have y42 : a'.tmps.getD 42 undef = _ := hD ⟨8, .data⟩ (by simp) rfl _ _ rfl rfl
      exact plan_pure rfl rfl hS1 (by go_simp; all_goals first | rfl | exact ⟨rfl, rfl⟩ | exact ⟨rfl, rfl, rfl⟩ | omega) rfl
    | 10, hi =>
      obtain rfl := Option.some.inj hi
      have y43 : a'.tmps.getD 43 undef = _ := hD ⟨9, .data⟩ (by simp) rfl _ _ rfl rfl
      refine plan_call rfl rfl (by go_simp; all_goals first | rfl | exact ⟨rfl, rfl⟩ | exact ⟨rfl, rfl, rfl⟩ | omega) ((HQ.out _).mono ?_)
      rintro e w5 ⟨rfl, hb5⟩
      exact ⟨_, rfl, rfl, hS1.trans (hb5.mono hS1.size), hb5⟩
    | 11, hi =>
      obtain rfl := Option.some.inj hi
      have y41 : a'.tmps.getD 41 undef = _ := hD ⟨7, .data⟩ (by simp) rfl _ _ rfl rfl
      have y44 : a'.tmps.getD 44 undef = _ := hD ⟨10, .data⟩ (by simp) rfl _ _ rfl rfl
      exact plan_pure rfl rfl hS1 (by go_simp; all_goals first | rfl | exact ⟨rfl, rfl⟩ | exact ⟨rfl, rfl, rfl⟩ | omega) rfl
    | 12, hi =>
      obtain rfl := Option.some.inj hi
      refine plan_value rfl rfl (v := .slice (some ⟨w1.heap.size, 0, none⟩) 2 2) (by go_simp; all_goals first | rfl | exact ⟨rfl, rfl⟩ | exact ⟨rfl, rfl, rfl⟩ | omega) ?h ?hs ?hb
      case h =>
        refine ⟨_, rfl, fun i hi => ?_⟩
        have hn := objAt_alloc_new w1 #[.string (flW 0), .string (flW 1)] 9
        rcases (show i = 0 ∨ i = 1 by omega) with rfl | rfl
        · exact World.objAt.cell hn (i := 0) rfl
        · exact World.objAt.cell hn (i := 1) rfl
      case hs => exact hS1.alloc hS1.size _
      case hb => exact (Below.refl _ _).alloc (Nat.le_refl _) _
    | 13, hi =>
      obtain rfl := Option.some.inj hi
      exact plan_pure rfl rfl hS1 (by go_simp; all_goals first | rfl | exact ⟨rfl, rfl⟩ | exact ⟨rfl, rfl, rfl⟩ | omega) rfl
    | 14, hi =>
      obtain rfl := Option.some.inj hi
      have y47 : a'.tmps.getD 47 undef = _ := hD ⟨13, .data⟩ (by simp) rfl _ _ rfl rfl
      exact plan_pure rfl rfl hS1 (by go_simp; all_goals first | rfl | exact ⟨rfl, rfl⟩ | exact ⟨rfl, rfl, rfl⟩ | omega) rfl
    | 15, hi =>
      obtain rfl := Option.some.inj hi
      obtain ⟨g, y46, hc⟩ : RowAt w1 2 flW (a'.tmps.getD 46 undef) := hD ⟨12, .data⟩ (by simp) rfl _ _ rfl rfl
      have y48 : a'.tmps.getD 48 undef = _ := hD ⟨14, .data⟩ (by simp) rfl _ _ rfl rfl
      exact plan_pure rfl rfl hS1 (by go_simp; all_goals first | rfl | exact ⟨rfl, rfl⟩ | exact ⟨rfl, rfl, rfl⟩ | omega) ⟨_, rfl, hc f hf⟩
    | 16, hi =>
      obtain rfl := Option.some.inj hi
      obtain ⟨p, y49, hc⟩ : SpotAt w1 (flW f) (a'.tmps.getD 49 undef) := hD ⟨15, .data⟩ (by simp) rfl _ _ rfl rfl
      exact plan_pure rfl rfl hS1 (by go_simp; all_goals first | rfl | exact ⟨rfl, rfl⟩ | exact ⟨rfl, rfl, rfl⟩ | omega) rfl
    | 17, hi =>
      obtain rfl := Option.some.inj hi
      have y45 : a'.tmps.getD 45 undef = _ := hD ⟨11, .data⟩ (by simp) rfl _ _ rfl rfl
      have y50 : a'.tmps.getD 50 undef = _ := hD ⟨16, .data⟩ (by simp) rfl _ _ rfl rfl
      exact plan_pure rfl rfl hS1 (by go_simp; all_goals first | rfl | exact ⟨rfl, rfl⟩ | exact ⟨rfl, rfl, rfl⟩ | omega) rfl
    | 18, hi =>
      obtain rfl := Option.some.inj hi
      have y51 : a'.tmps.getD 51 undef = _ := hD ⟨17, .data⟩ (by simp) rfl _ _ rfl rfl
      exact plan_pure rfl rfl hS1 (by go_simp; all_goals first | rfl | exact ⟨rfl, rfl⟩ | exact ⟨rfl, rfl, rfl⟩ | omega) rfl
    | 19, hi =>
      obtain rfl := Option.some.inj hi
      have y52 : a'.tmps.getD 52 undef = _ := hD ⟨18, .data⟩ (by simp) rfl _ _ rfl rfl
      exact plan_pure rfl rfl hS1 (by go_simp; all_goals first | rfl | exact ⟨rfl, rfl⟩ | exact ⟨rfl, rfl, rfl⟩ | omega) rfl
    | n + 20, hi => simp at hi
  case done =>
    intro a' w1 hS1 hF hD
    have y : a'.tmps.getD 2 undef = _ := hD 19 _ 2 rfl rfl
    have HY := Lib.hid (And.intro y hF.defers)
    clear y hF hD
    go_wp2
    (try simp only [Exit.inBlock, Exit.then])
    refine bodyPost_ret (results_tmp rfl _ _ _) HY.out.2 ?_
    rw [HY.out.1]
    exact ⟨rfl, HB0.out.trans (hS1.mono HB0.out.size)⟩
theorem writtenSim_any (x : SelD) (hx : FieldsOk x) (hk : 1 ≤ x.kind ∧ x.kind ≤ 17) (hks : x.key.size ≤ 1000) (hvs : x.val.size ≤ 1000) (w : World) :
    Calls Tryz.prog 25 #[.agg #[.int .i64 x.kind, .int .i64 x.op, .string x.key, .string x.val, .int .i64 x.a, .int .i64 x.b, .int .i64 x.flag, .int .i64 x.size]] w (StrPost (bs (simL x)) w) := by
  obtain ⟨kd, op, key, val, a, b, fl, sz⟩ := x
  simp only at hk hks hvs ⊢
  have hk0 := hx.key0
  have hv0 := hx.val0
  have hat := hx.attr
  have hnth := hx.nth
  have hon := hx.only
  have hnum := hx.nums
  simp only at hk0 hv0 hat hnth hon hnum
  obtain ⟨h1, h2, h3, h4⟩ := hnum
  clear hx
  rcases (show kd = 1 ∨ kd = 2 ∨ kd = 3 ∨ kd = 4 ∨ kd = 5 ∨ kd = 6 ∨ kd = 7 ∨ kd = 8 ∨ kd = 9 ∨ kd = 10 ∨ kd = 11 ∨ kd = 12 ∨ kd = 13 ∨ kd = 14 ∨ kd = 15 ∨ kd = 16 ∨ kd = 17 by omega) with rfl | rfl | rfl | rfl | rfl | rfl | rfl | rfl | rfl | rfl | rfl | rfl | rfl | rfl | rfl | rfl | rfl
  · exact ws_any op key val a b fl sz w
  · exact ws_tag op key val a b fl sz w hks hk0
  · exact ws_class op key val a b fl sz w hvs hv0
  · exact ws_id op key val a b fl sz w hvs hv0
  · obtain ⟨ho1, ho8, hfl⟩ := hat rfl
    by_cases h : op = 1
    · subst h
      exact ws_has 1 key val a b fl sz w hks hk0
    · obtain ⟨f, rfl, hf⟩ : ∃ f : Nat, fl = (f : Int) ∧ f < 2 := by
        rcases hfl with rfl | rfl
        · exact ⟨0, rfl, by omega⟩
        · exact ⟨1, rfl, by omega⟩
      have := ws_attr op key val a b f sz w (by omega) hf hks hk0 hvs hv0
      unfold simL
      simp only [if_neg h]
      exact this
  · obtain ⟨f, rfl⟩ : ∃ f : Nat, fl = (f : Int) := ⟨fl.toNat, by have := hnth rfl; omega⟩
    exact ws_nth op key val a b f sz w ⟨h1, h2⟩ ⟨h3, h4⟩ (by have := hnth rfl; omega)
  · rcases hon rfl with rfl | rfl
    · exact ws_only0 op key val a b 0 sz w
    · exact ws_only2 op key val a b 2 sz w
  · exact ws_p8 op key val a b fl sz w
  · exact ws_p9 op key val a b fl sz w
  · exact ws_p10 op key val a b fl sz w
  · exact ws_p11 op key val a b fl sz w
  · exact ws_p12 op key val a b fl sz w
  · exact ws_p13 op key val a b fl sz w
  · exact ws_p14 op key val a b fl sz w
  · exact ws_lang op key val a b fl sz w hvs hv0
  · exact ws_con op key val a b fl sz w hvs hv0
  · exact ws_own op key val a b fl sz w hvs hv0
end Go.Proofs.YtoanofdomhnafaaGreatDoor
