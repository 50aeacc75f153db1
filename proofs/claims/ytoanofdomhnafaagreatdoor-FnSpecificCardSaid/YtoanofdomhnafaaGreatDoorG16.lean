/- Parts of a proof: SelFields. -/
import Derived.Test.YtoanofdomhnafaaGreatDoorG10
import Derived.Test.YtoanofdomhnafaaGreatDoorG11
import Derived.Test.YtoanofdomhnafaaGreatDoorG12
import Derived.Test.YtoanofdomhnafaaGreatDoorG13
import Derived.Test.YtoanofdomhnafaaGreatDoorG14
import Derived.Test.YtoanofdomhnafaaGreatDoorG15
set_option linter.unusedVariables false
set_option linter.unusedSimpArgs false
namespace Go.Proofs.YtoanofdomhnafaaGreatDoor
open Go.RowKit
theorem selFields_any (x : SelD) (w : World) (hk : x.key.size ≤ 4000) (hv : x.val.size ≤ 4000) :
    Calls Tryz.prog 19 #[.agg #[.int .i64 x.kind, .int .i64 x.op, .string x.key, .string x.val, .int .i64 x.a, .int .i64 x.b, .int .i64 x.flag, .int .i64 x.size]] w (FieldsPost x w) := by
  obtain ⟨kd_, op_, key, val, a_, b_, fl_, sz_⟩ := x
  simp only at hk hv ⊢
  cases h1 : readF key
  · exact selFields_no kd_ op_ key val a_ b_ fl_ sz_ w hk hv (.inl h1)
  · cases h2 : readF val
    · exact selFields_no kd_ op_ key val a_ b_ fl_ sz_ w hk hv (.inr h2)
    · by_cases k2 : kd_ = 2
      · exact selFields_k2 kd_ op_ key val a_ b_ fl_ sz_ w hk hv h1 h2 k2
      by_cases k5 : kd_ = 5
      · exact selFields_k5 kd_ op_ key val a_ b_ fl_ sz_ w hk hv h1 h2 k5
      by_cases k3 : kd_ = 3
      · exact selFields_k3 kd_ op_ key val a_ b_ fl_ sz_ w hk hv h1 h2 k3
      by_cases k4 : kd_ = 4
      · exact selFields_k4 kd_ op_ key val a_ b_ fl_ sz_ w hk hv h1 h2 k4
      by_cases k15 : kd_ = 15
      · exact selFields_k15 kd_ op_ key val a_ b_ fl_ sz_ w hk hv h1 h2 k15
      by_cases k16 : kd_ = 16
      · exact selFields_k16 kd_ op_ key val a_ b_ fl_ sz_ w hk hv h1 h2 k16
      by_cases k17 : kd_ = 17
      · exact selFields_k17 kd_ op_ key val a_ b_ fl_ sz_ w hk hv h1 h2 k17
      by_cases k21 : kd_ = 21
      · exact selFields_k21 kd_ op_ key val a_ b_ fl_ sz_ w hk hv h1 h2 k21
      by_cases k6 : kd_ = 6
      · exact selFields_k6 kd_ op_ key val a_ b_ fl_ sz_ w hk hv h1 h2 k6
      by_cases k22 : kd_ = 22
      · exact selFields_k22 kd_ op_ key val a_ b_ fl_ sz_ w hk hv h1 h2 k22
      by_cases k7 : kd_ = 7
      · exact selFields_k7 kd_ op_ key val a_ b_ fl_ sz_ w hk hv h1 h2 k7
      exact selFields_ko kd_ op_ key val a_ b_ fl_ sz_ w hk hv h1 h2 ⟨k2, k5, k3, k4, k15, k16, k17, k21, k6, k22, k7⟩
end Go.Proofs.YtoanofdomhnafaaGreatDoor
