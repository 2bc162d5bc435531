import Derived.Test.YbulkaticKp
namespace Go.Proofs.Ybulkatic
open Go.RowKit
theorem clo_any (a b c d : Int) (w : World) (a0 : 0 ≤ a) (a1 : a < 1114112) (c0 : 0 ≤ c) (c1 : c < 1114112) :
    Calls Yba.prog 20 #[.agg #[.int .i32 a, .int .i32 b], .agg #[.int .i32 c, .int .i32 d]] w fun e w' => e = .returned (.int .i64 (a - c)) ∧ w' = (w.alloc (.cells #[.int .i32 a, .int .i32 b] 36)).alloc (.cells #[.int .i32 c, .int .i32 d] 36) := by
  have e : -1114112 < a - c := by omega
  have e' : a - c < 1114112 := by omega
  go_enter Yba.func20, Yba.ntmps20
  go_wp2
  go_ret
  exact ⟨rfl, rfl⟩
end Go.Proofs.Ybulkatic
