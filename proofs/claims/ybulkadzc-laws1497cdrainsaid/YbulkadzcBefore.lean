import Derived.Test.YbulkadzcProg
import Derived.Test.YbulkadzcPure
import Derived.WalkKit
import Derived.Deep.RegionHeld3
import Derived.BigQuiet
namespace Go.Proofs.Ybulkadzc
open Go.RowKit

theorem ret_bool {a b : Bool} (h : a = b) : Ending.returned (.bool a) = .returned (.bool b) := by rw [h]

set_option maxHeartbeats 400000 in
theorem before_any (d1 s1 l1 p1 d2 s2 l2 p2 : Int) (w : World) :
    Calls Yba.prog 9 #[.agg #[.int .i64 d1, .int .u64 s1, .int .u32 l1, .int .u32 p1], .agg #[.int .i64 d2, .int .u64 s2, .int .u32 l2, .int .u32 p2]] w
      fun e w' => e = .returned (.bool (befB d1 s1 d2 s2)) ∧ w' = (w.alloc (.cells #[.int .i64 d1, .int .u64 s1, .int .u32 l1, .int .u32 p1] 36)).alloc (.cells #[.int .i64 d2, .int .u64 s2, .int .u32 l2, .int .u32 p2] 36) := by
  by_cases h1 : d1 < d2
  · go_enter Yba.func9, Yba.ntmps9
    go_wp2
    go_ret
    exact ⟨ret_bool (by simp [befB, h1]), rfl⟩
  · by_cases h2 : d1 = d2
    · subst h2
      go_enter Yba.func9, Yba.ntmps9
      go_wp2
      go_ret
      exact ⟨ret_bool (by simp [befB]), rfl⟩
    · go_enter Yba.func9, Yba.ntmps9
      go_wp2
      go_ret
      exact ⟨ret_bool (by simp [befB, h1, h2]), rfl⟩
end Go.Proofs.Ybulkadzc
