/-
  THE LEAF CONTRACTS of package hlc. By an AI agent.
-/
import Derived.Test.Qxb6615029aBase
namespace Go.Proofs.Qxb6615029a
open Go.RowKit
set_option linter.unusedVariables false

set_option maxHeartbeats 400000 in
/-- Timestamp.Next where the counter is full. -/
theorem next_full (W : Int) (h0 : -9223372036854775808 ≤ W) (h1 : W < 9223372036854775807) (w : World) :
    Calls Try.prog 12 #[.agg #[.int .i64 W, .int .u32 4294967295]] w fun e w' => e = .returned (.agg #[.int .i64 (W + 1), .int .u32 0]) ∧ ∃ c1 c2, w' = (w.alloc (.cells c1 24)).alloc (.cells c2 24) := by
  go_enter Try.func12, Try.ntmps12
  go_wp2
  simp [bodyPost, results, Try.results12, go_sem]
  exact ⟨_, _, rfl⟩

set_option maxHeartbeats 400000 in
/-- Timestamp.Next where the counter is not full. -/
theorem next_more (W L : Int) (h0 : 0 ≤ L) (h1 : L < 4294967295) (w : World) :
    Calls Try.prog 12 #[.agg #[.int .i64 W, .int .u32 L]] w fun e w' => e = .returned (.agg #[.int .i64 W, .int .u32 (L + 1)]) ∧ ∃ c1 c2, w' = (w.alloc (.cells c1 24)).alloc (.cells c2 24) := by
  go_enter Try.func12, Try.ntmps12
  go_wp2
  simp [bodyPost, results, Try.results12, go_sem]
  exact ⟨_, _, rfl⟩
end Go.Proofs.Qxb6615029a
