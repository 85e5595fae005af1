/-
  FnTimestampAddOrdersByShift: the walk. By an AI agent.
-/
import Derived.Test.Qxb6615029aOrder
namespace Go.Proofs.Qxb6615029a
open Go.RowKit
set_option linter.unusedVariables false

/-- x + y is an int64. -/
def fitB (x y : Int) : Bool := decide (-9223372036854775808 ≤ x + y ∧ x + y ≤ 9223372036854775807)

set_option maxHeartbeats 400000 in
theorem fits_any (x y : Int) (w : World) (h0 : -9223372036854775808 ≤ x) (h1 : x ≤ 9223372036854775807) (h2 : -9223372036854775808 ≤ y) (h3 : y ≤ 9223372036854775807) :
    Calls Try.prog 13 #[.int .i64 x, .int .i64 y] w fun e w' => e = .returned (.bool (fitB x y)) ∧ w' = w := by
  by_cases hy : 0 < y
  · have e : fitB x y = decide (x ≤ 9223372036854775807 - y) := by unfold fitB; rw [decide_eq_decide]; omega
    rw [e]
    clear e h0 h1
    go_enter Try.func13, Try.ntmps13
    go_wp2
    go_ret
    exact ⟨rfl, rfl⟩
  · have e : fitB x y = decide (-9223372036854775808 - y ≤ x) := by unfold fitB; rw [decide_eq_decide]; omega
    rw [e]
    clear e h0 h1
    go_enter Try.func13, Try.ntmps13
    go_wp2
    go_ret
    exact ⟨rfl, rfl⟩

set_option maxHeartbeats 400000 in
theorem add_any (W L d : Int) (w : World) (h0 : -9223372036854775808 ≤ W + d) (h1 : W + d ≤ 9223372036854775807) :
    Calls Try.prog 14 #[.agg #[.int .i64 W, .int .u32 L], .int .i64 d] w fun e w' => e = .returned (.agg #[.int .i64 (W + d), .int .u32 0]) ∧ ∃ c1 c2 c3 c4, w' = (((w.alloc (.cells c1 24)).alloc (.cells c2 24)).alloc (.cells c3 24)).alloc (.cells c4 24) := by
  go_enter Try.func14, Try.ntmps14
  go_wp2
  simp [bodyPost, results, Try.results23, go_sem]
  go_wp2
  simp [bodyPost, results, Try.results14, go_sem]
  exact ⟨_, _, _, _, rfl⟩

set_option maxHeartbeats 400000 in
theorem shift_walk (W L a b : Int) (w : World) (p0 : -9223372036854775808 ≤ W) (p1 : W ≤ 9223372036854775807) (p2 : -9223372036854775808 ≤ a) (p3 : a ≤ 9223372036854775807) (p4 : -9223372036854775808 ≤ b) (p5 : b ≤ 9223372036854775807)
    (e1 : fitB W a = true) (e2 : fitB W b = true) (e3 : ltT (W + a) 0 (W + b) 0 = decide (a < b)) (e4 : ltT (W + b) 0 (W + a) 0 = decide (b < a)) :
    Calls Try.prog 5 #[.int .i64 W, .int .u32 L, .int .i64 a, .int .i64 b] w fun e w' => e = .returned (.bool true) ∧ Grown w w' := by
  have b1 : -9223372036854775808 ≤ W + a ∧ W + a ≤ 9223372036854775807 := by simpa [fitB] using e1
  have b2 : -9223372036854775808 ≤ W + b ∧ W + b ≤ 9223372036854775807 := by simpa [fitB] using e2
  have e5 : (wrap64 (W + b - (W + a)) == wrap64 (b - a)) = true := by rw [show W + b - (W + a) = b - a from by omega]; simp
  obtain ⟨b1, b1'⟩ := b1
  obtain ⟨b2, b2'⟩ := b2
  go_enter Try.func5, Try.ntmps5
  go_wp2_with fail
  refine (fits_any W a _ p0 p1 p2 p3).mono ?_
  rintro e w1 ⟨rfl, rfl⟩
  go_wp2_with fail
  refine (fits_any W b _ p0 p1 p4 p5).mono ?_
  rintro e w1 ⟨rfl, rfl⟩
  go_wp2_with fail
  refine (add_any W L a _ b1 b1').mono ?_
  rintro e w1 ⟨rfl, c1, c2, c3, c4, rfl⟩
  go_wp2_with fail
  refine (add_any W L b _ b2 b2').mono ?_
  rintro e w1 ⟨rfl, c5, c6, c7, c8, rfl⟩
  go_wp2_with fail
  refine (less_any (W + a) 0 (W + b) 0 _).mono ?_
  rintro e w1 ⟨rfl, c9, c10, c11, c12, rfl⟩
  go_wp2_with fail
  refine (less_any (W + b) 0 (W + a) 0 _).mono ?_
  rintro e w1 ⟨rfl, c13, c14, c15, c16, rfl⟩
  go_wp2
  go_ret
  exact ⟨rfl, ((((((((((((((((((((Grown.refl _).alloc _ _).alloc _ _).alloc _ _).alloc _ _).alloc _ _).alloc _ _).alloc _ _).alloc _ _).alloc _ _).alloc _ _).alloc _ _).alloc _ _).alloc _ _).alloc _ _).alloc _ _).alloc _ _).alloc _ _).alloc _ _).alloc _ _)⟩

set_option maxHeartbeats 400000 in
theorem shift_out1 (W L a b : Int) (w : World) (p0 : -9223372036854775808 ≤ W) (p1 : W ≤ 9223372036854775807) (p2 : -9223372036854775808 ≤ a) (p3 : a ≤ 9223372036854775807) (e1 : fitB W a = false) :
    Calls Try.prog 5 #[.int .i64 W, .int .u32 L, .int .i64 a, .int .i64 b] w fun e w' => e = .returned (.bool true) ∧ Grown w w' := by
  go_enter Try.func5, Try.ntmps5
  go_wp2_with fail
  refine (fits_any W a _ p0 p1 p2 p3).mono ?_
  rintro e w1 ⟨rfl, rfl⟩
  go_wp2
  go_ret
  exact ⟨rfl, Grown.refl _⟩

set_option maxHeartbeats 400000 in
theorem shift_out2 (W L a b : Int) (w : World) (p0 : -9223372036854775808 ≤ W) (p1 : W ≤ 9223372036854775807) (p2 : -9223372036854775808 ≤ a) (p3 : a ≤ 9223372036854775807) (p4 : -9223372036854775808 ≤ b) (p5 : b ≤ 9223372036854775807)
    (e1 : fitB W a = true) (e2 : fitB W b = false) :
    Calls Try.prog 5 #[.int .i64 W, .int .u32 L, .int .i64 a, .int .i64 b] w fun e w' => e = .returned (.bool true) ∧ Grown w w' := by
  go_enter Try.func5, Try.ntmps5
  go_wp2_with fail
  refine (fits_any W a _ p0 p1 p2 p3).mono ?_
  rintro e w1 ⟨rfl, rfl⟩
  go_wp2_with fail
  refine (fits_any W b _ p0 p1 p4 p5).mono ?_
  rintro e w1 ⟨rfl, rfl⟩
  go_wp2
  go_ret
  exact ⟨rfl, Grown.refl _⟩

theorem shift_any (W L a b : Int) (w : World) (p0 : -9223372036854775808 ≤ W) (p1 : W ≤ 9223372036854775807) (p2 : -9223372036854775808 ≤ a) (p3 : a ≤ 9223372036854775807) (p4 : -9223372036854775808 ≤ b) (p5 : b ≤ 9223372036854775807) :
    Calls Try.prog 5 #[.int .i64 W, .int .u32 L, .int .i64 a, .int .i64 b] w fun e w' => e = .returned (.bool true) ∧ Grown w w' := by
  cases e1 : fitB W a
  · exact shift_out1 W L a b w p0 p1 p2 p3 e1
  cases e2 : fitB W b
  · exact shift_out2 W L a b w p0 p1 p2 p3 p4 p5 e1 e2
  refine shift_walk W L a b w p0 p1 p2 p3 p4 p5 e1 e2 ?_ ?_
  · unfold ltT; rw [decide_eq_decide]; omega
  · unfold ltT; rw [decide_eq_decide]; omega
end Go.Proofs.Qxb6615029a
