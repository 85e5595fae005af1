/-
  FnTimestampLessIsStrictOrderOfKey: the walk. By an AI agent.
-/
import Derived.Test.Qxb6615029aOrder
namespace Go.Proofs.Qxb6615029a
open Go.RowKit
set_option linter.unusedVariables false

set_option maxHeartbeats 400000 in
theorem strict_a (a i b j : Int) (w : World) (pa : -9223372036854775808 ≤ a) (qa : a ≤ 9223372036854775807) (pb : -9223372036854775808 ≤ b) (qb : b ≤ 9223372036854775807) (h : a < b) :
    Calls Try.prog 3 #[.int .i64 a, .int .u32 i, .int .i64 b, .int .u32 j] w fun e w' => e = .returned (.bool true) ∧ Grown w w' := by
  have e1 : ltT a i b j = true := by unfold ltT; rw [decide_eq_true_eq]; omega
  have e2 : ltT b j a i = false := by unfold ltT; rw [decide_eq_false_iff_not]; omega
  have e3 : (a == b) = false := by rw [beq_eq_false_iff_ne]; omega
  go_enter Try.func3, Try.ntmps3
  go_wp2_with fail
  refine (less_any a i b j _).mono ?_
  rintro e w' ⟨rfl, c1, c2, c3, c4, rfl⟩
  go_wp2_with fail
  refine (less_any b j a i _).mono ?_
  rintro e w' ⟨rfl, c5, c6, c7, c8, rfl⟩
  go_wp2_with fail
  refine (before_any a i b j _ pa qa pb qb).mono ?_
  rintro e w' ⟨rfl, c9, c10, rfl⟩
  go_wp2_with fail
  refine (before_any b j a i _ pb qb pa qa).mono ?_
  rintro e w' ⟨rfl, c11, c12, rfl⟩
  go_wp2
  go_ret
  exact ⟨rfl, ((((((((((((((Grown.refl w).alloc _ _).alloc _ _).alloc _ _).alloc _ _).alloc _ _).alloc _ _).alloc _ _).alloc _ _).alloc _ _).alloc _ _).alloc _ _).alloc _ _).alloc _ _).alloc _ _⟩

set_option maxHeartbeats 400000 in
theorem strict_b (a i b j : Int) (w : World) (pa : -9223372036854775808 ≤ a) (qa : a ≤ 9223372036854775807) (pb : -9223372036854775808 ≤ b) (qb : b ≤ 9223372036854775807) (h : b < a) :
    Calls Try.prog 3 #[.int .i64 a, .int .u32 i, .int .i64 b, .int .u32 j] w fun e w' => e = .returned (.bool true) ∧ Grown w w' := by
  have e1 : ltT a i b j = false := by unfold ltT; rw [decide_eq_false_iff_not]; omega
  have e2 : ltT b j a i = true := by unfold ltT; rw [decide_eq_true_eq]; omega
  have e3 : (a == b) = false := by rw [beq_eq_false_iff_ne]; omega
  go_enter Try.func3, Try.ntmps3
  go_wp2_with fail
  refine (less_any a i b j _).mono ?_
  rintro e w' ⟨rfl, c1, c2, c3, c4, rfl⟩
  go_wp2_with fail
  refine (less_any b j a i _).mono ?_
  rintro e w' ⟨rfl, c5, c6, c7, c8, rfl⟩
  go_wp2_with fail
  refine (before_any a i b j _ pa qa pb qb).mono ?_
  rintro e w' ⟨rfl, c9, c10, rfl⟩
  go_wp2_with fail
  refine (before_any b j a i _ pb qb pa qa).mono ?_
  rintro e w' ⟨rfl, c11, c12, rfl⟩
  go_wp2
  go_ret
  exact ⟨rfl, ((((((((((((((Grown.refl w).alloc _ _).alloc _ _).alloc _ _).alloc _ _).alloc _ _).alloc _ _).alloc _ _).alloc _ _).alloc _ _).alloc _ _).alloc _ _).alloc _ _).alloc _ _).alloc _ _⟩

set_option maxHeartbeats 400000 in
theorem strict_c (a i j : Int) (w : World) (pa : -9223372036854775808 ≤ a) (qa : a ≤ 9223372036854775807) (h : i < j) :
    Calls Try.prog 3 #[.int .i64 a, .int .u32 i, .int .i64 a, .int .u32 j] w fun e w' => e = .returned (.bool true) ∧ Grown w w' := by
  have e1 : ltT a i a j = true := by unfold ltT; rw [decide_eq_true_eq]; omega
  have e2 : ltT a j a i = false := by unfold ltT; rw [decide_eq_false_iff_not]; omega
  have e3 : (i == j) = false := by rw [beq_eq_false_iff_ne]; omega
  go_enter Try.func3, Try.ntmps3
  go_wp2_with fail
  refine (less_any a i a j _).mono ?_
  rintro e w' ⟨rfl, c1, c2, c3, c4, rfl⟩
  go_wp2_with fail
  refine (less_any a j a i _).mono ?_
  rintro e w' ⟨rfl, c5, c6, c7, c8, rfl⟩
  go_wp2_with fail
  refine (before_any a i a j _ pa qa pa qa).mono ?_
  rintro e w' ⟨rfl, c9, c10, rfl⟩
  go_wp2_with fail
  refine (before_any a j a i _ pa qa pa qa).mono ?_
  rintro e w' ⟨rfl, c11, c12, rfl⟩
  go_wp2
  go_ret
  exact ⟨rfl, ((((((((((((((Grown.refl w).alloc _ _).alloc _ _).alloc _ _).alloc _ _).alloc _ _).alloc _ _).alloc _ _).alloc _ _).alloc _ _).alloc _ _).alloc _ _).alloc _ _).alloc _ _).alloc _ _⟩

set_option maxHeartbeats 400000 in
theorem strict_d (a i j : Int) (w : World) (pa : -9223372036854775808 ≤ a) (qa : a ≤ 9223372036854775807) (h : j < i) :
    Calls Try.prog 3 #[.int .i64 a, .int .u32 i, .int .i64 a, .int .u32 j] w fun e w' => e = .returned (.bool true) ∧ Grown w w' := by
  have e1 : ltT a i a j = false := by unfold ltT; rw [decide_eq_false_iff_not]; omega
  have e2 : ltT a j a i = true := by unfold ltT; rw [decide_eq_true_eq]; omega
  have e3 : (i == j) = false := by rw [beq_eq_false_iff_ne]; omega
  go_enter Try.func3, Try.ntmps3
  go_wp2_with fail
  refine (less_any a i a j _).mono ?_
  rintro e w' ⟨rfl, c1, c2, c3, c4, rfl⟩
  go_wp2_with fail
  refine (less_any a j a i _).mono ?_
  rintro e w' ⟨rfl, c5, c6, c7, c8, rfl⟩
  go_wp2_with fail
  refine (before_any a i a j _ pa qa pa qa).mono ?_
  rintro e w' ⟨rfl, c9, c10, rfl⟩
  go_wp2_with fail
  refine (before_any a j a i _ pa qa pa qa).mono ?_
  rintro e w' ⟨rfl, c11, c12, rfl⟩
  go_wp2
  go_ret
  exact ⟨rfl, ((((((((((((((Grown.refl w).alloc _ _).alloc _ _).alloc _ _).alloc _ _).alloc _ _).alloc _ _).alloc _ _).alloc _ _).alloc _ _).alloc _ _).alloc _ _).alloc _ _).alloc _ _).alloc _ _⟩

set_option maxHeartbeats 400000 in
theorem strict_e (a i : Int) (w : World) (pa : -9223372036854775808 ≤ a) (qa : a ≤ 9223372036854775807) :
    Calls Try.prog 3 #[.int .i64 a, .int .u32 i, .int .i64 a, .int .u32 i] w fun e w' => e = .returned (.bool true) ∧ Grown w w' := by
  have e1 : ltT a i a i = false := by unfold ltT; rw [decide_eq_false_iff_not]; omega
  go_enter Try.func3, Try.ntmps3
  go_wp2_with fail
  refine (less_any a i a i _).mono ?_
  rintro e w' ⟨rfl, c1, c2, c3, c4, rfl⟩
  go_wp2_with fail
  refine (less_any a i a i _).mono ?_
  rintro e w' ⟨rfl, c5, c6, c7, c8, rfl⟩
  go_wp2_with fail
  refine (before_any a i a i _ pa qa pa qa).mono ?_
  rintro e w' ⟨rfl, c9, c10, rfl⟩
  go_wp2_with fail
  refine (before_any a i a i _ pa qa pa qa).mono ?_
  rintro e w' ⟨rfl, c11, c12, rfl⟩
  go_wp2
  go_ret
  exact ⟨rfl, ((((((((((((((Grown.refl w).alloc _ _).alloc _ _).alloc _ _).alloc _ _).alloc _ _).alloc _ _).alloc _ _).alloc _ _).alloc _ _).alloc _ _).alloc _ _).alloc _ _).alloc _ _).alloc _ _⟩

theorem strict_any (a i b j : Int) (w : World) (p0 : -9223372036854775808 ≤ a) (p1 : a ≤ 9223372036854775807) (p2 : -9223372036854775808 ≤ b) (p3 : b ≤ 9223372036854775807) :
    Calls Try.prog 3 #[.int .i64 a, .int .u32 i, .int .i64 b, .int .u32 j] w fun e w' => e = .returned (.bool true) ∧ Grown w w' := by
  by_cases h1 : a < b
  · exact strict_a a i b j w p0 p1 p2 p3 h1
  by_cases h2 : b < a
  · exact strict_b a i b j w p0 p1 p2 p3 h2
  obtain rfl : a = b := by omega
  by_cases h3 : i < j
  · exact strict_c a i j w p0 p1 h3
  by_cases h4 : j < i
  · exact strict_d a i j w p0 p1 h4
  obtain rfl : i = j := by omega
  exact strict_e a i w p0 p1
end Go.Proofs.Qxb6615029a
