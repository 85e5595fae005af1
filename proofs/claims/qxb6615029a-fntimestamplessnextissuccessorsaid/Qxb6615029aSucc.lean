/-
  FnTimestampLessNextIsSuccessor: the walk. By an AI agent.
-/
import Derived.Test.Qxb6615029aOrder
import Derived.Deep.RegionHeld3
namespace Go.Proofs.Qxb6615029a
open Go.RowKit
set_option linter.unusedVariables false

set_option maxHeartbeats 400000 in
theorem succ_more_t (a i b j : Int) (w : World) (h0 : 0 ≤ i) (h1 : i < 4294967295) (t1 : (a == 9223372036854775807) = false) (e3 : ltT a i b j = true) (e4 : ltT b j a (i + 1) = false) :
    Calls Try.prog 4 #[.int .i64 a, .int .u32 i, .int .i64 b, .int .u32 j] w fun e w' => e = .returned (.bool true) ∧ Grown w w' := by
  have e1 : ltT a i a (i + 1) = true := by unfold ltT; rw [decide_eq_true_eq]; omega
  have e2 : ltT a (i + 1) a i = false := by unfold ltT; rw [decide_eq_false_iff_not]; omega
  have t2 : (i == 4294967295) = false := by rw [beq_eq_false_iff_ne]; omega
  go_enter Try.func4, Try.ntmps4
  go_wp2_with fail
  refine (next_more a i h0 h1 _).mono ?_
  rintro e w1 ⟨rfl, c1, c2, rfl⟩
  go_wp2_with fail
  go_region_held3 (fun w' => w'.cell? ⟨w.heap.size, 0, none⟩ = some (.int .i64 a) ∧ w'.cell? ⟨w.heap.size, 1, none⟩ = some (.int .u32 i) ∧ w'.cell? ⟨w.heap.size + 1, 0, none⟩ = some (.int .i64 b) ∧ w'.cell? ⟨w.heap.size + 1, 1, none⟩ = some (.int .u32 j) ∧ w'.cell? ⟨w.heap.size + 1 + 1 + 1 + 1, 0, none⟩ = some (.int .i64 a) ∧ w'.cell? ⟨w.heap.size + 1 + 1 + 1 + 1, 1, none⟩ = some (.int .u32 (i + 1))) (simp [go_sem, World.cell?_alloc_past])
    (first | (go_at_call 10; refine (less_any _ _ _ _ _).mono ?_; rintro e w' ⟨rfl, d1, d2, d3, d4, rfl⟩))
  go_wp2
  go_ret
  exact ⟨rfl, ((((((((((((((((((((((Grown.refl w).alloc _ _).alloc _ _).alloc _ _).alloc _ _).alloc _ _).alloc _ _).alloc _ _).alloc _ _).alloc _ _).alloc _ _).alloc _ _).alloc _ _).alloc _ _).alloc _ _).alloc _ _).alloc _ _).alloc _ _).alloc _ _).alloc _ _).alloc _ _).alloc _ _).drew⟩

set_option maxHeartbeats 400000 in
theorem succ_max_t (a i b j : Int) (w : World) (h0 : 0 ≤ i) (h1 : i < 4294967295) (t1 : (a == 9223372036854775807) = true) (e3 : ltT a i b j = true) (e4 : ltT b j a (i + 1) = false) :
    Calls Try.prog 4 #[.int .i64 a, .int .u32 i, .int .i64 b, .int .u32 j] w fun e w' => e = .returned (.bool true) ∧ Grown w w' := by
  have e1 : ltT a i a (i + 1) = true := by unfold ltT; rw [decide_eq_true_eq]; omega
  have e2 : ltT a (i + 1) a i = false := by unfold ltT; rw [decide_eq_false_iff_not]; omega
  have t2 : (i == 4294967295) = false := by rw [beq_eq_false_iff_ne]; omega
  go_enter Try.func4, Try.ntmps4
  go_wp2_with fail
  refine (next_more a i h0 h1 _).mono ?_
  rintro e w1 ⟨rfl, c1, c2, rfl⟩
  go_wp2_with fail
  go_region_held3 (fun w' => w'.cell? ⟨w.heap.size, 0, none⟩ = some (.int .i64 a) ∧ w'.cell? ⟨w.heap.size, 1, none⟩ = some (.int .u32 i) ∧ w'.cell? ⟨w.heap.size + 1, 0, none⟩ = some (.int .i64 b) ∧ w'.cell? ⟨w.heap.size + 1, 1, none⟩ = some (.int .u32 j) ∧ w'.cell? ⟨w.heap.size + 1 + 1 + 1 + 1, 0, none⟩ = some (.int .i64 a) ∧ w'.cell? ⟨w.heap.size + 1 + 1 + 1 + 1, 1, none⟩ = some (.int .u32 (i + 1))) (simp [go_sem, World.cell?_alloc_past])
    (first | (go_at_call 10; refine (less_any _ _ _ _ _).mono ?_; rintro e w' ⟨rfl, d1, d2, d3, d4, rfl⟩))
  go_wp2
  go_ret
  exact ⟨rfl, ((((((((((((((((((((((Grown.refl w).alloc _ _).alloc _ _).alloc _ _).alloc _ _).alloc _ _).alloc _ _).alloc _ _).alloc _ _).alloc _ _).alloc _ _).alloc _ _).alloc _ _).alloc _ _).alloc _ _).alloc _ _).alloc _ _).alloc _ _).alloc _ _).alloc _ _).alloc _ _).alloc _ _).drew⟩

set_option maxHeartbeats 400000 in
theorem succ_full_t (a b j : Int) (w : World) (h0 : -9223372036854775808 ≤ a) (h1 : a < 9223372036854775807) (e3 : ltT a 4294967295 b j = true) (e4 : ltT b j (a + 1) 0 = false) :
    Calls Try.prog 4 #[.int .i64 a, .int .u32 4294967295, .int .i64 b, .int .u32 j] w fun e w' => e = .returned (.bool true) ∧ Grown w w' := by
  have e1 : ltT a 4294967295 (a + 1) 0 = true := by unfold ltT; rw [decide_eq_true_eq]; omega
  have e2 : ltT (a + 1) 0 a 4294967295 = false := by unfold ltT; rw [decide_eq_false_iff_not]; omega
  have t1 : (a == 9223372036854775807) = false := by rw [beq_eq_false_iff_ne]; omega
  go_enter Try.func4, Try.ntmps4
  go_wp2_with fail
  refine (next_full a h0 h1 _).mono ?_
  rintro e w1 ⟨rfl, c1, c2, rfl⟩
  go_wp2_with fail
  go_region_held3 (fun w' => w'.cell? ⟨w.heap.size, 0, none⟩ = some (.int .i64 a) ∧ w'.cell? ⟨w.heap.size, 1, none⟩ = some (.int .u32 4294967295) ∧ w'.cell? ⟨w.heap.size + 1, 0, none⟩ = some (.int .i64 b) ∧ w'.cell? ⟨w.heap.size + 1, 1, none⟩ = some (.int .u32 j) ∧ w'.cell? ⟨w.heap.size + 1 + 1 + 1 + 1, 0, none⟩ = some (.int .i64 (a + 1)) ∧ w'.cell? ⟨w.heap.size + 1 + 1 + 1 + 1, 1, none⟩ = some (.int .u32 0)) (simp [go_sem, World.cell?_alloc_past])
    (first | (go_at_call 10; refine (less_any _ _ _ _ _).mono ?_; rintro e w' ⟨rfl, d1, d2, d3, d4, rfl⟩))
  go_wp2
  go_ret
  exact ⟨rfl, ((((((((((((((((((((((Grown.refl w).alloc _ _).alloc _ _).alloc _ _).alloc _ _).alloc _ _).alloc _ _).alloc _ _).alloc _ _).alloc _ _).alloc _ _).alloc _ _).alloc _ _).alloc _ _).alloc _ _).alloc _ _).alloc _ _).alloc _ _).alloc _ _).alloc _ _).alloc _ _).alloc _ _).drew⟩

set_option maxHeartbeats 400000 in
theorem succ_more_f (a i b j : Int) (w : World) (h0 : 0 ≤ i) (h1 : i < 4294967295) (t1 : (a == 9223372036854775807) = false) (e3 : ltT a i b j = false) (e4 : ltT b j a (i + 1) = true) :
    Calls Try.prog 4 #[.int .i64 a, .int .u32 i, .int .i64 b, .int .u32 j] w fun e w' => e = .returned (.bool true) ∧ Grown w w' := by
  have e1 : ltT a i a (i + 1) = true := by unfold ltT; rw [decide_eq_true_eq]; omega
  have e2 : ltT a (i + 1) a i = false := by unfold ltT; rw [decide_eq_false_iff_not]; omega
  have t2 : (i == 4294967295) = false := by rw [beq_eq_false_iff_ne]; omega
  go_enter Try.func4, Try.ntmps4
  go_wp2_with fail
  refine (next_more a i h0 h1 _).mono ?_
  rintro e w1 ⟨rfl, c1, c2, rfl⟩
  go_wp2_with fail
  go_region_held3 (fun w' => w'.cell? ⟨w.heap.size, 0, none⟩ = some (.int .i64 a) ∧ w'.cell? ⟨w.heap.size, 1, none⟩ = some (.int .u32 i) ∧ w'.cell? ⟨w.heap.size + 1, 0, none⟩ = some (.int .i64 b) ∧ w'.cell? ⟨w.heap.size + 1, 1, none⟩ = some (.int .u32 j) ∧ w'.cell? ⟨w.heap.size + 1 + 1 + 1 + 1, 0, none⟩ = some (.int .i64 a) ∧ w'.cell? ⟨w.heap.size + 1 + 1 + 1 + 1, 1, none⟩ = some (.int .u32 (i + 1))) (simp [go_sem, World.cell?_alloc_past])
    (first | (go_at_call 10; refine (less_any _ _ _ _ _).mono ?_; rintro e w' ⟨rfl, d1, d2, d3, d4, rfl⟩))
  go_wp2
  go_ret
  exact ⟨rfl, ((((((((((((((((((((((Grown.refl w).alloc _ _).alloc _ _).alloc _ _).alloc _ _).alloc _ _).alloc _ _).alloc _ _).alloc _ _).alloc _ _).alloc _ _).alloc _ _).alloc _ _).alloc _ _).alloc _ _).alloc _ _).alloc _ _).alloc _ _).alloc _ _).alloc _ _).alloc _ _).alloc _ _).drew⟩

set_option maxHeartbeats 400000 in
theorem succ_max_f (a i b j : Int) (w : World) (h0 : 0 ≤ i) (h1 : i < 4294967295) (t1 : (a == 9223372036854775807) = true) (e3 : ltT a i b j = false) (e4 : ltT b j a (i + 1) = true) :
    Calls Try.prog 4 #[.int .i64 a, .int .u32 i, .int .i64 b, .int .u32 j] w fun e w' => e = .returned (.bool true) ∧ Grown w w' := by
  have e1 : ltT a i a (i + 1) = true := by unfold ltT; rw [decide_eq_true_eq]; omega
  have e2 : ltT a (i + 1) a i = false := by unfold ltT; rw [decide_eq_false_iff_not]; omega
  have t2 : (i == 4294967295) = false := by rw [beq_eq_false_iff_ne]; omega
  go_enter Try.func4, Try.ntmps4
  go_wp2_with fail
  refine (next_more a i h0 h1 _).mono ?_
  rintro e w1 ⟨rfl, c1, c2, rfl⟩
  go_wp2_with fail
  go_region_held3 (fun w' => w'.cell? ⟨w.heap.size, 0, none⟩ = some (.int .i64 a) ∧ w'.cell? ⟨w.heap.size, 1, none⟩ = some (.int .u32 i) ∧ w'.cell? ⟨w.heap.size + 1, 0, none⟩ = some (.int .i64 b) ∧ w'.cell? ⟨w.heap.size + 1, 1, none⟩ = some (.int .u32 j) ∧ w'.cell? ⟨w.heap.size + 1 + 1 + 1 + 1, 0, none⟩ = some (.int .i64 a) ∧ w'.cell? ⟨w.heap.size + 1 + 1 + 1 + 1, 1, none⟩ = some (.int .u32 (i + 1))) (simp [go_sem, World.cell?_alloc_past])
    (first | (go_at_call 10; refine (less_any _ _ _ _ _).mono ?_; rintro e w' ⟨rfl, d1, d2, d3, d4, rfl⟩))
  go_wp2
  go_ret
  exact ⟨rfl, ((((((((((((((((((((((Grown.refl w).alloc _ _).alloc _ _).alloc _ _).alloc _ _).alloc _ _).alloc _ _).alloc _ _).alloc _ _).alloc _ _).alloc _ _).alloc _ _).alloc _ _).alloc _ _).alloc _ _).alloc _ _).alloc _ _).alloc _ _).alloc _ _).alloc _ _).alloc _ _).alloc _ _).drew⟩

set_option maxHeartbeats 400000 in
theorem succ_full_f (a b j : Int) (w : World) (h0 : -9223372036854775808 ≤ a) (h1 : a < 9223372036854775807) (e3 : ltT a 4294967295 b j = false) (e4 : ltT b j (a + 1) 0 = true) :
    Calls Try.prog 4 #[.int .i64 a, .int .u32 4294967295, .int .i64 b, .int .u32 j] w fun e w' => e = .returned (.bool true) ∧ Grown w w' := by
  have e1 : ltT a 4294967295 (a + 1) 0 = true := by unfold ltT; rw [decide_eq_true_eq]; omega
  have e2 : ltT (a + 1) 0 a 4294967295 = false := by unfold ltT; rw [decide_eq_false_iff_not]; omega
  have t1 : (a == 9223372036854775807) = false := by rw [beq_eq_false_iff_ne]; omega
  go_enter Try.func4, Try.ntmps4
  go_wp2_with fail
  refine (next_full a h0 h1 _).mono ?_
  rintro e w1 ⟨rfl, c1, c2, rfl⟩
  go_wp2_with fail
  go_region_held3 (fun w' => w'.cell? ⟨w.heap.size, 0, none⟩ = some (.int .i64 a) ∧ w'.cell? ⟨w.heap.size, 1, none⟩ = some (.int .u32 4294967295) ∧ w'.cell? ⟨w.heap.size + 1, 0, none⟩ = some (.int .i64 b) ∧ w'.cell? ⟨w.heap.size + 1, 1, none⟩ = some (.int .u32 j) ∧ w'.cell? ⟨w.heap.size + 1 + 1 + 1 + 1, 0, none⟩ = some (.int .i64 (a + 1)) ∧ w'.cell? ⟨w.heap.size + 1 + 1 + 1 + 1, 1, none⟩ = some (.int .u32 0)) (simp [go_sem, World.cell?_alloc_past])
    (first | (go_at_call 10; refine (less_any _ _ _ _ _).mono ?_; rintro e w' ⟨rfl, d1, d2, d3, d4, rfl⟩))
  go_wp2
  go_ret
  exact ⟨rfl, ((((((((((((((((((((((Grown.refl w).alloc _ _).alloc _ _).alloc _ _).alloc _ _).alloc _ _).alloc _ _).alloc _ _).alloc _ _).alloc _ _).alloc _ _).alloc _ _).alloc _ _).alloc _ _).alloc _ _).alloc _ _).alloc _ _).alloc _ _).alloc _ _).alloc _ _).alloc _ _).alloc _ _).drew⟩

set_option maxHeartbeats 400000 in
theorem succ_last (b j : Int) (w : World) : Calls Try.prog 4 #[.int .i64 9223372036854775807, .int .u32 4294967295, .int .i64 b, .int .u32 j] w fun e w' => e = .returned (.bool true) ∧ Grown w w' := by
  go_enter Try.func4, Try.ntmps4
  go_wp2
  go_ret
  exact ⟨rfl, Grown.refl _⟩

/-- THE PLAIN LAW: u is after t exactly when u is not before the next of t. -/
theorem succ_more_law (a i b j : Int) : ltT b j a (i + 1) = !ltT a i b j := by
  unfold ltT; rw [← decide_not, decide_eq_decide]; omega
theorem succ_full_law (a b j : Int) (h0 : 0 ≤ j) (h1 : j ≤ 4294967295) : ltT b j (a + 1) 0 = !ltT a 4294967295 b j := by
  unfold ltT; rw [← decide_not, decide_eq_decide]; omega

theorem succ_any (a i b j : Int) (w : World) (p0 : -9223372036854775808 ≤ a) (p1 : a ≤ 9223372036854775807) (p2 : 0 ≤ i) (p3 : i ≤ 4294967295) (p4 : 0 ≤ j) (p5 : j ≤ 4294967295) :
    Calls Try.prog 4 #[.int .i64 a, .int .u32 i, .int .i64 b, .int .u32 j] w fun e w' => e = .returned (.bool true) ∧ Grown w w' := by
  by_cases hi : i = 4294967295
  · subst hi
    by_cases ha : a = 9223372036854775807
    · subst ha; exact succ_last b j w
    have hl := succ_full_law a b j p4 p5
    cases hb : ltT a 4294967295 b j
    · rw [hb] at hl; exact succ_full_f a b j w p0 (by omega) hb hl
    · rw [hb] at hl; exact succ_full_t a b j w p0 (by omega) hb hl
  · have hl := succ_more_law a i b j
    cases ht : (a == 9223372036854775807) <;> cases hb : ltT a i b j <;> rw [hb] at hl
    · exact succ_more_f a i b j w p2 (by omega) ht hb hl
    · exact succ_more_t a i b j w p2 (by omega) ht hb hl
    · exact succ_max_f a i b j w p2 (by omega) ht hb hl
    · exact succ_max_t a i b j w p2 (by omega) ht hb hl
end Go.Proofs.Qxb6615029a
