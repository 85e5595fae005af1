/-
  FnNewClockFirstUpdateIsLeastPastZero: the walk. By an AI agent.
-/
import Derived.Test.Qxb6615029aUpdate
import Derived.Test.Qxb6615029aLeast
namespace Go.Proofs.Qxb6615029a
open Go.RowKit
set_option linter.unusedVariables false

/-- The world behind 'remote := ..; now := pt; c := ZZNewClockReadingB1(&now)'. -/
theorem clock_new (w : World) (c0 : Array Value) (pt : Int) :
    IsClock (w.heap.size + 1 + 1 + 1) (w.heap.size + 1 + 1) (w.heap.size + 1) pt ((((w.alloc (.cells c0 24)).alloc (.cells #[.int .i64 pt] 2)).alloc (.cells #[.pointer (some ⟨w.heap.size + 1, 0, none⟩)] 34)).alloc (.cells #[.func (.func 25) #[] #[.pointer (some ⟨w.heap.size + 1 + 1, 0, none⟩)], .int .i32 0, .int .u32 0, .int .i64 0, .int .u32 0] 57)) := by
  refine ⟨?_, ?_, ?_, ?_, ?_, ?_, ?_, ?_, ?_, ?_, ?_⟩
  all_goals first | omega | (simp [go_sem]; done) | (simp [go_sem]; omega)

theorem q_four (w : World) (c1 c2 c3 c4 : Array Value) (t1 t2 t3 t4 : TypeId) : Q w.heap.size w ((((w.alloc (.cells c1 t1)).alloc (.cells c2 t2)).alloc (.cells c3 t3)).alloc (.cells c4 t4)) :=
  ((((Q.refl _ w).more _ _).more _ _).more _ _).more _ _


set_option maxHeartbeats 400000 in
theorem first_rem_f (pt rW rL : Int) (w : World) (t0 : -9223372036854775808 ≤ pt) (t1 : pt ≤ 9223372036854775807) (b0 : -9223372036854775808 ≤ rW) (b1 : rW ≤ 9223372036854775807) (b2 : 0 ≤ rL) (b3 : rL ≤ 4294967295) (hno : ¬ (rW = 9223372036854775807 ∧ rL = 4294967295))
    (d1 : (rW == 9223372036854775807) = false) (hlt : ltT 0 0 rW rL = true) :
    Calls Try.prog 6 #[.int .i64 pt, .int .i64 rW, .int .u32 rL] w fun e w' => e = .returned (.bool true) ∧ Grown w w' := by
  have H := hide hno
  clear hno
  go_enter Try.func6, Try.ntmps6
  go_wp2_with (go_at_call 15; refine (mk_any _ _).mono ?_; rintro e w' ⟨rfl, rfl⟩)
  refine (update_rem (w.heap.size + 1 + 1 + 1) (w.heap.size + 1 + 1) (w.heap.size + 1) pt 0 0 rW rL _ (clock_new w _ pt) (by simp [go_sem]) (by simp [go_sem]) (by simp [go_sem]) b0 b1 b2 b3 (unhide H) hlt).mono ?_
  rintro e w1 ⟨rfl, hA⟩
  have k0 : w1.cell? ⟨w.heap.size, 0, none⟩ = some (.int .i64 rW) := by rw [hA.old _ _ (by simp; omega) (by omega)]; simp [go_sem]
  have k1 : w1.cell? ⟨w.heap.size, 1, none⟩ = some (.int .u32 rL) := by rw [hA.old _ _ (by simp; omega) (by omega)]; simp [go_sem]
  have s0 : w.heap.size < w1.heap.size := by have := hA.q.size; simp at this; omega
  obtain ⟨s1, s2, s3, s4⟩ := lts s0
  have hq : Q w.heap.size w w1 := (q_four w _ _ _ _ _ _ _ _).trans (hA.q.mono (by omega))
  have HQ := hide hq
  clear hA hq
  go_wp2_with fail
  refine (before_any 0 0 rW rL _ (by omega) (by omega) b0 b1).mono ?_
  rintro e w2 ⟨rfl, c1, c2, rfl⟩
  go_wp2_with fail
  refine (least_adv rW rL pt _ b0 b1 b2 b3 t0 t1 (unhide H)).mono ?_
  rintro e w3 ⟨rfl, hq3⟩
  have HQ3 := hide hq3
  clear hq3
  go_wp2
  go_ret
  have q1 := unhide HQ
  have q3 := unhide HQ3
  exact ⟨rfl, (((((q1.more _ _).more _ _).more _ _).more _ _).trans (q3.mono (by simp; omega))).grown⟩

set_option maxHeartbeats 400000 in
theorem first_rem_t (pt rW rL : Int) (w : World) (t0 : -9223372036854775808 ≤ pt) (t1 : pt ≤ 9223372036854775807) (b0 : -9223372036854775808 ≤ rW) (b1 : rW ≤ 9223372036854775807) (b2 : 0 ≤ rL) (b3 : rL ≤ 4294967295) (hno : ¬ (rW = 9223372036854775807 ∧ rL = 4294967295))
    (d1 : (rW == 9223372036854775807) = true) (d2 : (rL == 4294967295) = false) (hlt : ltT 0 0 rW rL = true) :
    Calls Try.prog 6 #[.int .i64 pt, .int .i64 rW, .int .u32 rL] w fun e w' => e = .returned (.bool true) ∧ Grown w w' := by
  have H := hide hno
  clear hno
  go_enter Try.func6, Try.ntmps6
  go_wp2_with (go_at_call 15; refine (mk_any _ _).mono ?_; rintro e w' ⟨rfl, rfl⟩)
  refine (update_rem (w.heap.size + 1 + 1 + 1) (w.heap.size + 1 + 1) (w.heap.size + 1) pt 0 0 rW rL _ (clock_new w _ pt) (by simp [go_sem]) (by simp [go_sem]) (by simp [go_sem]) b0 b1 b2 b3 (unhide H) hlt).mono ?_
  rintro e w1 ⟨rfl, hA⟩
  have k0 : w1.cell? ⟨w.heap.size, 0, none⟩ = some (.int .i64 rW) := by rw [hA.old _ _ (by simp; omega) (by omega)]; simp [go_sem]
  have k1 : w1.cell? ⟨w.heap.size, 1, none⟩ = some (.int .u32 rL) := by rw [hA.old _ _ (by simp; omega) (by omega)]; simp [go_sem]
  have s0 : w.heap.size < w1.heap.size := by have := hA.q.size; simp at this; omega
  obtain ⟨s1, s2, s3, s4⟩ := lts s0
  have hq : Q w.heap.size w w1 := (q_four w _ _ _ _ _ _ _ _).trans (hA.q.mono (by omega))
  have HQ := hide hq
  clear hA hq
  go_wp2_with fail
  refine (before_any 0 0 rW rL _ (by omega) (by omega) b0 b1).mono ?_
  rintro e w2 ⟨rfl, c1, c2, rfl⟩
  go_wp2_with fail
  refine (least_adv rW rL pt _ b0 b1 b2 b3 t0 t1 (unhide H)).mono ?_
  rintro e w3 ⟨rfl, hq3⟩
  have HQ3 := hide hq3
  clear hq3
  go_wp2
  go_ret
  have q1 := unhide HQ
  have q3 := unhide HQ3
  exact ⟨rfl, (((((q1.more _ _).more _ _).more _ _).more _ _).trans (q3.mono (by simp; omega))).grown⟩

set_option maxHeartbeats 400000 in
theorem first_last_f (pt rW rL : Int) (w : World) (t0 : -9223372036854775808 ≤ pt) (t1 : pt ≤ 9223372036854775807) (b0 : -9223372036854775808 ≤ rW) (b1 : rW ≤ 9223372036854775807) (b2 : 0 ≤ rL) (b3 : rL ≤ 4294967295) (hno : ¬ (rW = 9223372036854775807 ∧ rL = 4294967295))
    (d1 : (rW == 9223372036854775807) = false) (hlt : ltT 0 0 rW rL = false) :
    Calls Try.prog 6 #[.int .i64 pt, .int .i64 rW, .int .u32 rL] w fun e w' => e = .returned (.bool true) ∧ Grown w w' := by
  have H := hide hno
  clear hno
  go_enter Try.func6, Try.ntmps6
  go_wp2_with (go_at_call 15; refine (mk_any _ _).mono ?_; rintro e w' ⟨rfl, rfl⟩)
  refine (update_last (w.heap.size + 1 + 1 + 1) (w.heap.size + 1 + 1) (w.heap.size + 1) pt 0 0 rW rL _ (clock_new w _ pt) (by simp [go_sem]) (by simp [go_sem]) (by simp [go_sem]) (by omega) (by omega) (by omega) (by omega) (by omega) hlt).mono ?_
  rintro e w1 ⟨rfl, hA⟩
  have k0 : w1.cell? ⟨w.heap.size, 0, none⟩ = some (.int .i64 rW) := by rw [hA.old _ _ (by simp; omega) (by omega)]; simp [go_sem]
  have k1 : w1.cell? ⟨w.heap.size, 1, none⟩ = some (.int .u32 rL) := by rw [hA.old _ _ (by simp; omega) (by omega)]; simp [go_sem]
  have s0 : w.heap.size < w1.heap.size := by have := hA.q.size; simp at this; omega
  obtain ⟨s1, s2, s3, s4⟩ := lts s0
  have hq : Q w.heap.size w w1 := (q_four w _ _ _ _ _ _ _ _).trans (hA.q.mono (by omega))
  have HQ := hide hq
  clear hA hq
  go_wp2_with fail
  refine (before_any 0 0 rW rL _ (by omega) (by omega) b0 b1).mono ?_
  rintro e w2 ⟨rfl, c1, c2, rfl⟩
  go_wp2_with fail
  refine (least_adv 0 0 pt _ (by omega) (by omega) (by omega) (by omega) t0 t1 (by omega)).mono ?_
  rintro e w3 ⟨rfl, hq3⟩
  have HQ3 := hide hq3
  clear hq3
  go_wp2
  go_ret
  have q1 := unhide HQ
  have q3 := unhide HQ3
  exact ⟨rfl, (((((q1.more _ _).more _ _).more _ _).more _ _).trans (q3.mono (by simp; omega))).grown⟩

set_option maxHeartbeats 400000 in
theorem first_last_t (pt rW rL : Int) (w : World) (t0 : -9223372036854775808 ≤ pt) (t1 : pt ≤ 9223372036854775807) (b0 : -9223372036854775808 ≤ rW) (b1 : rW ≤ 9223372036854775807) (b2 : 0 ≤ rL) (b3 : rL ≤ 4294967295) (hno : ¬ (rW = 9223372036854775807 ∧ rL = 4294967295))
    (d1 : (rW == 9223372036854775807) = true) (d2 : (rL == 4294967295) = false) (hlt : ltT 0 0 rW rL = false) :
    Calls Try.prog 6 #[.int .i64 pt, .int .i64 rW, .int .u32 rL] w fun e w' => e = .returned (.bool true) ∧ Grown w w' := by
  have H := hide hno
  clear hno
  go_enter Try.func6, Try.ntmps6
  go_wp2_with (go_at_call 15; refine (mk_any _ _).mono ?_; rintro e w' ⟨rfl, rfl⟩)
  refine (update_last (w.heap.size + 1 + 1 + 1) (w.heap.size + 1 + 1) (w.heap.size + 1) pt 0 0 rW rL _ (clock_new w _ pt) (by simp [go_sem]) (by simp [go_sem]) (by simp [go_sem]) (by omega) (by omega) (by omega) (by omega) (by omega) hlt).mono ?_
  rintro e w1 ⟨rfl, hA⟩
  have k0 : w1.cell? ⟨w.heap.size, 0, none⟩ = some (.int .i64 rW) := by rw [hA.old _ _ (by simp; omega) (by omega)]; simp [go_sem]
  have k1 : w1.cell? ⟨w.heap.size, 1, none⟩ = some (.int .u32 rL) := by rw [hA.old _ _ (by simp; omega) (by omega)]; simp [go_sem]
  have s0 : w.heap.size < w1.heap.size := by have := hA.q.size; simp at this; omega
  obtain ⟨s1, s2, s3, s4⟩ := lts s0
  have hq : Q w.heap.size w w1 := (q_four w _ _ _ _ _ _ _ _).trans (hA.q.mono (by omega))
  have HQ := hide hq
  clear hA hq
  go_wp2_with fail
  refine (before_any 0 0 rW rL _ (by omega) (by omega) b0 b1).mono ?_
  rintro e w2 ⟨rfl, c1, c2, rfl⟩
  go_wp2_with fail
  refine (least_adv 0 0 pt _ (by omega) (by omega) (by omega) (by omega) t0 t1 (by omega)).mono ?_
  rintro e w3 ⟨rfl, hq3⟩
  have HQ3 := hide hq3
  clear hq3
  go_wp2
  go_ret
  have q1 := unhide HQ
  have q3 := unhide HQ3
  exact ⟨rfl, (((((q1.more _ _).more _ _).more _ _).more _ _).trans (q3.mono (by simp; omega))).grown⟩

set_option maxHeartbeats 400000 in
theorem first_top (pt : Int) (w : World) : Calls Try.prog 6 #[.int .i64 pt, .int .i64 9223372036854775807, .int .u32 4294967295] w fun e w' => e = .returned (.bool true) ∧ Grown w w' := by
  go_enter Try.func6, Try.ntmps6
  go_wp2
  go_ret
  exact ⟨rfl, Grown.refl _⟩

theorem first_any (pt rW rL : Int) (w : World) (t0 : -9223372036854775808 ≤ pt) (t1 : pt ≤ 9223372036854775807) (b0 : -9223372036854775808 ≤ rW) (b1 : rW ≤ 9223372036854775807) (b2 : 0 ≤ rL) (b3 : rL ≤ 4294967295) :
    Calls Try.prog 6 #[.int .i64 pt, .int .i64 rW, .int .u32 rL] w fun e w' => e = .returned (.bool true) ∧ Grown w w' := by
  by_cases hno : rW = 9223372036854775807 ∧ rL = 4294967295
  · obtain ⟨rfl, rfl⟩ := hno
    exact first_top pt w
  cases d1 : (rW == 9223372036854775807)
  · cases hlt : ltT 0 0 rW rL
    · exact first_last_f pt rW rL w t0 t1 b0 b1 b2 b3 hno d1 hlt
    · exact first_rem_f pt rW rL w t0 t1 b0 b1 b2 b3 hno d1 hlt
  · have d2 : (rL == 4294967295) = false := by
      rw [beq_eq_false_iff_ne]; intro h; exact hno ⟨by simpa using d1, h⟩
    cases hlt : ltT 0 0 rW rL
    · exact first_last_t pt rW rL w t0 t1 b0 b1 b2 b3 hno d1 d2 hlt
    · exact first_rem_t pt rW rL w t0 t1 b0 b1 b2 b3 hno d1 d2 hlt
end Go.Proofs.Qxb6615029a
