/-
  hlcB1Prev, hlcB1IsGreatest, hlcB1LeastPast: the contracts. By an AI agent.
-/
import Derived.Test.Qxb6615029aOrder
namespace Go.Proofs.Qxb6615029a
open Go.RowKit
set_option linter.unusedVariables false

theorem Q.more {w w1 : World} (h : Q w.heap.size w w1) (c : Array Value) (t : TypeId) : Q w.heap.size w (w1.alloc (.cells c t)) := h.alloc h.size c t

set_option maxHeartbeats 400000 in
theorem prev_some (W L : Int) (h0 : 0 < L) (h1 : L ≤ 4294967295) (w : World) :
    Calls Try.prog 21 #[.agg #[.int .i64 W, .int .u32 L]] w fun e w' => e = .returned (.agg #[.int .i64 W, .int .u32 (L - 1)]) ∧ ∃ c1 c2, w' = (w.alloc (.cells c1 24)).alloc (.cells c2 24) := by
  go_enter Try.func21, Try.ntmps21
  go_wp2
  simp [bodyPost, results, Try.results21, go_sem]
  exact ⟨_, _, rfl⟩

set_option maxHeartbeats 400000 in
theorem prev_zero (W : Int) (h0 : -9223372036854775808 < W) (h1 : W ≤ 9223372036854775807) (w : World) :
    Calls Try.prog 21 #[.agg #[.int .i64 W, .int .u32 0]] w fun e w' => e = .returned (.agg #[.int .i64 (W - 1), .int .u32 4294967295]) ∧ ∃ c1 c2, w' = (w.alloc (.cells c1 24)).alloc (.cells c2 24) := by
  go_enter Try.func21, Try.ntmps21
  go_wp2
  simp [bodyPost, results, Try.results21, go_sem]
  exact ⟨_, _, rfl⟩

/-- (W, L) is the greatest timestamp. -/
def topT (W L : Int) : Bool := decide (W = 9223372036854775807 ∧ L = 4294967295)

set_option maxHeartbeats 400000 in
theorem great_any (W L : Int) (w : World) :
    Calls Try.prog 19 #[.agg #[.int .i64 W, .int .u32 L]] w fun e w' => e = .returned (.bool (topT W L)) ∧ ∃ c1, w' = w.alloc (.cells c1 24) := by
  have e : topT W L = ((W == 9223372036854775807) && (L == 4294967295)) := by unfold topT; by_cases h1 : W = 9223372036854775807 <;> by_cases h2 : L = 4294967295 <;> simp [h1, h2]
  rw [e]
  clear e
  cases h1 : (W == 9223372036854775807)
  · go_enter Try.func19, Try.ntmps19
    go_wp2
    go_ret
    exact ⟨rfl, _, rfl⟩
  · go_enter Try.func19, Try.ntmps19
    go_wp2
    go_ret
    exact ⟨rfl, _, rfl⟩

set_option maxHeartbeats 400000 in
theorem least_a (rW rL fW fL pt pW pL : Int) (w : World) (HP : Hid (∀ w, Calls Try.prog 21 #[.agg #[.int .i64 rW, .int .u32 rL]] w fun e w' => e = .returned (.agg #[.int .i64 pW, .int .u32 pL]) ∧ ∃ c1 c2, w' = (w.alloc (.cells c1 24)).alloc (.cells c2 24)))
    (r0 : -9223372036854775808 ≤ rW) (r1 : rW ≤ 9223372036854775807) (f0 : -9223372036854775808 ≤ fW) (f1 : fW ≤ 9223372036854775807) (t0 : -9223372036854775808 ≤ pt) (t1 : pt ≤ 9223372036854775807) (p0 : -9223372036854775808 ≤ pW) (p1 : pW ≤ 9223372036854775807)
    (e1 : ltT fW fL rW rL = true) (e2 : ltT rW rL pt 0 = false) (e3 : ltT fW fL pW pL = false) :
    Calls Try.prog 17 #[.agg #[.int .i64 rW, .int .u32 rL], .agg #[.int .i64 fW, .int .u32 fL], .int .i64 pt] w fun e w' => e = .returned (.bool true) ∧ Q w.heap.size w w' := by
  go_enter Try.func17, Try.ntmps17
  go_wp2_with fail
  refine (before_any fW fL rW rL _ f0 f1 r0 r1).mono ?_
  rintro e w1 ⟨rfl, c1, c2, rfl⟩
  go_wp2_with fail
  refine (before_any rW rL pt 0 _ r0 r1 t0 t1).mono ?_
  rintro e w1 ⟨rfl, c3, c4, rfl⟩
  go_wp2_with fail
  refine (unhide HP _).mono ?_
  rintro e w1 ⟨rfl, c5, c6, rfl⟩
  go_wp2_with fail
  refine (before_any fW fL pW pL _ f0 f1 p0 p1).mono ?_
  rintro e w1 ⟨rfl, c7, c8, rfl⟩
  go_wp2
  go_ret
  exact ⟨rfl, ((((((((((((Q.refl _ w).more _ _).more _ _).more _ _).more _ _).more _ _).more _ _).more _ _).more _ _).more _ _).more _ _).more _ _).more _ _⟩

set_option maxHeartbeats 400000 in
theorem least_b (rW rL fW fL pt pW pL : Int) (w : World) (HP : Hid (∀ w, Calls Try.prog 21 #[.agg #[.int .i64 rW, .int .u32 rL]] w fun e w' => e = .returned (.agg #[.int .i64 pW, .int .u32 pL]) ∧ ∃ c1 c2, w' = (w.alloc (.cells c1 24)).alloc (.cells c2 24)))
    (r0 : -9223372036854775808 ≤ rW) (r1 : rW ≤ 9223372036854775807) (f0 : -9223372036854775808 ≤ fW) (f1 : fW ≤ 9223372036854775807) (t0 : -9223372036854775808 ≤ pt) (t1 : pt ≤ 9223372036854775807) (p0 : -9223372036854775808 ≤ pW) (p1 : pW ≤ 9223372036854775807)
    (e1 : ltT fW fL rW rL = true) (e2 : ltT rW rL pt 0 = false) (e3 : ltT fW fL pW pL = true) (e4 : ltT pW pL pt 0 = true) :
    Calls Try.prog 17 #[.agg #[.int .i64 rW, .int .u32 rL], .agg #[.int .i64 fW, .int .u32 fL], .int .i64 pt] w fun e w' => e = .returned (.bool true) ∧ Q w.heap.size w w' := by
  go_enter Try.func17, Try.ntmps17
  go_wp2_with fail
  refine (before_any fW fL rW rL _ f0 f1 r0 r1).mono ?_
  rintro e w1 ⟨rfl, c1, c2, rfl⟩
  go_wp2_with fail
  refine (before_any rW rL pt 0 _ r0 r1 t0 t1).mono ?_
  rintro e w1 ⟨rfl, c3, c4, rfl⟩
  go_wp2_with fail
  refine (unhide HP _).mono ?_
  rintro e w1 ⟨rfl, c5, c6, rfl⟩
  go_wp2_with fail
  refine (before_any fW fL pW pL _ f0 f1 p0 p1).mono ?_
  rintro e w1 ⟨rfl, c7, c8, rfl⟩
  go_wp2_with fail
  refine (before_any pW pL pt 0 _ p0 p1 t0 t1).mono ?_
  rintro e w1 ⟨rfl, c9, c10, rfl⟩
  go_wp2
  go_ret
  exact ⟨rfl, ((((((((((((((Q.refl _ w).more _ _).more _ _).more _ _).more _ _).more _ _).more _ _).more _ _).more _ _).more _ _).more _ _).more _ _).more _ _).more _ _).more _ _⟩

/-- THE PLAIN LAW AND THE WALK IN ONE: what advancePast answers is the least timestamp past the floor and not before physical time. -/
theorem least_adv (fW fL pt : Int) (w : World) (f0 : -9223372036854775808 ≤ fW) (f1 : fW ≤ 9223372036854775807) (f2 : 0 ≤ fL) (f3 : fL ≤ 4294967295) (t0 : -9223372036854775808 ≤ pt) (t1 : pt ≤ 9223372036854775807) (hno : ¬ (fW = 9223372036854775807 ∧ fL = 4294967295)) :
    Calls Try.prog 17 #[.agg #[.int .i64 (advW pt fW fL), .int .u32 (advL pt fW fL)], .agg #[.int .i64 fW, .int .u32 fL], .int .i64 pt] w fun e w' => e = .returned (.bool true) ∧ Q w.heap.size w w' := by
  by_cases hlt : fW < pt
  · have e1 : advW pt fW fL = pt := by simp [advW, hlt]
    have e2 : advL pt fW fL = 0 := by simp [advL, hlt]
    rw [e1, e2]
    cases h : ltT fW fL (pt - 1) 4294967295
    · exact least_a pt 0 fW fL pt (pt - 1) 4294967295 w (hide (prev_zero pt (by omega) t1)) t0 t1 f0 f1 t0 t1 (by omega) (by omega) (by unfold ltT; rw [decide_eq_true_eq]; omega) (by unfold ltT; rw [decide_eq_false_iff_not]; omega) h
    · exact least_b pt 0 fW fL pt (pt - 1) 4294967295 w (hide (prev_zero pt (by omega) t1)) t0 t1 f0 f1 t0 t1 (by omega) (by omega) (by unfold ltT; rw [decide_eq_true_eq]; omega) (by unfold ltT; rw [decide_eq_false_iff_not]; omega) h (by unfold ltT; rw [decide_eq_true_eq]; omega)
  · by_cases hf : fL = 4294967295
    · have e1 : advW pt fW fL = fW + 1 := by simp [advW, hlt, hf]
      have e2 : advL pt fW fL = 0 := by simp [advL, hlt, hf]
      rw [e1, e2]
      subst hf
      have hp := prev_zero (fW + 1) (by omega) (by omega)
      rw [show fW + 1 - 1 = fW from by omega] at hp
      exact least_a (fW + 1) 0 fW 4294967295 pt fW 4294967295 w (hide hp) (by omega) (by omega) f0 f1 t0 t1 f0 f1 (by unfold ltT; rw [decide_eq_true_eq]; omega) (by unfold ltT; rw [decide_eq_false_iff_not]; omega) (by unfold ltT; rw [decide_eq_false_iff_not]; omega)
    · have e1 : advW pt fW fL = fW := by simp [advW, hlt, hf]
      have e2 : advL pt fW fL = fL + 1 := by simp [advL, hlt, hf]
      rw [e1, e2]
      have hp := prev_some fW (fL + 1) (by omega) (by omega)
      rw [show fL + 1 - 1 = fL from by omega] at hp
      exact least_a fW (fL + 1) fW fL pt fW fL w (hide hp) f0 f1 f0 f1 t0 t1 f0 f1 (by unfold ltT; rw [decide_eq_true_eq]; omega) (by unfold ltT; rw [decide_eq_false_iff_not]; omega) (by unfold ltT; rw [decide_eq_false_iff_not]; omega)
end Go.Proofs.Qxb6615029a
