/-
  FnClockAdvancePastIsLeastAndKept: the walk. By an AI agent.
-/
import Derived.Test.Qxb6615029aFirst
import Derived.Test.Qxb6615029aScr
import Derived.Deep.RegionHeld3
namespace Go.Proofs.Qxb6615029a
open Go.RowKit
set_option linter.unusedVariables false

/-- THE PLAIN LAW: while time does not pass a, the next answer is just behind a. -/
theorem next_behind (pt aW aL : Int) (hp : pt ≤ aW) (h0 : -9223372036854775808 ≤ aW) (h1 : aW ≤ 9223372036854775807) (h2 : 0 ≤ aL) (h3 : aL ≤ 4294967295) (hno : ¬ (aW = 9223372036854775807 ∧ aL = 4294967295)) :
    ltT aW aL (advW pt aW aL) (advL pt aW aL) = true ∧ Hid (∀ w, Calls Try.prog 21 #[.agg #[.int .i64 (advW pt aW aL), .int .u32 (advL pt aW aL)]] w fun e w' => e = .returned (.agg #[.int .i64 aW, .int .u32 aL]) ∧ ∃ c1 c2, w' = (w.alloc (.cells c1 24)).alloc (.cells c2 24)) := by
  have hlt : ¬ aW < pt := by omega
  by_cases hf : aL = 4294967295
  · have e1 : advW pt aW aL = aW + 1 := by simp [advW, hlt, hf]
    have e2 : advL pt aW aL = 0 := by simp [advL, hlt, hf]
    rw [e1, e2]
    subst hf
    refine ⟨by unfold ltT; rw [decide_eq_true_eq]; omega, ?_⟩
    have hp := prev_zero (aW + 1) (by omega) (by omega)
    rw [show aW + 1 - 1 = aW from by omega] at hp
    exact hide hp
  · have e1 : advW pt aW aL = aW := by simp [advW, hlt, hf]
    have e2 : advL pt aW aL = aL + 1 := by simp [advL, hlt, hf]
    rw [e1, e2]
    refine ⟨by unfold ltT; rw [decide_eq_true_eq]; omega, ?_⟩
    have hp := prev_some aW (aL + 1) (by omega) (by omega)
    rw [show aL + 1 - 1 = aL from by omega] at hp
    exact hide hp

theorem adv_ge {pt fW fL : Int} : pt ≤ advW pt fW fL := by
  unfold advW
  split
  · omega
  · split <;> omega

set_option maxHeartbeats 400000 in
theorem kept_f_on (pt fW fL : Int) (w : World) (t0 : -9223372036854775808 ≤ pt) (t1 : pt ≤ 9223372036854775807) (b0 : -9223372036854775808 ≤ fW) (b1 : fW ≤ 9223372036854775807) (b2 : 0 ≤ fL) (b3 : fL ≤ 4294967295) (hno : ¬ (fW = 9223372036854775807 ∧ fL = 4294967295))
    (d1 : (fW == 9223372036854775807) = false) (htop : topT (advW pt fW fL) (advL pt fW fL) = false) :
    Calls Try.prog 8 #[.int .i64 pt, .int .i64 fW, .int .u32 fL] w fun e w' => e = .returned (.bool true) ∧ Grown w w' := by
  have H := hide hno
  clear hno
  go_enter Try.func8, Try.ntmps8
  go_wp2_with (go_at_call 15; refine (mk_any _ _).mono ?_; rintro e w' ⟨rfl, rfl⟩)
  refine (zzadv (w.heap.size + 1 + 1 + 1) (w.heap.size + 1 + 1) (w.heap.size + 1) pt fW fL (.int .i64 0) (.int .u32 0) _ (clock_new w _ pt) (by simp [go_sem]) (by simp [go_sem]) b0 b1 b2 b3 (unhide H)).mono ?_
  rintro e w1 ⟨rfl, hA⟩
  have k0 : w1.cell? ⟨w.heap.size, 0, none⟩ = some (.int .i64 fW) := by rw [hA.old _ _ (by simp; omega) (by omega)]; simp [go_sem]
  have k1 : w1.cell? ⟨w.heap.size, 1, none⟩ = some (.int .u32 fL) := by rw [hA.old _ _ (by simp; omega) (by omega)]; simp [go_sem]
  have m0 : w1.cell? ⟨w.heap.size + 1 + 1 + 1, 1, none⟩ = some (.int .i32 0) := by rw [hA.head _ (by omega)]; simp [go_sem]
  have s0 : w.heap.size < w1.heap.size := by have := hA.q.size; simp at this; omega
  have C1 := (clock_new w #[.int .i64 fW, .int .u32 fL] pt).adv hA
  have hq : Q w.heap.size w w1 := (q_four w _ _ _ _ _ _ _ _).trans (hA.q.mono (by omega))
  have c3 := hA.c3
  have c4 := hA.c4
  have HQ := hide hq
  have HC := hide C1
  have HM := hide (And.intro m0 (And.intro c3 c4))
  clear hA hq C1 m0 c3 c4
  obtain ⟨s1, s2, s3, s4⟩ := lts s0
  go_wp2_with fail
  refine (least_adv fW fL pt _ b0 b1 b2 b3 t0 t1 (unhide H)).mono ?_
  rintro e w2 ⟨rfl, hq2⟩
  have j0 : w2.cell? ⟨w1.heap.size, 0, none⟩ = some (.int .i64 (advW pt fW fL)) := by rw [hq2.cell _ _ (by simp)]; simp [go_sem]
  have j1 : w2.cell? ⟨w1.heap.size, 1, none⟩ = some (.int .u32 (advL pt fW fL)) := by rw [hq2.cell _ _ (by simp)]; simp [go_sem]
  have hq3 : Q w1.heap.size w1 w2 := ((Q.refl _ w1).more _ _).trans (hq2.mono (by simp))
  have HQ2 := hide hq3
  have z2 : w1.heap.size < w2.heap.size := by have := hq2.size; simp at this; omega
  clear hq2 hq3 k0 k1
  go_wp2_with fail
  refine (great_any _ _ _).mono ?_
  rintro e w3 ⟨rfl, c5, rfl⟩
  go_wp2_with fail
  obtain ⟨a0, a1, a2, a3⟩ := adv_bounds (pt := pt) b0 b1 b2 b3 t1 (unhide H)
  have hn2 : ¬ (advW pt fW fL = 9223372036854775807 ∧ advL pt fW fL = 4294967295) := by simpa [topT] using htop
  obtain ⟨e1, HP⟩ := next_behind pt (advW pt fW fL) (advL pt fW fL) adv_ge a0 a1 a2 a3 hn2
  have e2 : ltT (advW pt fW fL) (advL pt fW fL) (-9223372036854775808) 0 = false := by unfold ltT; rw [decide_eq_false_iff_not]; omega
  have C2 := ((unhide HC).grow (unhide HQ2)).alloc c5 24
  have zc : w.heap.size + 1 + 1 + 1 < w1.heap.size := (unhide HC).bc
  obtain ⟨m0, c3, c4⟩ := unhide HM
  have m0' := past1 (c := c5) (t := 24) (C2.bc |> fun _ => by omega) (((unhide HQ2).cell _ _ zc).trans m0)
  have c3' := past1 (c := c5) (t := 24) (by omega) (((unhide HQ2).cell _ _ zc).trans c3)
  have c4' := past1 (c := c5) (t := 24) (by omega) (((unhide HQ2).cell _ _ zc).trans c4)
  refine (update_last (w.heap.size + 1 + 1 + 1) (w.heap.size + 1 + 1) (w.heap.size + 1) pt (advW pt fW fL) (advL pt fW fL) (-9223372036854775808) 0 _ C2 m0' c3' c4' a0 a1 a2 a3 hn2 e2).mono ?_
  rintro e w5 ⟨rfl, hA5⟩
  have i0 := (hA5.old _ 0 (by simp; omega) (by omega)).trans (past1 z2 j0)
  have i1 := (hA5.old _ 1 (by simp; omega) (by omega)).trans (past1 z2 j1)
  have z5 : w1.heap.size < w5.heap.size := by have := hA5.q.size; simp at this; omega
  have hq5 : Q w.heap.size w w5 := (((unhide HQ).trans ((unhide HQ2).mono (by omega))).more _ _).trans (hA5.q.mono (by omega))
  have HQ5 := hide hq5
  have HB := hide (And.intro a0 (And.intro a1 (adv_bounds (pt := pt) a0 a1 a2 a3 t1 hn2)))
  obtain ⟨v1, v2, v3, v4⟩ := lts z5
  clear hq5 hA5 C2 zc m0 c3 c4 m0' c3' c4' HC HQ HQ2 HM j0 j1 a0 a1 a2 a3 hn2 e2 htop s0 s1 s2 s3 s4 z2 b0 b1 b2 b3 t0 t1 d1
  generalize advW pt (advW pt fW fL) (advL pt fW fL) = rW at *
  generalize advL pt (advW pt fW fL) (advL pt fW fL) = rL at *
  generalize advW pt fW fL = aW at *
  generalize advL pt fW fL = aL at *
  go_wp2_with fail
  go_region_held3 (fun w' => w'.cell? ⟨w1.heap.size, 0, none⟩ = some (.int .i64 aW) ∧ w'.cell? ⟨w1.heap.size, 1, none⟩ = some (.int .u32 aL) ∧ w'.cell? ⟨w5.heap.size, 0, none⟩ = some (.int .i64 rW) ∧ w'.cell? ⟨w5.heap.size, 1, none⟩ = some (.int .u32 rL)) (simp [*, go_sem, World.cell?_alloc_past])
    (first | (go_at_call 11; refine (before_any aW aL rW rL _ (unhide HB).1 (unhide HB).2.1 (unhide HB).2.2.1 (unhide HB).2.2.2.1).mono ?_; rintro e w' ⟨rfl, g1, g2, rfl⟩) | (go_at_call 21; refine (unhide HP _).mono ?_; rintro e w' ⟨rfl, g3, g4, rfl⟩))
  go_wp2
  go_ret
  exact ⟨rfl, ((((((unhide HQ5).more _ _).more _ _).more _ _).more _ _).more _ _).drew.grown⟩

set_option maxHeartbeats 400000 in
theorem kept_f_top (pt fW fL : Int) (w : World) (t0 : -9223372036854775808 ≤ pt) (t1 : pt ≤ 9223372036854775807) (b0 : -9223372036854775808 ≤ fW) (b1 : fW ≤ 9223372036854775807) (b2 : 0 ≤ fL) (b3 : fL ≤ 4294967295) (hno : ¬ (fW = 9223372036854775807 ∧ fL = 4294967295))
    (d1 : (fW == 9223372036854775807) = false) (htop : topT (advW pt fW fL) (advL pt fW fL) = true) :
    Calls Try.prog 8 #[.int .i64 pt, .int .i64 fW, .int .u32 fL] w fun e w' => e = .returned (.bool true) ∧ Grown w w' := by
  have H := hide hno
  clear hno
  go_enter Try.func8, Try.ntmps8
  go_wp2_with (go_at_call 15; refine (mk_any _ _).mono ?_; rintro e w' ⟨rfl, rfl⟩)
  refine (zzadv (w.heap.size + 1 + 1 + 1) (w.heap.size + 1 + 1) (w.heap.size + 1) pt fW fL (.int .i64 0) (.int .u32 0) _ (clock_new w _ pt) (by simp [go_sem]) (by simp [go_sem]) b0 b1 b2 b3 (unhide H)).mono ?_
  rintro e w1 ⟨rfl, hA⟩
  have k0 : w1.cell? ⟨w.heap.size, 0, none⟩ = some (.int .i64 fW) := by rw [hA.old _ _ (by simp; omega) (by omega)]; simp [go_sem]
  have k1 : w1.cell? ⟨w.heap.size, 1, none⟩ = some (.int .u32 fL) := by rw [hA.old _ _ (by simp; omega) (by omega)]; simp [go_sem]
  have m0 : w1.cell? ⟨w.heap.size + 1 + 1 + 1, 1, none⟩ = some (.int .i32 0) := by rw [hA.head _ (by omega)]; simp [go_sem]
  have s0 : w.heap.size < w1.heap.size := by have := hA.q.size; simp at this; omega
  have C1 := (clock_new w #[.int .i64 fW, .int .u32 fL] pt).adv hA
  have hq : Q w.heap.size w w1 := (q_four w _ _ _ _ _ _ _ _).trans (hA.q.mono (by omega))
  have c3 := hA.c3
  have c4 := hA.c4
  have HQ := hide hq
  have HC := hide C1
  have HM := hide (And.intro m0 (And.intro c3 c4))
  clear hA hq C1 m0 c3 c4
  obtain ⟨s1, s2, s3, s4⟩ := lts s0
  go_wp2_with fail
  refine (least_adv fW fL pt _ b0 b1 b2 b3 t0 t1 (unhide H)).mono ?_
  rintro e w2 ⟨rfl, hq2⟩
  have j0 : w2.cell? ⟨w1.heap.size, 0, none⟩ = some (.int .i64 (advW pt fW fL)) := by rw [hq2.cell _ _ (by simp)]; simp [go_sem]
  have j1 : w2.cell? ⟨w1.heap.size, 1, none⟩ = some (.int .u32 (advL pt fW fL)) := by rw [hq2.cell _ _ (by simp)]; simp [go_sem]
  have hq3 : Q w1.heap.size w1 w2 := ((Q.refl _ w1).more _ _).trans (hq2.mono (by simp))
  have HQ2 := hide hq3
  have z2 : w1.heap.size < w2.heap.size := by have := hq2.size; simp at this; omega
  clear hq2 hq3 k0 k1
  go_wp2_with fail
  refine (great_any _ _ _).mono ?_
  rintro e w3 ⟨rfl, c5, rfl⟩
  go_wp2
  go_ret
  exact ⟨rfl, (((unhide HQ).trans ((unhide HQ2).mono (by omega))).more _ _).grown⟩

set_option maxHeartbeats 400000 in
theorem kept_t_on (pt fW fL : Int) (w : World) (t0 : -9223372036854775808 ≤ pt) (t1 : pt ≤ 9223372036854775807) (b0 : -9223372036854775808 ≤ fW) (b1 : fW ≤ 9223372036854775807) (b2 : 0 ≤ fL) (b3 : fL ≤ 4294967295) (hno : ¬ (fW = 9223372036854775807 ∧ fL = 4294967295))
    (d1 : (fW == 9223372036854775807) = true) (d2 : (fL == 4294967295) = false) (htop : topT (advW pt fW fL) (advL pt fW fL) = false) :
    Calls Try.prog 8 #[.int .i64 pt, .int .i64 fW, .int .u32 fL] w fun e w' => e = .returned (.bool true) ∧ Grown w w' := by
  have H := hide hno
  clear hno
  go_enter Try.func8, Try.ntmps8
  go_wp2_with (go_at_call 15; refine (mk_any _ _).mono ?_; rintro e w' ⟨rfl, rfl⟩)
  refine (zzadv (w.heap.size + 1 + 1 + 1) (w.heap.size + 1 + 1) (w.heap.size + 1) pt fW fL (.int .i64 0) (.int .u32 0) _ (clock_new w _ pt) (by simp [go_sem]) (by simp [go_sem]) b0 b1 b2 b3 (unhide H)).mono ?_
  rintro e w1 ⟨rfl, hA⟩
  have k0 : w1.cell? ⟨w.heap.size, 0, none⟩ = some (.int .i64 fW) := by rw [hA.old _ _ (by simp; omega) (by omega)]; simp [go_sem]
  have k1 : w1.cell? ⟨w.heap.size, 1, none⟩ = some (.int .u32 fL) := by rw [hA.old _ _ (by simp; omega) (by omega)]; simp [go_sem]
  have m0 : w1.cell? ⟨w.heap.size + 1 + 1 + 1, 1, none⟩ = some (.int .i32 0) := by rw [hA.head _ (by omega)]; simp [go_sem]
  have s0 : w.heap.size < w1.heap.size := by have := hA.q.size; simp at this; omega
  have C1 := (clock_new w #[.int .i64 fW, .int .u32 fL] pt).adv hA
  have hq : Q w.heap.size w w1 := (q_four w _ _ _ _ _ _ _ _).trans (hA.q.mono (by omega))
  have c3 := hA.c3
  have c4 := hA.c4
  have HQ := hide hq
  have HC := hide C1
  have HM := hide (And.intro m0 (And.intro c3 c4))
  clear hA hq C1 m0 c3 c4
  obtain ⟨s1, s2, s3, s4⟩ := lts s0
  go_wp2_with fail
  refine (least_adv fW fL pt _ b0 b1 b2 b3 t0 t1 (unhide H)).mono ?_
  rintro e w2 ⟨rfl, hq2⟩
  have j0 : w2.cell? ⟨w1.heap.size, 0, none⟩ = some (.int .i64 (advW pt fW fL)) := by rw [hq2.cell _ _ (by simp)]; simp [go_sem]
  have j1 : w2.cell? ⟨w1.heap.size, 1, none⟩ = some (.int .u32 (advL pt fW fL)) := by rw [hq2.cell _ _ (by simp)]; simp [go_sem]
  have hq3 : Q w1.heap.size w1 w2 := ((Q.refl _ w1).more _ _).trans (hq2.mono (by simp))
  have HQ2 := hide hq3
  have z2 : w1.heap.size < w2.heap.size := by have := hq2.size; simp at this; omega
  clear hq2 hq3 k0 k1
  go_wp2_with fail
  refine (great_any _ _ _).mono ?_
  rintro e w3 ⟨rfl, c5, rfl⟩
  go_wp2_with fail
  obtain ⟨a0, a1, a2, a3⟩ := adv_bounds (pt := pt) b0 b1 b2 b3 t1 (unhide H)
  have hn2 : ¬ (advW pt fW fL = 9223372036854775807 ∧ advL pt fW fL = 4294967295) := by simpa [topT] using htop
  obtain ⟨e1, HP⟩ := next_behind pt (advW pt fW fL) (advL pt fW fL) adv_ge a0 a1 a2 a3 hn2
  have e2 : ltT (advW pt fW fL) (advL pt fW fL) (-9223372036854775808) 0 = false := by unfold ltT; rw [decide_eq_false_iff_not]; omega
  have C2 := ((unhide HC).grow (unhide HQ2)).alloc c5 24
  have zc : w.heap.size + 1 + 1 + 1 < w1.heap.size := (unhide HC).bc
  obtain ⟨m0, c3, c4⟩ := unhide HM
  have m0' := past1 (c := c5) (t := 24) (C2.bc |> fun _ => by omega) (((unhide HQ2).cell _ _ zc).trans m0)
  have c3' := past1 (c := c5) (t := 24) (by omega) (((unhide HQ2).cell _ _ zc).trans c3)
  have c4' := past1 (c := c5) (t := 24) (by omega) (((unhide HQ2).cell _ _ zc).trans c4)
  refine (update_last (w.heap.size + 1 + 1 + 1) (w.heap.size + 1 + 1) (w.heap.size + 1) pt (advW pt fW fL) (advL pt fW fL) (-9223372036854775808) 0 _ C2 m0' c3' c4' a0 a1 a2 a3 hn2 e2).mono ?_
  rintro e w5 ⟨rfl, hA5⟩
  have i0 := (hA5.old _ 0 (by simp; omega) (by omega)).trans (past1 z2 j0)
  have i1 := (hA5.old _ 1 (by simp; omega) (by omega)).trans (past1 z2 j1)
  have z5 : w1.heap.size < w5.heap.size := by have := hA5.q.size; simp at this; omega
  have hq5 : Q w.heap.size w w5 := (((unhide HQ).trans ((unhide HQ2).mono (by omega))).more _ _).trans (hA5.q.mono (by omega))
  have HQ5 := hide hq5
  have HB := hide (And.intro a0 (And.intro a1 (adv_bounds (pt := pt) a0 a1 a2 a3 t1 hn2)))
  obtain ⟨v1, v2, v3, v4⟩ := lts z5
  clear hq5 hA5 C2 zc m0 c3 c4 m0' c3' c4' HC HQ HQ2 HM j0 j1 a0 a1 a2 a3 hn2 e2 htop s0 s1 s2 s3 s4 z2 b0 b1 b2 b3 t0 t1 d1 d2
  generalize advW pt (advW pt fW fL) (advL pt fW fL) = rW at *
  generalize advL pt (advW pt fW fL) (advL pt fW fL) = rL at *
  generalize advW pt fW fL = aW at *
  generalize advL pt fW fL = aL at *
  go_wp2_with fail
  go_region_held3 (fun w' => w'.cell? ⟨w1.heap.size, 0, none⟩ = some (.int .i64 aW) ∧ w'.cell? ⟨w1.heap.size, 1, none⟩ = some (.int .u32 aL) ∧ w'.cell? ⟨w5.heap.size, 0, none⟩ = some (.int .i64 rW) ∧ w'.cell? ⟨w5.heap.size, 1, none⟩ = some (.int .u32 rL)) (simp [*, go_sem, World.cell?_alloc_past])
    (first | (go_at_call 11; refine (before_any aW aL rW rL _ (unhide HB).1 (unhide HB).2.1 (unhide HB).2.2.1 (unhide HB).2.2.2.1).mono ?_; rintro e w' ⟨rfl, g1, g2, rfl⟩) | (go_at_call 21; refine (unhide HP _).mono ?_; rintro e w' ⟨rfl, g3, g4, rfl⟩))
  go_wp2
  go_ret
  exact ⟨rfl, ((((((unhide HQ5).more _ _).more _ _).more _ _).more _ _).more _ _).drew.grown⟩

set_option maxHeartbeats 400000 in
theorem kept_t_top (pt fW fL : Int) (w : World) (t0 : -9223372036854775808 ≤ pt) (t1 : pt ≤ 9223372036854775807) (b0 : -9223372036854775808 ≤ fW) (b1 : fW ≤ 9223372036854775807) (b2 : 0 ≤ fL) (b3 : fL ≤ 4294967295) (hno : ¬ (fW = 9223372036854775807 ∧ fL = 4294967295))
    (d1 : (fW == 9223372036854775807) = true) (d2 : (fL == 4294967295) = false) (htop : topT (advW pt fW fL) (advL pt fW fL) = true) :
    Calls Try.prog 8 #[.int .i64 pt, .int .i64 fW, .int .u32 fL] w fun e w' => e = .returned (.bool true) ∧ Grown w w' := by
  have H := hide hno
  clear hno
  go_enter Try.func8, Try.ntmps8
  go_wp2_with (go_at_call 15; refine (mk_any _ _).mono ?_; rintro e w' ⟨rfl, rfl⟩)
  refine (zzadv (w.heap.size + 1 + 1 + 1) (w.heap.size + 1 + 1) (w.heap.size + 1) pt fW fL (.int .i64 0) (.int .u32 0) _ (clock_new w _ pt) (by simp [go_sem]) (by simp [go_sem]) b0 b1 b2 b3 (unhide H)).mono ?_
  rintro e w1 ⟨rfl, hA⟩
  have k0 : w1.cell? ⟨w.heap.size, 0, none⟩ = some (.int .i64 fW) := by rw [hA.old _ _ (by simp; omega) (by omega)]; simp [go_sem]
  have k1 : w1.cell? ⟨w.heap.size, 1, none⟩ = some (.int .u32 fL) := by rw [hA.old _ _ (by simp; omega) (by omega)]; simp [go_sem]
  have m0 : w1.cell? ⟨w.heap.size + 1 + 1 + 1, 1, none⟩ = some (.int .i32 0) := by rw [hA.head _ (by omega)]; simp [go_sem]
  have s0 : w.heap.size < w1.heap.size := by have := hA.q.size; simp at this; omega
  have C1 := (clock_new w #[.int .i64 fW, .int .u32 fL] pt).adv hA
  have hq : Q w.heap.size w w1 := (q_four w _ _ _ _ _ _ _ _).trans (hA.q.mono (by omega))
  have c3 := hA.c3
  have c4 := hA.c4
  have HQ := hide hq
  have HC := hide C1
  have HM := hide (And.intro m0 (And.intro c3 c4))
  clear hA hq C1 m0 c3 c4
  obtain ⟨s1, s2, s3, s4⟩ := lts s0
  go_wp2_with fail
  refine (least_adv fW fL pt _ b0 b1 b2 b3 t0 t1 (unhide H)).mono ?_
  rintro e w2 ⟨rfl, hq2⟩
  have j0 : w2.cell? ⟨w1.heap.size, 0, none⟩ = some (.int .i64 (advW pt fW fL)) := by rw [hq2.cell _ _ (by simp)]; simp [go_sem]
  have j1 : w2.cell? ⟨w1.heap.size, 1, none⟩ = some (.int .u32 (advL pt fW fL)) := by rw [hq2.cell _ _ (by simp)]; simp [go_sem]
  have hq3 : Q w1.heap.size w1 w2 := ((Q.refl _ w1).more _ _).trans (hq2.mono (by simp))
  have HQ2 := hide hq3
  have z2 : w1.heap.size < w2.heap.size := by have := hq2.size; simp at this; omega
  clear hq2 hq3 k0 k1
  go_wp2_with fail
  refine (great_any _ _ _).mono ?_
  rintro e w3 ⟨rfl, c5, rfl⟩
  go_wp2
  go_ret
  exact ⟨rfl, (((unhide HQ).trans ((unhide HQ2).mono (by omega))).more _ _).grown⟩

set_option maxHeartbeats 400000 in
theorem kept_last (pt : Int) (w : World) : Calls Try.prog 8 #[.int .i64 pt, .int .i64 9223372036854775807, .int .u32 4294967295] w fun e w' => e = .returned (.bool true) ∧ Grown w w' := by
  go_enter Try.func8, Try.ntmps8
  go_wp2
  go_ret
  exact ⟨rfl, Grown.refl _⟩

theorem kept_any (pt fW fL : Int) (w : World) (t0 : -9223372036854775808 ≤ pt) (t1 : pt ≤ 9223372036854775807) (b0 : -9223372036854775808 ≤ fW) (b1 : fW ≤ 9223372036854775807) (b2 : 0 ≤ fL) (b3 : fL ≤ 4294967295) :
    Calls Try.prog 8 #[.int .i64 pt, .int .i64 fW, .int .u32 fL] w fun e w' => e = .returned (.bool true) ∧ Grown w w' := by
  by_cases hno : fW = 9223372036854775807 ∧ fL = 4294967295
  · obtain ⟨rfl, rfl⟩ := hno
    exact kept_last pt w
  cases d1 : (fW == 9223372036854775807)
  · cases ht : topT (advW pt fW fL) (advL pt fW fL)
    · exact kept_f_on pt fW fL w t0 t1 b0 b1 b2 b3 hno d1 ht
    · exact kept_f_top pt fW fL w t0 t1 b0 b1 b2 b3 hno d1 ht
  · have d2 : (fL == 4294967295) = false := by
      rw [beq_eq_false_iff_ne]; intro h; exact hno ⟨by simpa using d1, h⟩
    cases ht : topT (advW pt fW fL) (advL pt fW fL)
    · exact kept_t_on pt fW fL w t0 t1 b0 b1 b2 b3 hno d1 d2 ht
    · exact kept_t_top pt fW fL w t0 t1 b0 b1 b2 b3 hno d1 d2 ht
end Go.Proofs.Qxb6615029a
