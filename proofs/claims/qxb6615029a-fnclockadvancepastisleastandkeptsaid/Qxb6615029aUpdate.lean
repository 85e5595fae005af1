/-
  (*Clock).Update: the contract. By an AI agent.
-/
import Derived.Test.Qxb6615029aOrder
import Derived.Test.Qxb6615029aLocks
import Derived.Conc.MuLone
namespace Go.Proofs.Qxb6615029a
open Go.RowKit Go.MuLone
set_option linter.unusedVariables false

theorem cell_set' {w : World} {b o k : Nat} {v u : Value} (hn : o ≠ k) (h : w.cell? ⟨b, o, none⟩ = some v) : (w.setCell ⟨b, k, none⟩ u).cell? ⟨b, o, none⟩ = some v := by
  rw [World.cell?_setCell_other _ ⟨b, k, none⟩ ⟨b, o, none⟩ _ (fun e => hn (by cases e; rfl))]; exact h

theorem IsClock.lock {cb pb nb : Nat} {pt : Int} {w : World} {v : Value} (C : IsClock cb pb nb pt w) : IsClock cb pb nb pt (w.setCell ⟨cb, 1, none⟩ v) := by
  obtain ⟨h0, hp, hn, f1, f3, f4, bc, bp, bn, np, nn⟩ := C
  exact ⟨cell_set' (by omega) h0, cell_set (Ne.symm np) hp, cell_set (Ne.symm nn) hn, (World.frozen?_setCell _ _ _ _).trans f1, (World.frozen?_setCell _ _ _ _).trans f3, (World.frozen?_setCell _ _ _ _).trans f4, by rw [size_set]; exact bc, by rw [size_set]; exact bp, by rw [size_set]; exact bn, np, nn⟩

/-- The lock taken and given back around a call that sets 'last'. -/
theorem Adv.locked {cb : Nat} {rW rL : Int} {w w' : World} (A : Adv cb rW rL (w.setCell ⟨cb, 1, none⟩ (.int .i32 1)) w') (h1 : w.cell? ⟨cb, 1, none⟩ = some (.int .i32 0)) (bc : cb < w.heap.size) :
    Adv cb rW rL w (w'.setCell ⟨cb, 1, none⟩ (.int .i32 0)) := by
  have hs : (w.setCell ⟨cb, 1, none⟩ (.int .i32 1)).heap.size = w.heap.size := size_set _ _ _
  refine ⟨(((Q.refl cb w).setCell (p := ⟨cb, 1, none⟩) (Nat.le_refl _) _).trans A.q).setCell (p := ⟨cb, 1, none⟩) (Nat.le_refl _) _, fun b o hb hn => ?_, fun o ho => ?_, cell_set' (by omega) A.c3, cell_set' (by omega) A.c4⟩
  · rw [World.cell?_setCell_other _ ⟨cb, 1, none⟩ ⟨b, o, none⟩ _ (fun e => hn (by cases e; rfl)), A.old b o (by omega) hn, World.cell?_setCell_other _ ⟨cb, 1, none⟩ ⟨b, o, none⟩ _ (fun e => hn (by cases e; rfl))]
  · by_cases ho1 : o = 1
    · subst ho1
      rw [h1]
      exact World.cell?_setCell_same _ _ _ ((A.head 1 (by omega)).trans (World.cell?_setCell_same _ _ _ h1))
    · rw [World.cell?_setCell_other _ ⟨cb, 1, none⟩ ⟨cb, o, none⟩ _ (fun e => ho1 (by cases e; rfl)), A.head o ho, World.cell?_setCell_other _ ⟨cb, 1, none⟩ ⟨cb, o, none⟩ _ (fun e => ho1 (by cases e; rfl))]

theorem past5 {w : World} {b o : Nat} {c1 c2 c3 c4 c5 : Array Value} {v : Value} (hb : b < w.heap.size) (h : w.cell? ⟨b, o, none⟩ = some v) :
    (((((w.alloc (.cells c1 24)).alloc (.cells c2 24)).alloc (.cells c3 24)).alloc (.cells c4 24)).alloc (.cells c5 24)).cell? ⟨b, o, none⟩ = some v :=
  past1 (by simp; omega) (past1 (by simp; omega) (past1 (by simp; omega) (past1 (by simp; omega) (past1 hb h))))

set_option maxHeartbeats 400000 in
theorem update_rem (cb pb nb : Nat) (pt lW lL rW rL : Int) (w : World) (C : IsClock cb pb nb pt w) (h1 : w.cell? ⟨cb, 1, none⟩ = some (.int .i32 0)) (h3 : w.cell? ⟨cb, 3, none⟩ = some (.int .i64 lW)) (h4 : w.cell? ⟨cb, 4, none⟩ = some (.int .u32 lL))
    (b0 : -9223372036854775808 ≤ rW) (b1 : rW ≤ 9223372036854775807) (b2 : 0 ≤ rL) (b3 : rL ≤ 4294967295) (hno : ¬ (rW = 9223372036854775807 ∧ rL = 4294967295)) (hlt : ltT lW lL rW rL = true) :
    Calls Try.prog 16 #[.pointer (some ⟨cb, 0, none⟩), .agg #[.int .i64 rW, .int .u32 rL]] w fun e w' => e = .returned (.agg #[.int .i64 (advW pt rW rL), .int .u32 (advL pt rW rL)]) ∧ Adv cb (advW pt rW rL) (advL pt rW rL) w w' := by
  have t : decide (0 < cmpT rW rL lW lL) = true := by rw [cmp_pos]; exact hlt
  have H := hide hno
  have HC := hide C
  have bc := C.bc
  have f1 := C.f1
  obtain ⟨bc1, bc2, bc3, bc4⟩ := lts bc
  clear hno C hlt
  go_enter_defers Try.func16, Try.ntmps16
  go_wp2_with fail
  refine (lock_free Try.muLib ⟨cb, 1, none⟩ _ (past1 (by simp; omega) (past1 bc h1)) (by simp [frozen?_alloc_cells, f1])).mono ?_
  rintro e w' ⟨rfl, rfl⟩
  go_wp2_with fail
  refine (compare_any rW rL lW lL _).mono ?_
  rintro e w' ⟨rfl, c1, c2, rfl⟩
  go_wp2_with fail
  have z : (w.setCell ⟨cb, 1, none⟩ (.int .i32 1)).heap.size = w.heap.size := size_set _ _ _
  have bz : cb < (w.setCell ⟨cb, 1, none⟩ (.int .i32 1)).heap.size := by rw [z]; exact bc
  refine (adv_any cb pb nb pt rW rL (.int .i64 lW) (.int .u32 lL) _ ((((((unhide HC).lock.alloc _ _).alloc _ _).alloc _ _).alloc _ _).alloc _ _) (past5 bz (cell_set' (by omega) h3)) (past5 bz (cell_set' (by omega) h4)) b0 b1 b2 b3 (unhide H)).mono ?_
  rintro e w1 ⟨rfl, hA⟩
  have k0 : w1.cell? ⟨w.heap.size + 1, 0, none⟩ = some (.int .i64 0) := by rw [hA.old _ _ (by simp [z]) (by omega)]; simp [go_sem, z]
  have k1 : w1.cell? ⟨w.heap.size + 1, 1, none⟩ = some (.int .u32 0) := by rw [hA.old _ _ (by simp [z]) (by omega)]; simp [go_sem, z]
  have g0 : w1.frozen? ⟨w.heap.size + 1, 0, none⟩ = false := by rw [hA.q.2]; simp [go_sem]
  have g1 : w1.frozen? ⟨w.heap.size + 1, 1, none⟩ = false := by rw [hA.q.2]; simp [go_sem]
  have m0 : w1.cell? ⟨cb, 1, none⟩ = some (.int .i32 1) := (hA.head 1 (by omega)).trans (past5 bz (World.cell?_setCell_same _ _ _ h1))
  have m1 : w1.frozen? ⟨cb, 1, none⟩ = false := by rw [hA.q.2]; simp [frozen?_alloc_cells, f1]
  have HA := hide hA
  clear hA
  go_wp2
  refine leaves_cons (f := 27) (args := #[.pointer (some ⟨cb, 1, none⟩)]) (by simp) (by simp [go_sem]) ?_
  refine (unlock_deferred Try.muLib ⟨cb, 1, none⟩ .returning _ (cell_set (by omega) (cell_set (by omega) m0)) (by rw [World.frozen?_setCell, World.frozen?_setCell]; exact m1)).mono ?_
  rintro e u' w'' ⟨rfl, rfl, rfl⟩
  have nb' : w.heap.size + 1 ≠ cb := by omega
  have r0 : (((w1.setCell ⟨w.heap.size + 1, 0, none⟩ (.int .i64 (advW pt rW rL))).setCell ⟨w.heap.size + 1, 1, none⟩ (.int .u32 (advL pt rW rL))).setCell ⟨cb, 1, none⟩ (.int .i32 0)).cell? ⟨w.heap.size + 1, 0, none⟩ = some (.int .i64 (advW pt rW rL)) :=
    cell_set nb' (cell_set' (by omega) (World.cell?_setCell_same _ _ _ k0))
  have r1 : (((w1.setCell ⟨w.heap.size + 1, 0, none⟩ (.int .i64 (advW pt rW rL))).setCell ⟨w.heap.size + 1, 1, none⟩ (.int .u32 (advL pt rW rL))).setCell ⟨cb, 1, none⟩ (.int .i32 0)).cell? ⟨w.heap.size + 1, 1, none⟩ = some (.int .u32 (advL pt rW rL)) :=
    cell_set nb' (World.cell?_setCell_same _ _ _ (cell_set' (by omega) k1))
  refine ⟨_, ?_, rfl, ?_⟩
  · simp [results, Try.results16, go_sem, r0, r1]
  · have A5 := (unhide HA).of_alloc (by simp [z]; omega) |>.of_alloc (by simp [z]; omega) |>.of_alloc (by simp [z]; omega) |>.of_alloc (by simp [z]; omega) |>.of_alloc bz
    exact ((A5.setCell bz (n := w.heap.size + 1) (by omega) _ _).setCell bz (n := w.heap.size + 1) (by omega) _ _).locked h1 bc
set_option maxHeartbeats 400000 in
theorem update_last (cb pb nb : Nat) (pt lW lL rW rL : Int) (w : World) (C : IsClock cb pb nb pt w) (h1 : w.cell? ⟨cb, 1, none⟩ = some (.int .i32 0)) (h3 : w.cell? ⟨cb, 3, none⟩ = some (.int .i64 lW)) (h4 : w.cell? ⟨cb, 4, none⟩ = some (.int .u32 lL))
    (b0 : -9223372036854775808 ≤ lW) (b1 : lW ≤ 9223372036854775807) (b2 : 0 ≤ lL) (b3 : lL ≤ 4294967295) (hno : ¬ (lW = 9223372036854775807 ∧ lL = 4294967295)) (hlt : ltT lW lL rW rL = false) :
    Calls Try.prog 16 #[.pointer (some ⟨cb, 0, none⟩), .agg #[.int .i64 rW, .int .u32 rL]] w fun e w' => e = .returned (.agg #[.int .i64 (advW pt lW lL), .int .u32 (advL pt lW lL)]) ∧ Adv cb (advW pt lW lL) (advL pt lW lL) w w' := by
  have t : decide (0 < cmpT rW rL lW lL) = false := by rw [cmp_pos]; exact hlt
  have H := hide hno
  have HC := hide C
  have bc := C.bc
  have f1 := C.f1
  obtain ⟨bc1, bc2, bc3, bc4⟩ := lts bc
  clear hno C hlt
  go_enter_defers Try.func16, Try.ntmps16
  go_wp2_with fail
  refine (lock_free Try.muLib ⟨cb, 1, none⟩ _ (past1 (by simp; omega) (past1 bc h1)) (by simp [frozen?_alloc_cells, f1])).mono ?_
  rintro e w' ⟨rfl, rfl⟩
  go_wp2_with fail
  refine (compare_any rW rL lW lL _).mono ?_
  rintro e w' ⟨rfl, c1, c2, rfl⟩
  go_wp2_with fail
  have z : (w.setCell ⟨cb, 1, none⟩ (.int .i32 1)).heap.size = w.heap.size := size_set _ _ _
  have bz : cb < (w.setCell ⟨cb, 1, none⟩ (.int .i32 1)).heap.size := by rw [z]; exact bc
  refine (adv_any cb pb nb pt lW lL (.int .i64 lW) (.int .u32 lL) _ ((((((unhide HC).lock.alloc _ _).alloc _ _).alloc _ _).alloc _ _).alloc _ _) (past5 bz (cell_set' (by omega) h3)) (past5 bz (cell_set' (by omega) h4)) b0 b1 b2 b3 (unhide H)).mono ?_
  rintro e w1 ⟨rfl, hA⟩
  have k0 : w1.cell? ⟨w.heap.size + 1, 0, none⟩ = some (.int .i64 0) := by rw [hA.old _ _ (by simp [z]) (by omega)]; simp [go_sem, z]
  have k1 : w1.cell? ⟨w.heap.size + 1, 1, none⟩ = some (.int .u32 0) := by rw [hA.old _ _ (by simp [z]) (by omega)]; simp [go_sem, z]
  have g0 : w1.frozen? ⟨w.heap.size + 1, 0, none⟩ = false := by rw [hA.q.2]; simp [go_sem]
  have g1 : w1.frozen? ⟨w.heap.size + 1, 1, none⟩ = false := by rw [hA.q.2]; simp [go_sem]
  have m0 : w1.cell? ⟨cb, 1, none⟩ = some (.int .i32 1) := (hA.head 1 (by omega)).trans (past5 bz (World.cell?_setCell_same _ _ _ h1))
  have m1 : w1.frozen? ⟨cb, 1, none⟩ = false := by rw [hA.q.2]; simp [frozen?_alloc_cells, f1]
  have HA := hide hA
  clear hA
  go_wp2
  refine leaves_cons (f := 27) (args := #[.pointer (some ⟨cb, 1, none⟩)]) (by simp) (by simp [go_sem]) ?_
  refine (unlock_deferred Try.muLib ⟨cb, 1, none⟩ .returning _ (cell_set (by omega) (cell_set (by omega) m0)) (by rw [World.frozen?_setCell, World.frozen?_setCell]; exact m1)).mono ?_
  rintro e u' w'' ⟨rfl, rfl, rfl⟩
  have nb' : w.heap.size + 1 ≠ cb := by omega
  have r0 : (((w1.setCell ⟨w.heap.size + 1, 0, none⟩ (.int .i64 (advW pt lW lL))).setCell ⟨w.heap.size + 1, 1, none⟩ (.int .u32 (advL pt lW lL))).setCell ⟨cb, 1, none⟩ (.int .i32 0)).cell? ⟨w.heap.size + 1, 0, none⟩ = some (.int .i64 (advW pt lW lL)) :=
    cell_set nb' (cell_set' (by omega) (World.cell?_setCell_same _ _ _ k0))
  have r1 : (((w1.setCell ⟨w.heap.size + 1, 0, none⟩ (.int .i64 (advW pt lW lL))).setCell ⟨w.heap.size + 1, 1, none⟩ (.int .u32 (advL pt lW lL))).setCell ⟨cb, 1, none⟩ (.int .i32 0)).cell? ⟨w.heap.size + 1, 1, none⟩ = some (.int .u32 (advL pt lW lL)) :=
    cell_set nb' (World.cell?_setCell_same _ _ _ (cell_set' (by omega) k1))
  refine ⟨_, ?_, rfl, ?_⟩
  · simp [results, Try.results16, go_sem, r0, r1]
  · have A5 := (unhide HA).of_alloc (by simp [z]; omega) |>.of_alloc (by simp [z]; omega) |>.of_alloc (by simp [z]; omega) |>.of_alloc (by simp [z]; omega) |>.of_alloc bz
    exact ((A5.setCell bz (n := w.heap.size + 1) (by omega) _ _).setCell bz (n := w.heap.size + 1) (by omega) _ _).locked h1 bc
end Go.Proofs.Qxb6615029a
