/-
  FnNewClockScriptEachAfterAllBefore: what holds of the world at a round's head, and how it is carried. By an AI agent.
-/
import Derived.Test.Qxb6615029aFirst
namespace Go.Proofs.Qxb6615029a
open Go.RowKit
set_option linter.unusedVariables false

theorem IsClock.grow {cb pb nb : Nat} {pt : Int} {w w' : World} (C : IsClock cb pb nb pt w) (q : Q w.heap.size w w') : IsClock cb pb nb pt w' := by
  obtain ⟨h0, hp, hn, f1, f3, f4, bc, bp, bn, np, nn⟩ := C
  have hs := q.size
  exact ⟨(q.cell _ _ bc).trans h0, (q.cell _ _ bp).trans hp, (q.cell _ _ bn).trans hn, (q.2 _).trans f1, (q.2 _).trans f3, (q.2 _).trans f4, by omega, by omega, by omega, np, nn⟩

theorem IsClock.now {cb pb nb : Nat} {pt v : Int} {w : World} (C : IsClock cb pb nb pt w) (h : pb ≠ nb) : IsClock cb pb nb v (w.setCell ⟨nb, 0, none⟩ (.int .i64 v)) := by
  obtain ⟨h0, hp, hn, f1, f3, f4, bc, bp, bn, np, nn⟩ := C
  exact ⟨cell_set nn h0, cell_set h hp, World.cell?_setCell_same _ _ _ hn, (World.frozen?_setCell _ _ _ _).trans f1, (World.frozen?_setCell _ _ _ _).trans f3, (World.frozen?_setCell _ _ _ _).trans f4, by rw [size_set]; exact bc, by rw [size_set]; exact bp, by rw [size_set]; exact bn, np, nn⟩

/-- The clock reads pt, its last is (lW, lL); the variable 'hi' holds (uW, uL). -/
structure Scr (w wr : World) (pt lW lL uW uL : Int) : Prop where
  q : Q w.heap.size w wr
  C : IsClock (w.heap.size + 1 + 1) (w.heap.size + 1) w.heap.size pt wr
  s : w.heap.size + 1 + 1 + 1 < wr.heap.size
  m : wr.cell? ⟨w.heap.size + 1 + 1, 1, none⟩ = some (.int .i32 0)
  l3 : wr.cell? ⟨w.heap.size + 1 + 1, 3, none⟩ = some (.int .i64 lW)
  l4 : wr.cell? ⟨w.heap.size + 1 + 1, 4, none⟩ = some (.int .u32 lL)
  u0 : wr.cell? ⟨w.heap.size + 1 + 1 + 1, 0, none⟩ = some (.int .i64 uW)
  u1 : wr.cell? ⟨w.heap.size + 1 + 1 + 1, 1, none⟩ = some (.int .u32 uL)
  g : wr.frozen? ⟨w.heap.size, 0, none⟩ = false
  g0 : wr.frozen? ⟨w.heap.size + 1 + 1 + 1, 0, none⟩ = false
  g1 : wr.frozen? ⟨w.heap.size + 1 + 1 + 1, 1, none⟩ = false

theorem Scr.grow {w wr wx : World} {pt lW lL uW uL : Int} (S : Scr w wr pt lW lL uW uL) (q : Q wr.heap.size wr wx) : Scr w wx pt lW lL uW uL := by
  have hs := q.size
  have s := S.s
  exact ⟨S.q.trans (q.mono (by omega)), S.C.grow q, by omega, (q.cell _ _ (by omega)).trans S.m, (q.cell _ _ (by omega)).trans S.l3, (q.cell _ _ (by omega)).trans S.l4, (q.cell _ _ (by omega)).trans S.u0, (q.cell _ _ (by omega)).trans S.u1,
    (q.2 _).trans S.g, (q.2 _).trans S.g0, (q.2 _).trans S.g1⟩

theorem Scr.now {w wr : World} {pt lW lL uW uL : Int} (S : Scr w wr pt lW lL uW uL) (v : Int) : Scr w (wr.setCell ⟨w.heap.size, 0, none⟩ (.int .i64 v)) v lW lL uW uL := by
  have s := S.s
  exact ⟨S.q.setCell (p := ⟨w.heap.size, 0, none⟩) (Nat.le_refl _) _, S.C.now (by omega), by rw [size_set]; exact s, cell_set (by omega) S.m, cell_set (by omega) S.l3, cell_set (by omega) S.l4, cell_set (by omega) S.u0, cell_set (by omega) S.u1,
    (World.frozen?_setCell _ _ _ _).trans S.g, (World.frozen?_setCell _ _ _ _).trans S.g0, (World.frozen?_setCell _ _ _ _).trans S.g1⟩

theorem Scr.adv {w wr wx : World} {pt lW lL uW uL aW aL : Int} (S : Scr w wr pt lW lL uW uL) (A : Adv (w.heap.size + 1 + 1) aW aL wr wx) : Scr w wx pt aW aL uW uL := by
  have hs := A.q.size
  have s := S.s
  exact ⟨S.q.trans (A.q.mono (by omega)), S.C.adv A, by omega, (A.head _ (by omega)).trans S.m, A.c3, A.c4, (A.old _ _ (by omega) (by omega)).trans S.u0, (A.old _ _ (by omega) (by omega)).trans S.u1,
    (A.q.2 _).trans S.g, (A.q.2 _).trans S.g0, (A.q.2 _).trans S.g1⟩

theorem Scr.hi {w wr : World} {pt lW lL uW uL : Int} (S : Scr w wr pt lW lL uW uL) (aW aL : Int) :
    Scr w ((wr.setCell ⟨w.heap.size + 1 + 1 + 1, 0, none⟩ (.int .i64 aW)).setCell ⟨w.heap.size + 1 + 1 + 1, 1, none⟩ (.int .u32 aL)) pt lW lL aW aL := by
  have s := S.s
  exact ⟨(S.q.setCell (p := ⟨w.heap.size + 1 + 1 + 1, 0, none⟩) (by show w.heap.size ≤ w.heap.size + 1 + 1 + 1; omega) _).setCell (p := ⟨w.heap.size + 1 + 1 + 1, 1, none⟩) (by show w.heap.size ≤ w.heap.size + 1 + 1 + 1; omega) _,
    (S.C.setCell (by omega) (by omega) (by omega)).setCell (by omega) (by omega) (by omega), by rw [size_set, size_set]; exact s, cell_set (by omega) (cell_set (by omega) S.m), cell_set (by omega) (cell_set (by omega) S.l3), cell_set (by omega) (cell_set (by omega) S.l4),
    cell_set' (by omega) (World.cell?_setCell_same _ _ _ S.u0), World.cell?_setCell_same _ _ _ (cell_set' (by omega) S.u1),
    ((World.frozen?_setCell _ _ _ _).trans (World.frozen?_setCell _ _ _ _)).trans S.g, ((World.frozen?_setCell _ _ _ _).trans (World.frozen?_setCell _ _ _ _)).trans S.g0, ((World.frozen?_setCell _ _ _ _).trans (World.frozen?_setCell _ _ _ _)).trans S.g1⟩

theorem Scr.drew {w wr : World} {pt lW lL uW uL : Int} (S : Scr w wr pt lW lL uW uL) : Scr w wr.drew pt lW lL uW uL := S.grow ((Q.refl _ _).drew)

/-- The world at the call of Update. -/
theorem scr_at {w wr : World} {pt lW lL uW uL : Int} (S : Scr w wr pt lW lL uW uL) (v : Int) (c1 c2 c3 c4 c5 : Array Value) :
    Scr w ((((((wr.setCell ⟨w.heap.size, 0, none⟩ (.int .i64 v)).alloc (.cells c1 24)).alloc (.cells c2 24)).alloc (.cells c3 24)).alloc (.cells c4 24)).alloc (.cells c5 24)).drew v lW lL uW uL :=
  (S.now v).grow ((((((Q.refl _ _).more _ _).more _ _).more _ _).more _ _).more _ _).drew

/-- What advancePast answers is a timestamp. -/
theorem adv_bounds {pt fW fL : Int} (f0 : -9223372036854775808 ≤ fW) (f1 : fW ≤ 9223372036854775807) (f2 : 0 ≤ fL) (f3 : fL ≤ 4294967295) (t1 : pt ≤ 9223372036854775807) (hno : ¬ (fW = 9223372036854775807 ∧ fL = 4294967295)) :
    -9223372036854775808 ≤ advW pt fW fL ∧ advW pt fW fL ≤ 9223372036854775807 ∧ 0 ≤ advL pt fW fL ∧ advL pt fW fL ≤ 4294967295 := by
  unfold advW advL
  split
  · omega
  · split <;> omega

/-- The world at the loop's start. -/
theorem scr_new (w : World) : Scr w ((((w.alloc (.cells #[.int .i64 0] 2)).alloc (.cells #[.pointer (some ⟨w.heap.size, 0, none⟩)] 34)).alloc (.cells #[.func (.func 25) #[] #[.pointer (some ⟨w.heap.size + 1, 0, none⟩)], .int .i32 0, .int .u32 0, .int .i64 0, .int .u32 0] 57)).alloc (.cells #[.int .i64 0, .int .u32 0] 24)) 0 0 0 0 0 := by
  refine ⟨q_four w _ _ _ _ _ _ _ _, ⟨?_, ?_, ?_, ?_, ?_, ?_, ?_, ?_, ?_, ?_, ?_⟩, ?_, ?_, ?_, ?_, ?_, ?_, ?_, ?_, ?_⟩
  all_goals first | omega | (simp [go_sem]; done) | (simp [go_sem]; omega)

set_option maxHeartbeats 400000 in
theorem bytes_any (a0 a1 a2 : Option Addr) (l0 c0 l1 c1 l2 c2 : Nat) (w : World) :
    Calls Try.prog 18 #[.slice a0 l0 c0, .slice a1 l1 c1, .slice a2 l2 c2] w fun e w' => (∃ b : Bool, e = .returned (.bool b)) ∧ w = w' := by
  go_enter Try.func18, Try.ntmps18
  go_wp2
  all_goals (go_ret; exact ⟨⟨_, rfl⟩, rfl⟩)
end Go.Proofs.Qxb6615029a
