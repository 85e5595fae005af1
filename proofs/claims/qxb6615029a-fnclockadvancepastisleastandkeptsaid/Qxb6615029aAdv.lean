/-
  ZZAdvancePastB1. By an AI agent.
-/
import Derived.Test.Qxb6615029aClock
namespace Go.Proofs.Qxb6615029a
open Go.RowKit
set_option linter.unusedVariables false

theorem hide {p : Prop} (h : p) : Hid p := h
theorem unhide {p : Prop} (h : Hid p) : p := h

theorem IsClock.alloc {cb pb nb : Nat} {pt : Int} {w : World} (C : IsClock cb pb nb pt w) (c : Array Value) (t : TypeId) : IsClock cb pb nb pt (w.alloc (.cells c t)) := by
  obtain ⟨h0, hp, hn, f1, f3, f4, bc, bp, bn, np, nn⟩ := C
  exact ⟨(World.cell?_alloc_past _ _ _ bc).trans h0, (World.cell?_alloc_past _ _ _ bp).trans hp, (World.cell?_alloc_past _ _ _ bn).trans hn,
    (frozen?_alloc_cells _ _ _ _).trans f1, (frozen?_alloc_cells _ _ _ _).trans f3, (frozen?_alloc_cells _ _ _ _).trans f4, by simp; omega, by simp; omega, by simp; omega, np, nn⟩

theorem Adv.of_alloc {cb : Nat} {rW rL : Int} {w w' : World} {c : Array Value} {t : TypeId} (bc : cb < w.heap.size) (h : Adv cb rW rL (w.alloc (.cells c t)) w') : Adv cb rW rL w w' := by
  have hs : (w.alloc (.cells c t)).heap.size = w.heap.size + 1 := by simp
  exact ⟨((Q.refl cb w).alloc (by omega) _ _).trans h.q, fun b o hb hn => (h.old b o (by omega) hn).trans (World.cell?_alloc_past _ _ _ hb),
    fun o ho => (h.head o ho).trans (World.cell?_alloc_past _ _ _ bc), h.c3, h.c4⟩

theorem Adv.setCell {cb : Nat} {rW rL : Int} {w w' : World} (h : Adv cb rW rL w w') (bc : cb < w.heap.size) {n : Nat} (hn : w.heap.size ≤ n) (k : Nat) (v : Value) : Adv cb rW rL w (w'.setCell ⟨n, k, none⟩ v) := by
  refine ⟨h.q.setCell (by show cb ≤ n; omega) _, fun b o hb hn' => ?_, fun o ho => ?_, ?_, ?_⟩
  · rw [World.cell?_setCell_other _ ⟨n, k, none⟩ ⟨b, o, none⟩ _ (fun e => by cases e; omega)]; exact h.old b o hb hn'
  · rw [World.cell?_setCell_other _ ⟨n, k, none⟩ ⟨cb, o, none⟩ _ (fun e => by cases e; omega)]; exact h.head o ho
  · rw [World.cell?_setCell_other _ ⟨n, k, none⟩ ⟨cb, 3, none⟩ _ (fun e => by cases e; omega)]; exact h.c3
  · rw [World.cell?_setCell_other _ ⟨n, k, none⟩ ⟨cb, 4, none⟩ _ (fun e => by cases e; omega)]; exact h.c4

theorem IsClock.adv {cb pb nb : Nat} {pt rW rL : Int} {w w' : World} (C : IsClock cb pb nb pt w) (A : Adv cb rW rL w w') : IsClock cb pb nb pt w' := by
  obtain ⟨h0, hp, hn, f1, f3, f4, bc, bp, bn, np, nn⟩ := C
  have hs := A.q.size
  exact ⟨(A.head 0 (by omega)).trans h0, (A.old _ _ bp (by omega)).trans hp, (A.old _ _ bn (by omega)).trans hn, (A.q.2 _).trans f1, (A.q.2 _).trans f3, (A.q.2 _).trans f4, by omega, by omega, by omega, np, nn⟩

theorem cell_set {w : World} {b o n k : Nat} {v u : Value} (hn : b ≠ n) (h : w.cell? ⟨b, o, none⟩ = some v) : (w.setCell ⟨n, k, none⟩ u).cell? ⟨b, o, none⟩ = some v := by
  rw [World.cell?_setCell_other _ ⟨n, k, none⟩ ⟨b, o, none⟩ _ (fun e => hn (by cases e; rfl))]; exact h

theorem size_set (w : World) (a : Addr) (v : Value) : (w.setCell a v).heap.size = w.heap.size := by simp [World.setCell]

theorem IsClock.setCell {cb pb nb n k : Nat} {pt : Int} {w : World} {v : Value} (C : IsClock cb pb nb pt w) (h1 : cb ≠ n) (h2 : pb ≠ n) (h3 : nb ≠ n) : IsClock cb pb nb pt (w.setCell ⟨n, k, none⟩ v) := by
  obtain ⟨h0, hp, hn, f1, f3, f4, bc, bp, bn, np, nn⟩ := C
  exact ⟨cell_set h1 h0, cell_set h2 hp, cell_set h3 hn, (World.frozen?_setCell _ _ _ _).trans f1, (World.frozen?_setCell _ _ _ _).trans f3, (World.frozen?_setCell _ _ _ _).trans f4, by rw [size_set]; exact bc, by rw [size_set]; exact bp, by rw [size_set]; exact bn, np, nn⟩

theorem past1 {w : World} {b o : Nat} {c : Array Value} {t : TypeId} {v : Value} (hb : b < w.heap.size) (h : w.cell? ⟨b, o, none⟩ = some v) : (w.alloc (.cells c t)).cell? ⟨b, o, none⟩ = some v :=
  (World.cell?_alloc_past _ _ _ hb).trans h

set_option maxHeartbeats 400000 in
theorem zzadv (cb pb nb : Nat) (pt fW fL : Int) (l0 l1 : Value) (w : World) (C : IsClock cb pb nb pt w) (h3 : w.cell? ⟨cb, 3, none⟩ = some l0) (h4 : w.cell? ⟨cb, 4, none⟩ = some l1)
    (b0 : -9223372036854775808 ≤ fW) (b1 : fW ≤ 9223372036854775807) (b2 : 0 ≤ fL) (b3 : fL ≤ 4294967295) (hno : ¬ (fW = 9223372036854775807 ∧ fL = 4294967295)) :
    Calls Try.prog 20 #[.pointer (some ⟨cb, 0, none⟩), .agg #[.int .i64 fW, .int .u32 fL]] w fun e w' => e = .returned (.agg #[.int .i64 (advW pt fW fL), .int .u32 (advL pt fW fL)]) ∧ Adv cb (advW pt fW fL) (advL pt fW fL) w w' := by
  have bc := C.bc
  have H := hide hno
  clear hno
  go_enter Try.func20, Try.ntmps20
  go_wp2_with fail
  refine (adv_any cb pb nb pt fW fL l0 l1 _ ((C.alloc _ _).alloc _ _) (past1 (by simp; omega) (past1 bc h3)) (past1 (by simp; omega) (past1 bc h4)) b0 b1 b2 b3 (unhide H)).mono ?_
  rintro e w1 ⟨rfl, hA⟩
  have k0 : w1.cell? ⟨w.heap.size + 1, 0, none⟩ = some (.int .i64 0) := by rw [hA.old _ _ (by simp) (by omega)]; simp [go_sem]
  have k1 : w1.cell? ⟨w.heap.size + 1, 1, none⟩ = some (.int .u32 0) := by rw [hA.old _ _ (by simp) (by omega)]; simp [go_sem]
  have g0 : w1.frozen? ⟨w.heap.size + 1, 0, none⟩ = false := by rw [hA.q.2]; simp [go_sem]
  have g1 : w1.frozen? ⟨w.heap.size + 1, 1, none⟩ = false := by rw [hA.q.2]; simp [go_sem]
  have HA := hide hA
  clear hA
  go_wp2
  simp [bodyPost, results, Try.results20, go_sem, k0, k1]
  exact (((unhide HA).of_alloc (by simp; omega)).of_alloc bc |>.setCell bc (n := w.heap.size + 1) (by omega) _ _).setCell bc (n := w.heap.size + 1) (by omega) _ _
end Go.Proofs.Qxb6615029a
