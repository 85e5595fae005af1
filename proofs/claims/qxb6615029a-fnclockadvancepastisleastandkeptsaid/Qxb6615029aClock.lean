/-
  THE CLOCK's CONTRACTS. By an AI agent.
-/
import Derived.Test.Qxb6615029aLeaf
namespace Go.Proofs.Qxb6615029a
open Go.RowKit
set_option linter.unusedVariables false

set_option maxHeartbeats 400000 in
/-- ZZNewClockReadingB1: the clock's block lies behind the box that holds the pointer to 'now'. -/
theorem mk_any (nb : Nat) (w : World) :
    Calls Try.prog 15 #[.pointer (some ⟨nb, 0, none⟩)] w fun e w' => e = .returned (.pointer (some ⟨w.heap.size + 1, 0, none⟩)) ∧
      w' = (w.alloc (.cells #[.pointer (some ⟨nb, 0, none⟩)] 34)).alloc (.cells #[.func (.func 25) #[] #[.pointer (some ⟨w.heap.size, 0, none⟩)], .int .i32 0, .int .u32 0, .int .i64 0, .int .u32 0] 57) := by
  have hmf : ∀ (fn : Fn) (first cap : Array Value) (w : World), (Instr.makeFunc fn first cap).run Try.prog w = .ok (.func fn first cap) w := fun _ _ _ _ => rfl
  go_enter Try.func15, Try.ntmps15
  go_wp2
  go_ret
  exact ⟨rfl, rfl⟩

/-- What advancePast answers. -/
def advW (pt fW fL : Int) : Int := if fW < pt then pt else if fL = 4294967295 then fW + 1 else fW
def advL (pt fW fL : Int) : Int := if fW < pt then 0 else if fL = 4294967295 then 0 else fL + 1

/-- A clock at block cb that reads the number at block nb through the box at pb. -/
structure IsClock (cb pb nb : Nat) (pt : Int) (w : World) : Prop where
  h0 : w.cell? ⟨cb, 0, none⟩ = some (.func (.func 25) #[] #[.pointer (some ⟨pb, 0, none⟩)])
  hp : w.cell? ⟨pb, 0, none⟩ = some (.pointer (some ⟨nb, 0, none⟩))
  hn : w.cell? ⟨nb, 0, none⟩ = some (.int .i64 pt)
  f1 : w.frozen? ⟨cb, 1, none⟩ = false
  f3 : w.frozen? ⟨cb, 3, none⟩ = false
  f4 : w.frozen? ⟨cb, 4, none⟩ = false
  bc : cb < w.heap.size
  bp : pb < w.heap.size
  bn : nb < w.heap.size
  np : cb ≠ pb
  nn : cb ≠ nb

/-- What a call that sets the clock's 'last' leaves of the world. -/
structure Adv (cb : Nat) (rW rL : Int) (w w' : World) : Prop where
  q : Q cb w w'
  old : ∀ b o, b < w.heap.size → b ≠ cb → w'.cell? ⟨b, o, none⟩ = w.cell? ⟨b, o, none⟩
  head : ∀ o, o < 3 → w'.cell? ⟨cb, o, none⟩ = w.cell? ⟨cb, o, none⟩
  c3 : w'.cell? ⟨cb, 3, none⟩ = some (.int .i64 rW)
  c4 : w'.cell? ⟨cb, 4, none⟩ = some (.int .u32 rL)

theorem Adv.alloc {cb : Nat} {rW rL : Int} {w w' : World} (h : Adv cb rW rL w w') (hb : cb < w.heap.size) (c : Array Value) (t : TypeId) : Adv cb rW rL w (w'.alloc (.cells c t)) := by
  have hs := h.q.size
  exact ⟨h.q.alloc (by omega) _ _, fun b o hb' hn => (World.cell?_alloc_past _ _ _ (by show b < _; omega)).trans (h.old b o hb' hn),
    fun o ho => (World.cell?_alloc_past _ _ _ (by show cb < _; omega)).trans (h.head o ho), (World.cell?_alloc_past _ _ _ (by show cb < _; omega)).trans h.c3, (World.cell?_alloc_past _ _ _ (by show cb < _; omega)).trans h.c4⟩

theorem Adv.mk0 {cb : Nat} (rW rL : Int) {l0 l1 : Value} {w : World} (h3 : w.cell? ⟨cb, 3, none⟩ = some l0) (h4 : w.cell? ⟨cb, 4, none⟩ = some l1) :
    Adv cb rW rL w ((w.setCell ⟨cb, 3, none⟩ (.int .i64 rW)).setCell ⟨cb, 4, none⟩ (.int .u32 rL)) := by
  refine ⟨((Q.refl cb w).setCell (p := ⟨cb, 3, none⟩) (Nat.le_refl _) _).setCell (p := ⟨cb, 4, none⟩) (Nat.le_refl _) _, fun b o hb hn => ?_, fun o ho => ?_, ?_, ?_⟩
  · rw [World.cell?_setCell_other _ ⟨cb, 4, none⟩ ⟨b, o, none⟩ _ (fun e => hn (by cases e; rfl)), World.cell?_setCell_other _ ⟨cb, 3, none⟩ ⟨b, o, none⟩ _ (fun e => hn (by cases e; rfl))]
  · rw [World.cell?_setCell_other _ ⟨cb, 4, none⟩ ⟨cb, o, none⟩ _ (fun e => by cases e; omega), World.cell?_setCell_other _ ⟨cb, 3, none⟩ ⟨cb, o, none⟩ _ (fun e => by cases e; omega)]
  · rw [World.cell?_setCell_other _ ⟨cb, 4, none⟩ ⟨cb, 3, none⟩ _ (by simp)]; exact World.cell?_setCell_same _ _ _ h3
  · exact World.cell?_setCell_same _ _ _ ((World.cell?_setCell_other _ ⟨cb, 3, none⟩ ⟨cb, 4, none⟩ _ (by simp)).trans h4)

/-- The call's own arithmetic on block numbers, laid ahead of a walk. -/
theorem lts {b n : Nat} (h : b < n) : b < n + 1 ∧ b < n + 1 + 1 ∧ b < n + 1 + 1 + 1 ∧ b < n + 1 + 1 + 1 + 1 := by omega

set_option maxHeartbeats 400000 in
theorem adv_new (cb pb nb : Nat) (pt fW fL : Int) (l0 l1 : Value) (w : World) (hlt : fW < pt) (C : IsClock cb pb nb pt w) (h3 : w.cell? ⟨cb, 3, none⟩ = some l0) (h4 : w.cell? ⟨cb, 4, none⟩ = some l1) :
    Calls Try.prog 28 #[.pointer (some ⟨cb, 0, none⟩), .agg #[.int .i64 fW, .int .u32 fL]] w fun e w' => e = .returned (.agg #[.int .i64 pt, .int .u32 0]) ∧
      ∃ c1 c2, w' = (((w.setCell ⟨cb, 3, none⟩ (.int .i64 pt)).setCell ⟨cb, 4, none⟩ (.int .u32 0)).alloc (.cells c1 24)).alloc (.cells c2 24) := by
  obtain ⟨h0, hp, hn, f1, f3, f4, bc, bp, bn, np, nn⟩ := C
  obtain ⟨bc1, bc2, bc3, bc4⟩ := lts bc
  obtain ⟨bp1, bp2, _, _⟩ := lts bp
  obtain ⟨bn1, bn2, _, _⟩ := lts bn
  go_enter Try.func28, Try.ntmps28
  go_wp2
  simp [bodyPost, results, Try.results28, go_sem]
  exact ⟨_, _, rfl⟩

set_option maxHeartbeats 400000 in
theorem adv_full (cb pb nb : Nat) (pt fW : Int) (l0 l1 : Value) (w : World) (hle : pt ≤ fW) (b0 : -9223372036854775808 ≤ fW) (b1 : fW < 9223372036854775807) (C : IsClock cb pb nb pt w) (h3 : w.cell? ⟨cb, 3, none⟩ = some l0) (h4 : w.cell? ⟨cb, 4, none⟩ = some l1) :
    Calls Try.prog 28 #[.pointer (some ⟨cb, 0, none⟩), .agg #[.int .i64 fW, .int .u32 4294967295]] w fun e w' => e = .returned (.agg #[.int .i64 (fW + 1), .int .u32 0]) ∧
      ∃ c1 c2 c3 c4, w' = (((((w.setCell ⟨cb, 3, none⟩ (.int .i64 (fW + 1))).setCell ⟨cb, 4, none⟩ (.int .u32 0)).alloc (.cells c1 24)).alloc (.cells c2 24)).alloc (.cells c3 24)).alloc (.cells c4 24) := by
  obtain ⟨h0, hp, hn, f1, f3, f4, bc, bp, bn, np, nn⟩ := C
  obtain ⟨bc1, bc2, bc3, bc4⟩ := lts bc
  obtain ⟨bp1, bp2, _, _⟩ := lts bp
  obtain ⟨bn1, bn2, _, _⟩ := lts bn
  go_enter Try.func28, Try.ntmps28
  go_wp2_with (first | (go_at_call 12; refine (next_full fW b0 b1 _).mono ?_; rintro e w' ⟨rfl, c1, c2, rfl⟩) | (go_at_call 25; go_in))
  simp [bodyPost, results, Try.results28, go_sem]
  exact ⟨_, _, _, _, rfl⟩

set_option maxHeartbeats 400000 in
theorem adv_more (cb pb nb : Nat) (pt fW fL : Int) (l0 l1 : Value) (w : World) (hle : pt ≤ fW) (b0 : 0 ≤ fL) (b1 : fL < 4294967295) (C : IsClock cb pb nb pt w) (h3 : w.cell? ⟨cb, 3, none⟩ = some l0) (h4 : w.cell? ⟨cb, 4, none⟩ = some l1) :
    Calls Try.prog 28 #[.pointer (some ⟨cb, 0, none⟩), .agg #[.int .i64 fW, .int .u32 fL]] w fun e w' => e = .returned (.agg #[.int .i64 fW, .int .u32 (fL + 1)]) ∧
      ∃ c1 c2 c3 c4, w' = (((((w.setCell ⟨cb, 3, none⟩ (.int .i64 fW)).setCell ⟨cb, 4, none⟩ (.int .u32 (fL + 1))).alloc (.cells c1 24)).alloc (.cells c2 24)).alloc (.cells c3 24)).alloc (.cells c4 24) := by
  obtain ⟨h0, hp, hn, f1, f3, f4, bc, bp, bn, np, nn⟩ := C
  obtain ⟨bc1, bc2, bc3, bc4⟩ := lts bc
  obtain ⟨bp1, bp2, _, _⟩ := lts bp
  obtain ⟨bn1, bn2, _, _⟩ := lts bn
  go_enter Try.func28, Try.ntmps28
  go_wp2_with (first | (go_at_call 12; refine (next_more fW fL b0 b1 _).mono ?_; rintro e w' ⟨rfl, c1, c2, rfl⟩) | (go_at_call 25; go_in))
  simp [bodyPost, results, Try.results28, go_sem]
  exact ⟨_, _, _, _, rfl⟩

/-- advancePast, in one. -/
theorem adv_any (cb pb nb : Nat) (pt fW fL : Int) (l0 l1 : Value) (w : World) (C : IsClock cb pb nb pt w) (h3 : w.cell? ⟨cb, 3, none⟩ = some l0) (h4 : w.cell? ⟨cb, 4, none⟩ = some l1)
    (b0 : -9223372036854775808 ≤ fW) (b1 : fW ≤ 9223372036854775807) (b2 : 0 ≤ fL) (b3 : fL ≤ 4294967295) (hno : ¬ (fW = 9223372036854775807 ∧ fL = 4294967295)) :
    Calls Try.prog 28 #[.pointer (some ⟨cb, 0, none⟩), .agg #[.int .i64 fW, .int .u32 fL]] w fun e w' => e = .returned (.agg #[.int .i64 (advW pt fW fL), .int .u32 (advL pt fW fL)]) ∧ Adv cb (advW pt fW fL) (advL pt fW fL) w w' := by
  have bc := C.bc
  by_cases hlt : fW < pt
  · have e1 : advW pt fW fL = pt := by simp [advW, hlt]
    have e2 : advL pt fW fL = 0 := by simp [advL, hlt]
    rw [e1, e2]
    refine (adv_new cb pb nb pt fW fL l0 l1 w hlt C h3 h4).mono ?_
    rintro e w' ⟨rfl, c1, c2, rfl⟩
    exact ⟨rfl, ((Adv.mk0 _ _ h3 h4).alloc bc _ _).alloc bc _ _⟩
  · by_cases hf : fL = 4294967295
    · have e1 : advW pt fW fL = fW + 1 := by simp [advW, hlt, hf]
      have e2 : advL pt fW fL = 0 := by simp [advL, hlt, hf]
      rw [e1, e2]
      subst hf
      refine (adv_full cb pb nb pt fW l0 l1 w (by omega) b0 (by omega) C h3 h4).mono ?_
      rintro e w' ⟨rfl, c1, c2, c3, c4, rfl⟩
      exact ⟨rfl, ((((Adv.mk0 _ _ h3 h4).alloc bc _ _).alloc bc _ _).alloc bc _ _).alloc bc _ _⟩
    · have e1 : advW pt fW fL = fW := by simp [advW, hlt, hf]
      have e2 : advL pt fW fL = fL + 1 := by simp [advL, hlt, hf]
      rw [e1, e2]
      refine (adv_more cb pb nb pt fW fL l0 l1 w (by omega) b2 (by omega) C h3 h4).mono ?_
      rintro e w' ⟨rfl, c1, c2, c3, c4, rfl⟩
      exact ⟨rfl, ((((Adv.mk0 _ _ h3 h4).alloc bc _ _).alloc bc _ _).alloc bc _ _).alloc bc _ _⟩
end Go.Proofs.Qxb6615029a
