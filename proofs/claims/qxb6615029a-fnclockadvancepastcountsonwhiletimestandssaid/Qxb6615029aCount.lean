/-
  FnClockAdvancePastCountsOnWhileTimeStands: THE WALK. By an AI agent.
-/
import Derived.Test.Qxb6615029aAdv
namespace Go.Proofs.Qxb6615029a
open Go.RowKit
set_option linter.unusedVariables false

/-! ### The plain law -/
/-- The k-th timestamp behind the base (bW, bL). -/
def seqW (bW bL : Int) (k : Nat) : Int := bW + (bL + k) / 4294967296
def seqL (bL : Int) (k : Nat) : Int := (bL + k) % 4294967296

theorem seq_step (pt bW bL : Int) (k : Nat) (h0 : 0 ≤ bL) (h1 : bL ≤ 4294967295) (hp : pt ≤ seqW bW bL k) :
    advW pt (seqW bW bL k) (seqL bL k) = seqW bW bL (k + 1) ∧ advL pt (seqW bW bL k) (seqL bL k) = seqL bL (k + 1) := by
  unfold advW advL
  rw [if_neg (Int.not_lt.2 hp)]
  rw [if_neg (Int.not_lt.2 hp)]
  unfold seqW seqL at *
  split <;> constructor <;> omega

/-- What is asked of the timestamp 'cur' and of the base: the next answer is the k-th behind the base. -/
structure Runs (pt bW bL cW cL : Int) (k : Nat) : Prop where
  aW : advW pt cW cL = seqW bW bL k
  aL : advL pt cW cL = seqL bL k
  b0 : -9223372036854775808 ≤ cW
  b1 : cW ≤ 9223372036854775807
  b2 : 0 ≤ cL
  b3 : cL ≤ 4294967295
  no : ¬ (cW = 9223372036854775807 ∧ cL = 4294967295)

/-- The base: below the greatest wall time, and physical time not beyond the first answer. -/
structure Base (pt bW bL : Int) : Prop where
  b0 : -9223372036854775808 ≤ bW
  b1 : bW < 9223372036854775807
  b2 : 0 ≤ bL
  b3 : bL ≤ 4294967295
  p : pt ≤ seqW bW bL 1

theorem seqW_mono {bW bL : Int} {j k : Nat} (h : j ≤ k) : seqW bW bL j ≤ seqW bW bL k := by unfold seqW; omega

theorem runs_step {pt bW bL : Int} {k : Nat} (B : Base pt bW bL) (h1 : 1 ≤ k) (h2 : k ≤ 65536) : Runs pt bW bL (seqW bW bL k) (seqL bL k) (k + 1) := by
  obtain ⟨b0, b1, b2, b3, p⟩ := B
  obtain ⟨e1, e2⟩ := seq_step pt bW bL k b2 b3 (Int.le_trans p (seqW_mono h1))
  refine ⟨e1, e2, ?_, ?_, ?_, ?_, ?_⟩ <;> clear e1 e2 p <;> (try unfold seqW) <;> (try unfold seqL) <;> omega

theorem runs_first_new {pt fW fL : Int} (hlt : fW < pt) (a0 : -9223372036854775808 ≤ fW) (a1 : pt ≤ 9223372036854775807) (a2 : 0 ≤ fL) (a3 : fL ≤ 4294967295) :
    Base pt (pt - 1) 4294967295 ∧ Runs pt (pt - 1) 4294967295 fW fL 1 := by
  refine ⟨⟨by omega, by omega, by omega, by omega, by unfold seqW; omega⟩, ⟨?_, ?_, by omega, by omega, by omega, by omega, by omega⟩⟩
  · unfold advW seqW; rw [if_pos hlt]; omega
  · unfold advL seqL; rw [if_pos hlt]; omega

theorem runs_first_old {pt fW fL : Int} (hle : pt ≤ fW) (a0 : -9223372036854775808 ≤ fW) (a1 : fW < 9223372036854775807) (a2 : 0 ≤ fL) (a3 : fL ≤ 4294967295) :
    Base pt fW fL ∧ Runs pt fW fL fW fL 1 := by
  have e0 : seqW fW fL 0 = fW := by unfold seqW; omega
  have l0 : seqL fL 0 = fL := by unfold seqL; omega
  obtain ⟨e1, e2⟩ := seq_step pt fW fL 0 a2 a3 (by rw [e0]; exact hle)
  rw [e0, l0] at e1 e2
  exact ⟨⟨a0, a1, a2, a3, by have := seqW_mono (bW := fW) (bL := fL) (Nat.zero_le 1); omega⟩, ⟨e1, e2, a0, by omega, a2, a3, by omega⟩⟩

/-- The world at a round's head. n: the heap's size as the call began. -/
structure Rnd (w wr : World) (pt bW bL cW cL : Int) : Prop where
  q : Q w.heap.size w wr
  C : IsClock (w.heap.size + 1 + 1 + 1) (w.heap.size + 1 + 1) (w.heap.size + 1) pt wr
  s : w.heap.size + 1 + 1 + 1 + 1 + 1 < wr.heap.size
  l : ∃ l0 l1, wr.cell? ⟨w.heap.size + 1 + 1 + 1, 3, none⟩ = some l0 ∧ wr.cell? ⟨w.heap.size + 1 + 1 + 1, 4, none⟩ = some l1
  v0 : wr.cell? ⟨w.heap.size + 1 + 1 + 1 + 1, 0, none⟩ = some (.int .i64 bW)
  v1 : wr.cell? ⟨w.heap.size + 1 + 1 + 1 + 1, 1, none⟩ = some (.int .u32 bL)
  u0 : wr.cell? ⟨w.heap.size + 1 + 1 + 1 + 1 + 1, 0, none⟩ = some (.int .i64 cW)
  u1 : wr.cell? ⟨w.heap.size + 1 + 1 + 1 + 1 + 1, 1, none⟩ = some (.int .u32 cL)
  g0 : wr.frozen? ⟨w.heap.size + 1 + 1 + 1 + 1 + 1, 0, none⟩ = false
  g1 : wr.frozen? ⟨w.heap.size + 1 + 1 + 1 + 1 + 1, 1, none⟩ = false

theorem rnd_step {w wr w1 : World} {pt bW bL cW cL rW rL : Int} (H : Rnd w wr pt bW bL cW cL) (A : Adv (w.heap.size + 1 + 1 + 1) rW rL wr w1) (c1 c2 : Array Value) :
    Rnd w ((((w1.setCell ⟨w.heap.size + 1 + 1 + 1 + 1 + 1, 0, none⟩ (.int .i64 rW)).setCell ⟨w.heap.size + 1 + 1 + 1 + 1 + 1, 1, none⟩ (.int .u32 rL)).alloc (.cells c1 24)).alloc (.cells c2 24)) pt bW bL rW rL := by
  obtain ⟨q, C, s, _, v0, v1, u0, u1, g0, g1⟩ := H
  have hs := A.q.size
  have z : ((w1.setCell ⟨w.heap.size + 1 + 1 + 1 + 1 + 1, 0, none⟩ (.int .i64 rW)).setCell ⟨w.heap.size + 1 + 1 + 1 + 1 + 1, 1, none⟩ (.int .u32 rL)).heap.size = w1.heap.size := by rw [size_set, size_set]
  have up : ∀ {b o : Nat} {v : Value}, b < w1.heap.size → ((w1.setCell ⟨w.heap.size + 1 + 1 + 1 + 1 + 1, 0, none⟩ (.int .i64 rW)).setCell ⟨w.heap.size + 1 + 1 + 1 + 1 + 1, 1, none⟩ (.int .u32 rL)).cell? ⟨b, o, none⟩ = some v →
      ((((w1.setCell ⟨w.heap.size + 1 + 1 + 1 + 1 + 1, 0, none⟩ (.int .i64 rW)).setCell ⟨w.heap.size + 1 + 1 + 1 + 1 + 1, 1, none⟩ (.int .u32 rL)).alloc (.cells c1 24)).alloc (.cells c2 24)).cell? ⟨b, o, none⟩ = some v :=
    fun hb h => past1 (by simp [z]; omega) (past1 (by rw [z]; exact hb) h)
  refine ⟨?_, ?_, ?_, ⟨.int .i64 rW, .int .u32 rL, ?_, ?_⟩, ?_, ?_, ?_, ?_, ?_, ?_⟩
  · refine q.trans (((((A.q.mono (by omega)).setCell (p := ⟨w.heap.size + 1 + 1 + 1 + 1 + 1, 0, none⟩) (by show w.heap.size ≤ w.heap.size + 1 + 1 + 1 + 1 + 1; omega) _).setCell (p := ⟨w.heap.size + 1 + 1 + 1 + 1 + 1, 1, none⟩) (by show w.heap.size ≤ w.heap.size + 1 + 1 + 1 + 1 + 1; omega) _).alloc (by rw [z]; omega) _ _).alloc (by simp [z]; omega) _ _)
  · exact ((((C.adv A).setCell (by omega) (by omega) (by omega)).setCell (by omega) (by omega) (by omega)).alloc _ _).alloc _ _
  · simp [z]; omega
  · exact up (by omega) (cell_set (by omega) (cell_set (by omega) A.c3))
  · exact up (by omega) (cell_set (by omega) (cell_set (by omega) A.c4))
  · exact up (by omega) (cell_set (by omega) (cell_set (by omega) ((A.old _ _ (by omega) (by omega)).trans v0)))
  · exact up (by omega) (cell_set (by omega) (cell_set (by omega) ((A.old _ _ (by omega) (by omega)).trans v1)))
  · exact up (by omega) ((World.cell?_setCell_other _ ⟨_, 1, none⟩ ⟨_, 0, none⟩ _ (by simp)).trans (World.cell?_setCell_same _ _ _ ((A.old _ _ (by omega) (by omega)).trans u0)))
  · exact up (by omega) (World.cell?_setCell_same _ _ _ ((World.cell?_setCell_other _ ⟨_, 0, none⟩ ⟨_, 1, none⟩ _ (by simp)).trans ((A.old _ _ (by omega) (by omega)).trans u1)))
  · rw [frozen?_alloc_cells, frozen?_alloc_cells, World.frozen?_setCell, World.frozen?_setCell, A.q.2]; exact g0
  · rw [frozen?_alloc_cells, frozen?_alloc_cells, World.frozen?_setCell, World.frozen?_setCell, A.q.2]; exact g1

theorem rooms {w w1 : World} (h : w.heap.size + 1 + 1 + 1 + 1 + 1 < w1.heap.size) : w.heap.size + 1 + 1 + 1 + 1 < w1.heap.size ∧ w.heap.size + 1 + 1 + 1 + 1 + 1 < w1.heap.size ∧ w.heap.size + 1 + 1 + 1 + 1 < w1.heap.size + 1 ∧ w.heap.size + 1 + 1 + 1 + 1 + 1 < w1.heap.size + 1 := by omega

set_option maxHeartbeats 1000000 in
theorem count_old (pt fW fL n : Int) (w : World) (hn1 : 1 ≤ n) (hn2 : n ≤ 65536) (hle : pt ≤ fW) (a0 : -9223372036854775808 ≤ pt) (a1 : fW < 9223372036854775807) (a2 : 0 ≤ fL) (a3 : fL ≤ 4294967295) :
    Calls Try.prog 9 #[.int .i64 pt, .int .i64 fW, .int .u32 fL, .int .i64 n] w fun e w' => e = .returned (.bool true) ∧ Grown w w' := by
  have t1 : decide (n < 1) = false := by simp; omega
  have t2 : decide (65536 < n) = false := by simp; omega
  have t3 : (fW == 9223372036854775807) = false := by simp; omega
  have t4 : decide (fW < pt) = false := by simp; omega
  go_enter Try.func9, Try.ntmps9
  go_wp2_with (go_at_call 15; refine (mk_any _ _).mono ?_; rintro e w' ⟨rfl, rfl⟩)
  go_loopw [14] (fun i wr => ∃ (k : Nat) (cW cL : Int), 1 ≤ k ∧ (k : Int) ≤ n + 1 ∧ i = .int .i64 k ∧ Runs pt fW fL cW cL k ∧ Rnd w wr pt fW fL cW cL) (fun i _ => (n + 1 - intOf i).toNat)
  case atStart =>
    refine ⟨1, fW, fL, by omega, by omega, rfl, (runs_first_old hle (by omega) a1 a2 a3).2, ?_⟩
    refine ⟨?_, ⟨?_, ?_, ?_, ?_, ?_, ?_, ?_, ?_, ?_, ?_, ?_⟩, ?_, ⟨.int .i64 0, .int .u32 0, ?_, ?_⟩, ?_, ?_, ?_, ?_, ?_, ?_⟩
    · exact ((((((Q.refl _ w).alloc (Nat.le_refl _) _ _).alloc (by simp) _ _).alloc (by simp; omega) _ _).alloc (by simp; omega) _ _).alloc (by simp; omega) _ _).alloc (by simp; omega) _ _
    all_goals first | omega | (simp [go_sem]; done) | (simp [go_sem]; omega)
  case round =>
    obtain ⟨k, cW, cL, hk1, hk2, rfl, hR, hW⟩ := hrel
    by_cases hlt : (k : Int) ≤ n
    · have HW := hide hW
      obtain ⟨q, C, s, ⟨l0, l1, l3, l4⟩, v0, v1, u0, u1, g0, g1⟩ := hW
      have hcall := zzadv (w.heap.size + 1 + 1 + 1) (w.heap.size + 1 + 1) (w.heap.size + 1) pt cW cL l0 l1 wr C l3 l4 hR.b0 hR.b1 hR.b2 hR.b3 hR.no
      rw [hR.aW, hR.aL] at hcall
      have HC := hide hcall
      clear hcall hR q C l3 l4 t1 t2 t3 t4
      go_wp2_with fail
      refine (unhide HC).mono ?_
      rintro e w1 ⟨rfl, hA⟩
      have k0 := (hA.old _ 0 (by omega) (by omega)).trans v0
      have k1 := (hA.old _ 1 (by omega) (by omega)).trans v1
      have k2 := (hA.old _ 0 (by omega) (by omega)).trans u0
      have k3 := (hA.old _ 1 (by omega) (by omega)).trans u1
      have m0 := (hA.q.2 _).trans g0
      have m1 := (hA.q.2 _).trans g1
      have s1 := hA.q.size
      obtain ⟨s2, s3, s4, s5⟩ := rooms (w := w) (w1 := w1) (by omega)
      have HA := hide hA
      clear hA HC v0 v1 u0 u1 g0 g1 s1
      go_wp2
      exact ⟨⟨k + 1, seqW fW fL k, seqL fL k, by omega, by omega, by go_num, runs_step (runs_first_old hle (by omega) a1 a2 a3).1 hk1 (by omega), rnd_step (unhide HW) (unhide HA) _ _⟩, by simp [intOf]; omega⟩
    · go_wp2
      go_ret
      exact ⟨rfl, hW.q.grown⟩
set_option maxHeartbeats 1000000 in
theorem count_new (pt fW fL n : Int) (w : World) (hn1 : 1 ≤ n) (hn2 : n ≤ 65536) (hlp : fW < pt) (a0 : -9223372036854775808 ≤ fW) (a1 : pt ≤ 9223372036854775807) (a2 : 0 ≤ fL) (a3 : fL ≤ 4294967295) :
    Calls Try.prog 9 #[.int .i64 pt, .int .i64 fW, .int .u32 fL, .int .i64 n] w fun e w' => e = .returned (.bool true) ∧ Grown w w' := by
  have t1 : decide (n < 1) = false := by simp; omega
  have t2 : decide (65536 < n) = false := by simp; omega
  have t3 : (fW == 9223372036854775807) = false := by simp; omega
  have t4 : decide (fW < pt) = true := by simp; omega
  go_enter Try.func9, Try.ntmps9
  go_wp2_with (go_at_call 15; refine (mk_any _ _).mono ?_; rintro e w' ⟨rfl, rfl⟩)
  go_loopw [14] (fun i wr => ∃ (k : Nat) (cW cL : Int), 1 ≤ k ∧ (k : Int) ≤ n + 1 ∧ i = .int .i64 k ∧ Runs pt (pt - 1) 4294967295 cW cL k ∧ Rnd w wr pt (pt - 1) 4294967295 cW cL) (fun i _ => (n + 1 - intOf i).toNat)
  case atStart =>
    refine ⟨1, fW, fL, by omega, by omega, rfl, (runs_first_new hlp a0 a1 a2 a3).2, ?_⟩
    refine ⟨?_, ⟨?_, ?_, ?_, ?_, ?_, ?_, ?_, ?_, ?_, ?_, ?_⟩, ?_, ⟨.int .i64 0, .int .u32 0, ?_, ?_⟩, ?_, ?_, ?_, ?_, ?_, ?_⟩
    · exact ((((((Q.refl _ w).alloc (Nat.le_refl _) _ _).alloc (by simp) _ _).alloc (by simp; omega) _ _).alloc (by simp; omega) _ _).alloc (by simp; omega) _ _).alloc (by simp; omega) _ _
    all_goals first | omega | (simp [go_sem]; done) | (simp [go_sem]; omega)
  case round =>
    obtain ⟨k, cW, cL, hk1, hk2, rfl, hR, hW⟩ := hrel
    by_cases hlt : (k : Int) ≤ n
    · have HW := hide hW
      obtain ⟨q, C, s, ⟨l0, l1, l3, l4⟩, v0, v1, u0, u1, g0, g1⟩ := hW
      have hcall := zzadv (w.heap.size + 1 + 1 + 1) (w.heap.size + 1 + 1) (w.heap.size + 1) pt cW cL l0 l1 wr C l3 l4 hR.b0 hR.b1 hR.b2 hR.b3 hR.no
      rw [hR.aW, hR.aL] at hcall
      have HC := hide hcall
      clear hcall hR q C l3 l4 t1 t2 t3 t4
      go_wp2_with fail
      refine (unhide HC).mono ?_
      rintro e w1 ⟨rfl, hA⟩
      have k0 := (hA.old _ 0 (by omega) (by omega)).trans v0
      have k1 := (hA.old _ 1 (by omega) (by omega)).trans v1
      have k2 := (hA.old _ 0 (by omega) (by omega)).trans u0
      have k3 := (hA.old _ 1 (by omega) (by omega)).trans u1
      have m0 := (hA.q.2 _).trans g0
      have m1 := (hA.q.2 _).trans g1
      have s1 := hA.q.size
      obtain ⟨s2, s3, s4, s5⟩ := rooms (w := w) (w1 := w1) (by omega)
      have HA := hide hA
      clear hA HC v0 v1 u0 u1 g0 g1 s1
      go_wp2
      exact ⟨⟨k + 1, seqW (pt - 1) 4294967295 k, seqL 4294967295 k, by omega, by omega, by go_num, runs_step (runs_first_new hlp a0 a1 a2 a3).1 hk1 (by omega), rnd_step (unhide HW) (unhide HA) _ _⟩, by simp [intOf]; omega⟩
    · go_wp2
      go_ret
      exact ⟨rfl, hW.q.grown⟩
end Go.Proofs.Qxb6615029a
