/-
  zzCloneKinds, zzSameKinds: the contracts. By an AI agent.
-/
import Derived.Test.Qxb6613226aBase
import Derived.RegionTactic
namespace Go.Proofs.Qxb6613226a
open Go.RowKit
set_option linter.unusedVariables false

set_option maxHeartbeats 400000 in
theorem clone_nil (w : World) : Calls Try.prog 6 #[.slice none 0 0] w fun e w' => e = .returned (.slice none 0 0) ∧ w = w' := by
  have hnil := fun w (a : Option Addr) n c => Lib.run_eql_slice_nil (P := Try.prog) w 22 51 a n c 0 0 Try.underlying22
  go_enter Try.func6, Try.ntmps6
  go_wp2
  go_ret
  exact ⟨rfl, rfl⟩

/-- The row as it is after k rounds. -/
def upto (f : Nat → Int) (k : Nat) (j : Nat) : Value := if j < k then .int .i64 (f j) else .int .i64 0

set_option maxHeartbeats 400000 in
theorem clone_any (b o len cap : Nat) (f : Nat → Int) (w : World) (hl : len ≤ 65536) (hb : b < w.heap.size) (hc : ∀ i, i < len → w.cell? ⟨b, o + i, none⟩ = some (.int .i64 (f i))) :
    Calls Try.prog 6 #[.slice (some ⟨b, o, none⟩) len cap] w fun e w' => e = .returned (.slice (some ⟨w.heap.size, 0, none⟩) len len) ∧ w'.rowIs w.heap.size 51 len (fun i => .int .i64 (f i)) ∧ Below w.heap.size w w' ∧ w'.heap.size = w.heap.size + 1 := by
  have hnil := fun w (a : Option Addr) n c => Lib.run_eql_slice_nil (P := Try.prog) w 22 51 a n c 0 0 Try.underlying22
  have hmk := run_make_row' (P := Try.prog) 22 51 (.int .i64 0) 8 Try.underlying22 info51 rfl .i64 .i64 len (by omega) (by omega)
  have HC := hide hc
  clear hc
  go_enter Try.func6, Try.ntmps6
  go_wp2
  go_loopw [4] (fun i wr => ∃ k : Nat, k ≤ len ∧ i = .int .i64 k ∧ wr.rowIs w.heap.size 51 len (upto f k) ∧ Below w.heap.size w wr ∧ wr.heap.size = w.heap.size + 1) (fun i _ => (len - intOf i).toNat)
  case atStart => exact ⟨0, by omega, rfl, (World.rowIs_made w (.int .i64 0) len 51).congr (fun i hi => by simp [upto]), (Below.refl _ _).alloc (Nat.le_refl _) _, by simp⟩
  case round =>
    obtain ⟨k, hk, rfl, hrow, hbel, hsz⟩ := hrel
    by_cases hlt : k < len
    · have x0 := (hbel.cell (p := ⟨b, o + k, none⟩) hb).trans (unhide HC k hlt)
      have x1 : wr.cell? ⟨w.heap.size, k, none⟩ = some (.int .i64 0) := by rw [hrow.cell hlt]; simp [upto]
      have x2 := hrow.frozen k
      have hlt' : (k : Int) < (len : Int) := by omega
      have HR := hide hrow
      have HB := hide hbel
      have HZ := hide hsz
      clear hrow hbel hsz HC hmk
      go_wp2
      refine ⟨⟨k + 1, by omega, by go_num, ?_, (unhide HB).setCell (p := ⟨w.heap.size, k, none⟩) (Nat.le_refl _) _, ?_⟩, by simp [intOf]; omega⟩
      · refine ((unhide HR).set k (.int .i64 (f k))).congr fun i hi => ?_
        unfold upto
        by_cases h1 : i = k
        · subst h1; simp
        · rw [if_neg h1]
          by_cases h2 : i < k
          · rw [if_pos h2, if_pos (by omega)]
          · rw [if_neg h2, if_neg (by omega)]
      · rw [← unhide HZ]; simp [World.setCell]
    · obtain rfl : k = len := by omega
      go_wp2
      go_ret
      exact ⟨rfl, hrow.congr (fun i hi => by simp [upto, hi]), hbel, hsz⟩

set_option maxHeartbeats 400000 in
theorem clone_zero (x : Addr) (cap : Nat) (w : World) :
    Calls Try.prog 6 #[.slice (some x) 0 cap] w fun e w' => e = .returned (.slice (some ⟨w.heap.size, 0, none⟩) 0 0) ∧ Below w.heap.size w w' ∧ w'.heap.size = w.heap.size + 1 := by
  have hnil := fun w (a : Option Addr) n c => Lib.run_eql_slice_nil (P := Try.prog) w 22 51 a n c 0 0 Try.underlying22
  have hmk : ∀ w, (Instr.makeSlice 22 (.int .i64 0) (.int .i64 0)).run Try.prog w = .ok (.slice (some ⟨w.heap.size, 0, none⟩) 0 0) (w.alloc (.cells (madeCells #[.int .i64 0] 0) 51)) :=
    fun w => run_make_row' (P := Try.prog) 22 51 (.int .i64 0) 8 Try.underlying22 info51 rfl .i64 .i64 0 (by omega) (by omega) w
  go_enter Try.func6, Try.ntmps6
  go_wp2
  go_loopw [4] (fun i wr => i = .int .i64 0 ∧ Below w.heap.size w wr ∧ wr.heap.size = w.heap.size + 1) (fun _ _ => 0)
  case atStart => exact ⟨rfl, (Below.refl _ _).alloc (Nat.le_refl _) _, by simp⟩
  case round =>
    obtain ⟨rfl, hbel, hsz⟩ := hrel
    go_wp2
    go_ret
    exact ⟨rfl, hbel, hsz⟩
end Go.Proofs.Qxb6613226a
