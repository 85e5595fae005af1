/-
  zzSameKinds, zzSameStrings, zzAlone, zzBytes: the contracts. By an AI agent.
-/
import Derived.Test.Qxb6613226aKinds
namespace Go.Proofs.Qxb6613226a
open Go.RowKit
set_option linter.unusedVariables false

set_option maxHeartbeats 400000 in
theorem kinds_nil (w : World) : Calls Try.prog 8 #[.slice none 0 0, .slice none 0 0] w fun e w' => e = .returned (.bool true) ∧ Below w.heap.size w w' := by
  have hnil := fun w (a : Option Addr) n c => Lib.run_eql_slice_nil (P := Try.prog) w 22 51 a n c 0 0 Try.underlying22
  go_enter Try.func8, Try.ntmps8
  go_wp2
  go_loopw [5] (fun i wr => i = .int .i64 0 ∧ Below w.heap.size w wr) (fun _ _ => 0)
  case atStart => exact ⟨rfl, Below.refl _ _⟩
  case round =>
    obtain ⟨rfl, hbel⟩ := hrel
    go_wp2
    go_ret
    exact ⟨rfl, hbel⟩

set_option maxHeartbeats 400000 in
theorem kinds_any (g1 g2 len c1 c2 : Nat) (f : Nat → Int) (w : World) (hl : len ≤ 65536) (r1 : ∀ i, i < len → w.cell? ⟨g1, i, none⟩ = some (.int .i64 (f i))) (r2 : ∀ i, i < len → w.cell? ⟨g2, i, none⟩ = some (.int .i64 (f i))) (b1 : g1 < w.heap.size) (b2 : g2 < w.heap.size) :
    Calls Try.prog 8 #[.slice (some ⟨g1, 0, none⟩) len c1, .slice (some ⟨g2, 0, none⟩) len c2] w fun e w' => e = .returned (.bool true) ∧ Below w.heap.size w w' := by
  have hnil := fun w (a : Option Addr) n c => Lib.run_eql_slice_nil (P := Try.prog) w 22 51 a n c 0 0 Try.underlying22
  have R1 := hide r1
  have R2 := hide r2
  clear r1 r2
  go_enter Try.func8, Try.ntmps8
  go_wp2
  go_loopw [5] (fun i wr => ∃ k : Nat, k ≤ len ∧ i = .int .i64 k ∧ Below w.heap.size w wr) (fun i _ => (len - intOf i).toNat)
  case atStart => exact ⟨0, by omega, rfl, Below.refl _ _⟩
  case round =>
    obtain ⟨k, hk, rfl, hbel⟩ := hrel
    by_cases hlt : k < len
    · have x1 := (hbel.cell (p := ⟨g1, k, none⟩) b1).trans (unhide R1 k hlt)
      have x2 := (hbel.cell (p := ⟨g2, k, none⟩) b2).trans (unhide R2 k hlt)
      have hlt' : (k : Int) < (len : Int) := by omega
      have HB := hide hbel
      clear R1 R2 hbel
      go_wp2
      go_region
      go_wp2
      exact ⟨⟨k + 1, by omega, by go_num, (unhide HB).drew⟩, by simp [intOf]; omega⟩
    · go_wp2
      go_ret
      exact ⟨rfl, hbel⟩

set_option maxHeartbeats 400000 in
theorem strs_nil (w : World) : Calls Try.prog 11 #[.slice none 0 0, .slice none 0 0] w fun e w' => e = .returned (.bool true) ∧ w = w' := by
  go_enter Try.func11, Try.ntmps11
  go_wp2
  go_loop [5] (fun i => i = .int .i64 0) (fun _ => 0)
  case atStart => rfl
  case round =>
    subst hrel
    go_wp2
    go_ret
    exact ⟨rfl, rfl⟩

set_option maxHeartbeats 400000 in
theorem strs_one (g1 g2 : Nat) (s : ByteArray) (w : World) (r1 : w.cell? ⟨g1, 0, none⟩ = some (.string s)) (r2 : w.cell? ⟨g2, 0, none⟩ = some (.string s)) :
    Calls Try.prog 11 #[.slice (some ⟨g1, 0, none⟩) 1 1, .slice (some ⟨g2, 0, none⟩) 1 1] w fun e w' => e = .returned (.bool true) ∧ w' = w.drew := by
  go_enter Try.func11, Try.ntmps11
  go_wp2
  go_loopw [5] (fun i wr => (i = .int .i64 0 ∧ wr = w) ∨ (i = .int .i64 1 ∧ wr = w.drew)) (fun i _ => (1 - intOf i).toNat)
  case atStart => exact Or.inl ⟨rfl, rfl⟩
  case round =>
    rcases hrel with ⟨rfl, rfl⟩ | ⟨rfl, rfl⟩
    · go_wp2
      go_region
      go_wp2
      exact ⟨by simp, by simp [intOf]⟩
    · go_wp2
      go_ret
      exact ⟨rfl, rfl⟩

set_option maxHeartbeats 400000 in
theorem alone_one (id gr : ByteArray) (w : World) (hg : gr.toList.isEmpty = true) :
    Calls Try.prog 13 #[.string id, .string gr] w fun e w' => e = .returned (.slice (some ⟨w.heap.size, 0, none⟩) 1 1) ∧ w' = w.alloc (.cells #[.string id] 9) := by
  go_enter Try.func13, Try.ntmps13
  go_wp2
  go_ret
  exact ⟨rfl, rfl⟩

set_option maxHeartbeats 400000 in
theorem alone_nil (id gr : ByteArray) (w : World) (hg : gr.toList.isEmpty = false) :
    Calls Try.prog 13 #[.string id, .string gr] w fun e w' => e = .returned (.slice none 0 0) ∧ w = w' := by
  go_enter Try.func13, Try.ntmps13
  go_wp2
  go_ret
  exact ⟨rfl, rfl⟩

set_option maxHeartbeats 400000 in
theorem bytes_any (a0 : Option Addr) (l0 c0 : Nat) (s1 s2 : ByteArray) (d k : Int) (w : World) :
    Calls Try.prog 5 #[.slice a0 l0 c0, .string s1, .string s2, .int .i32 d, .int .i64 k] w fun e w' => (∃ b : Bool, e = .returned (.bool b)) ∧ w = w' := by
  go_enter Try.func5, Try.ntmps5
  go_wp2
  all_goals (go_ret; exact ⟨⟨_, rfl⟩, rfl⟩)

/-- WHAT THE LAW ASKS OF ITS FIRST ARGUMENT: cloned twice, the two clones are the same kinds, whatever is made meanwhile. -/
def Chain (w : World) (v : Value) : Prop :=
  Calls Try.prog 6 #[v] w fun e w1 => ∃ a1 l1 c1, e = .returned (.slice a1 l1 c1) ∧ Below w.heap.size w w1 ∧
    Calls Try.prog 6 #[.slice a1 l1 c1] w1 fun e w2 => ∃ a2 l2 c2, e = .returned (.slice a2 l2 c2) ∧ Below w1.heap.size w1 w2 ∧
      ∀ w3, Below w2.heap.size w2 w3 → Calls Try.prog 8 #[.slice a1 l1 c1, .slice a2 l2 c2] w3 fun e w4 => e = .returned (.bool true) ∧ Below w3.heap.size w3 w4

theorem chain_nil (w : World) : Chain w (.slice none 0 0) := by
  refine (clone_nil w).mono ?_
  rintro e w1 ⟨rfl, rfl⟩
  refine ⟨none, 0, 0, rfl, Below.refl _ _, (clone_nil w).mono ?_⟩
  rintro e w2 ⟨rfl, rfl⟩
  exact ⟨none, 0, 0, rfl, Below.refl _ _, fun w3 _ => kinds_nil w3⟩

theorem chain_zero (x : Addr) (cap : Nat) (w : World) : Chain w (.slice (some x) 0 cap) := by
  refine (clone_zero x cap w).mono ?_
  rintro e w1 ⟨rfl, h1, s1⟩
  refine ⟨_, 0, 0, rfl, h1, (clone_zero _ _ w1).mono ?_⟩
  rintro e w2 ⟨rfl, h2, s2⟩
  refine ⟨_, 0, 0, rfl, h2, fun w3 h3 => ?_⟩
  have z3 := h3.size
  exact kinds_any w.heap.size w1.heap.size 0 0 0 (fun _ => 0) w3 (by omega) (fun i hi => by omega) (fun i hi => by omega) (by omega) (by omega)

theorem chain_any (b o len cap : Nat) (f : Nat → Int) (w : World) (hl : len ≤ 65536) (hb : b < w.heap.size) (hc : ∀ i, i < len → w.cell? ⟨b, o + i, none⟩ = some (.int .i64 (f i))) : Chain w (.slice (some ⟨b, o, none⟩) len cap) := by
  refine (clone_any b o len cap f w hl hb hc).mono ?_
  rintro e w1 ⟨rfl, r1, h1, s1⟩
  refine ⟨_, len, len, rfl, h1, (clone_any w.heap.size 0 len len f w1 hl (by omega) (fun i hi => ?_)).mono ?_⟩
  · rw [Nat.zero_add]; exact r1.cell hi
  rintro e w2 ⟨rfl, r2, h2, s2⟩
  refine ⟨_, len, len, rfl, h2, fun w3 h3 => ?_⟩
  have z3 := h3.size
  refine kinds_any w.heap.size w1.heap.size len len len f w3 hl (fun i hi => ?_) (fun i hi => ?_) (by omega) (by omega)
  · exact (h3.cell (p := ⟨w.heap.size, i, none⟩) (by show w.heap.size < _; omega)).trans ((h2.cell (p := ⟨w.heap.size, i, none⟩) (by show w.heap.size < _; omega)).trans (r1.cell hi))
  · exact (h3.cell (p := ⟨w1.heap.size, i, none⟩) (by show w1.heap.size < _; omega)).trans (r2.cell hi)
end Go.Proofs.Qxb6613226a
