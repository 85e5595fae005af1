/-
  FnNewClockScriptEachAfterAllBefore: the ways joined. By an AI agent.
-/
import Derived.Test.Qxb6615029aScript0
import Derived.Test.Qxb6615029aScript1
import Derived.Test.Qxb6615029aScript2
import Derived.Test.Qxb6615029aScript3
import Derived.Test.Qxb6615029aScriptEnds
namespace Go.Proofs.Qxb6615029a
open Go.RowKit
set_option linter.unusedVariables false

/-- A slice of integers that came in: nil, or a row of cells. -/
def Row (k : IntKind) (w : World) (a : Option Addr) (len cap : Nat) (zs : List Int) : Prop :=
  (a = none ∧ len = 0 ∧ cap = 0 ∧ zs = []) ∨
  ∃ x, a = some x ∧ len ≤ cap ∧ cap ≤ maxLen ∧ zs.length = cap ∧ (∀ i, i < zs.length → w.cell? (x.add i) = some (.int k (zs.getD i 0))) ∧ ∀ n ∈ zs, (Lit.int k n).wf = true

theorem row_at {k : IntKind} {w : World} {a : Option Addr} {len cap : Nat} {zs : List Int} (h : Row k w a len cap zs) (hp : 0 < len) :
    ∃ b o, a = some ⟨b, o, none⟩ ∧ b < w.heap.size ∧ ∀ i, i < len → w.cell? ⟨b, o + i, none⟩ = some (.int k (zs.getD i 0)) ∧ (Lit.int k (zs.getD i 0)).wf = true := by
  rcases h with ⟨_, h, _⟩ | ⟨x, rfl, hl, _, hz, hc, hw⟩
  · omega
  obtain ⟨b, o, rfl, hc'⟩ := ints_at hc (by omega)
  refine ⟨b, o, rfl, block_lt_of_cell (hc' 0 (by omega)), fun i hi => ⟨hc' i (by omega), hw _ ?_⟩⟩
  have hi' : i < zs.length := by omega
  have e : zs.getD i 0 = zs[i] := by simp [List.getD, hi']
  rw [e]
  exact List.getElem_mem _

theorem script_any (a0 : Option Addr) (l0 c0 : Nat) (z0 : List Int) (a1 : Option Addr) (l1 c1 : Nat) (z1 : List Int) (a2 : Option Addr) (l2 c2 : Nat) (z2 : List Int) (w : World) (w0 : Row .i64 w a0 l0 c0 z0) (w1 : Row .i64 w a1 l1 c1 z1) (w2 : Row .u32 w a2 l2 c2 z2) :
    Calls Try.prog 7 #[.slice a0 l0 c0, .slice a1 l1 c1, .slice a2 l2 c2] w fun e w' => e = .returned (.bool true) ∧ Q w.heap.size w w' := by
  by_cases h0 : l0 ≤ 4096
  case neg => exact script_long0 a0 a1 a2 l0 c0 l1 c1 l2 c2 w (by omega)
  by_cases h1 : l1 ≤ 4096
  case neg => exact script_long1 a0 a1 a2 l0 c0 l1 c1 l2 c2 w h0 (by omega)
  by_cases h2 : l2 ≤ 4096
  case neg => exact script_long2 a0 a1 a2 l0 c0 l1 c1 l2 c2 w h0 h1 (by omega)
  by_cases hz : l0 = 0 ∨ l1 = 0 ∨ l2 = 0
  · by_cases d1 : l1 < l0
    · by_cases d2 : l2 < l1
      · exact script_nil3 a0 a1 a2 l0 c0 l1 c1 l2 c2 w h0 h1 h2 d1 d2 (by omega)
      · exact script_nil1 a0 a1 a2 l0 c0 l1 c1 l2 c2 w h0 h1 h2 d1 d2 (by omega)
    · by_cases d2 : l2 < l0
      · exact script_nil2 a0 a1 a2 l0 c0 l1 c1 l2 c2 w h0 h1 h2 d1 d2 (by omega)
      · exact script_nil0 a0 a1 a2 l0 c0 l1 c1 l2 c2 w h0 h1 h2 d1 d2 (by omega)
  obtain ⟨b0, o0, rfl, n0, r0⟩ := row_at w0 (by omega)
  obtain ⟨b1, o1, rfl, n1, r1⟩ := row_at w1 (by omega)
  obtain ⟨b2, o2, rfl, n2, r2⟩ := row_at w2 (by omega)
  have q0 := fun k (hk : k < l0) => (⟨(r0 k hk).1, bd64 (r0 k hk).2⟩ : _ ∧ _)
  have q1 := fun k (hk : k < l1) => (⟨(r1 k hk).1, bd64 (r1 k hk).2⟩ : _ ∧ _)
  have q2 := fun k (hk : k < l2) => (⟨(r2 k hk).1, bd32 (r2 k hk).2⟩ : _ ∧ _)
  by_cases d1 : l1 < l0
  · by_cases d2 : l2 < l1
    · exact script_3 b0 o0 b1 o1 b2 o2 l0 c0 l1 c1 l2 c2 z0 z1 z2 w h0 h1 h2 q0 q1 q2 n0 n1 n2 d1 d2
    · exact script_1 b0 o0 b1 o1 b2 o2 l0 c0 l1 c1 l2 c2 z0 z1 z2 w h0 h1 h2 q0 q1 q2 n0 n1 n2 d1 d2
  · by_cases d2 : l2 < l0
    · exact script_2 b0 o0 b1 o1 b2 o2 l0 c0 l1 c1 l2 c2 z0 z1 z2 w h0 h1 h2 q0 q1 q2 n0 n1 n2 d1 d2
    · exact script_0 b0 o0 b1 o1 b2 o2 l0 c0 l1 c1 l2 c2 z0 z1 z2 w h0 h1 h2 q0 q1 q2 n0 n1 n2 d1 d2
end Go.Proofs.Qxb6615029a
