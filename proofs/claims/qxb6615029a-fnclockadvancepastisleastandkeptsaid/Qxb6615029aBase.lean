/-
  PLAIN FACTS ON WORLDS, AND THE LEAF CONTRACTS, for the seat's statements over package hlc. By an AI agent.
-/
import Derived.Test.Qxb6615029aRows
import Derived.WalkKit
import Derived.ProofKit
import Derived.OpenShut
namespace Go.Proofs.Qxb6615029a
open Go.RowKit
set_option linter.unusedVariables false

/-- Below block number B all is as it was, and no mark of frozen cells has turned anywhere. -/
def Q (B : Nat) (w w' : World) : Prop := Below B w w' ∧ ∀ a, w'.frozen? a = w.frozen? a
theorem Q.refl (B : Nat) (w : World) : Q B w w := ⟨Below.refl _ _, fun _ => rfl⟩
theorem Q.trans {B : Nat} {a b c : World} (h : Q B a b) (k : Q B b c) : Q B a c := ⟨h.1.trans k.1, fun x => (k.2 x).trans (h.2 x)⟩
theorem Q.mono {B B' : Nat} {w w' : World} (h : Q B w w') (hB : B' ≤ B) : Q B' w w' := ⟨h.1.mono hB, h.2⟩
theorem Q.drew {B : Nat} {a w : World} (h : Q B a w) : Q B a w.drew := ⟨h.1.drew, h.2⟩
theorem Q.alloc {B : Nat} {a w : World} (h : Q B a w) (hB : B ≤ w.heap.size) (c : Array Value) (t : TypeId) : Q B a (w.alloc (.cells c t)) :=
  ⟨h.1.alloc hB _, fun x => (frozen?_alloc_cells _ _ _ x).trans (h.2 x)⟩
theorem Q.setCell {B : Nat} {a w : World} (h : Q B a w) {p : Addr} (hp : B ≤ p.block) (u : Value) : Q B a (w.setCell p u) :=
  ⟨h.1.setCell hp u, fun x => (World.frozen?_setCell _ _ _ _).trans (h.2 x)⟩
theorem Q.grown {w w' : World} (h : Q w.heap.size w w') : Grown w w' := ⟨h.1.frame _, h.2, h.1.size⟩
theorem Q.cell {B : Nat} {w w' : World} (h : Q B w w') (b o : Nat) (hb : b < B) : w'.cell? ⟨b, o, none⟩ = w.cell? ⟨b, o, none⟩ := h.1.cell (p := ⟨b, o, none⟩) hb
theorem Q.size {B : Nat} {w w' : World} (h : Q B w w') : w.heap.size ≤ w'.heap.size := h.1.size

/-- int64, uint32: the bounds. -/
theorem bd64 {a : Int} (h : (Lit.int .i64 a).wf = true) : -9223372036854775808 ≤ a ∧ a ≤ 9223372036854775807 := bounds_i64 h
theorem bd32 {a : Int} (h : (Lit.int .u32 a).wf = true) : 0 ≤ a ∧ a ≤ 4294967295 := bounds_u32 h
end Go.Proofs.Qxb6615029a
