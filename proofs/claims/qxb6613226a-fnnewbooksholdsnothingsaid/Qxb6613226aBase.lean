/-
  PLAIN FACTS ON WORLDS, for the seat's statement over package records. By an AI agent.
-/
import Derived.Test.Qxb6613226aRows
import Derived.WalkKit
import Derived.WalkSpells
import Derived.ProofKit
import Derived.OpenShut
import Derived.Below
import Derived.Deep.OwnRows
import Derived.Laws.EntriesVeiled
import Derived.Lib.SliceRun
namespace Go.Proofs.Qxb6613226a
open Go.RowKit
set_option linter.unusedVariables false

theorem hide {p : Prop} (h : p) : Hid p := h
theorem unhide {p : Prop} (h : Hid p) : p := h

theorem info51 : (Try.prog.info? 51).map (fun i => (i.zero, i.size, i.bytes)) = some (some (.int .i64 0), 1, 8) := by kernel_rfl

theorem bmore {w w1 : World} (h : Below w.heap.size w w1) (o : Obj) : Below w.heap.size w (w1.alloc o) := h.alloc h.size o

/-! ### lookups in an empty map, in a nil map -/
theorem look_empty {P : Program} {w : World} {t key elem : TypeId} {r cl : Nat} {x z : Value} {c : Bool} (ht : P.underlying t = some (.map key elem)) (hb : w.heap[r]? = some (.map #[] cl)) (hc : (Instr.checkKey true 10000 key x).run P w = .ok () w)
    (hf : (Instr.findKey key x []).run P w = .ok none w) (hz : (zeroValue elem).run P w = .ok z w) : (Instr.lookup t (.map (some r)) x c).run P w = .ok (if c then .tuple #[z, .bool false] else z) w := by
  simp [Instr.lookup, run_underlying ht, MapKept.run_getObj_map hb, hc, hf, hz, Result.andThen]

theorem check9 (s : ByteArray) (w : World) : (Instr.checkKey true 10000 9 (.string s)).run Try.prog w = .ok () w := by kernel_rfl
theorem find9 (s : ByteArray) (w : World) : (Instr.findKey 9 (.string s) []).run Try.prog w = .ok none w := by kernel_rfl
theorem check81 (a b : Int) (w : World) : (Instr.checkKey true 10000 81 (.agg #[.int .i64 a, .int .i64 b])).run Try.prog w = .ok () w := by kernel_rfl
theorem find81 (a b : Int) (w : World) : (Instr.findKey 81 (.agg #[.int .i64 a, .int .i64 b]) []).run Try.prog w = .ok none w := by kernel_rfl

/-- reg.parties[id] where there is none. -/
theorem look60 {w : World} {r cl : Nat} (s : ByteArray) (hb : w.heap[r]? = some (.map #[] cl)) : (Instr.lookup 60 (.map (some r)) (.string s) true).run Try.prog w = .ok (.tuple #[.pointer none, .bool false]) w :=
  look_empty (c := true) Try.underlying60 hb (check9 s w) (find9 s w) (Try.zeroValue58 w)
/-- reg.groups[group] where there is none. -/
theorem look61 {w : World} {r cl : Nat} (s : ByteArray) (hb : w.heap[r]? = some (.map #[] cl)) : (Instr.lookup 61 (.map (some r)) (.string s) false).run Try.prog w = .ok (.slice none 0 0) w :=
  look_empty (c := false) Try.underlying61 hb (check9 s w) (find9 s w) (Try.zeroValue45 w)
/-- est.of[yearKind{year, kind}] where there is none. -/
theorem look65 {w : World} {r cl : Nat} (a b : Int) (hb : w.heap[r]? = some (.map #[] cl)) : (Instr.lookup 65 (.map (some r)) (.agg #[.int .i64 a, .int .i64 b]) false).run Try.prog w = .ok (.map none) w :=
  look_empty (c := false) Try.underlying65 hb (check81 a b w) (find81 a b w) (Try.zeroValue79 w)
/-- of[id] of a nil map. -/
theorem look79 (s : ByteArray) (w : World) : (Instr.lookup 79 (.map none) (.string s) true).run Try.prog w = .ok (.tuple #[.pointer none, .bool false]) w := by kernel_rfl
end Go.Proofs.Qxb6613226a
