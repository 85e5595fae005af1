/-
  Party, SameParty, the grouping, find, under: the contracts. By an AI agent.
-/
import Derived.Test.Qxb6613226aBooks
import Derived.Test.Qxb6613226aSame
namespace Go.Proofs.Qxb6613226a
open Go.RowKit
set_option linter.unusedVariables false

set_option maxHeartbeats 400000 in
theorem party_any (rg mp : Nat) (id : ByteArray) (w : World) (h0 : w.cell? ⟨rg, 0, none⟩ = some (.map (some mp))) (hp : w.heap[mp]? = some (.map #[] 0)) :
    Calls Try.prog 10 #[.pointer (some ⟨rg, 0, none⟩), .string id] w fun e w' => e = .returned (.tuple #[.agg #[.string ⟨#[]⟩, .string ⟨#[]⟩, .int .i64 0, .string ⟨#[]⟩, .int .i64 0], .bool false]) ∧ ∃ c, w' = w.alloc (.cells c 40) := by
  have br := lt_cell h0
  have bm := lt_heap hp
  have hl := fun o => look60 (w := w.alloc o) (r := mp) id ((Below.heap_alloc w o mp bm).trans hp)
  clear hp
  go_enter Try.func10, Try.ntmps10
  go_wp2
  simp [bodyPost, results, Try.results10, go_sem]
  exact ⟨_, rfl⟩

set_option maxHeartbeats 400000 in
theorem same_one (rg : Nat) (id nm gr : ByteArray) (k n : Int) (w : World) (hg : gr.toList.isEmpty = true) :
    Calls Try.prog 12 #[.pointer (some ⟨rg, 0, none⟩), .agg #[.string id, .string nm, .int .i64 k, .string gr, .int .i64 n]] w fun e w' => e = .returned (.slice (some ⟨w.heap.size + 1, 0, none⟩) 1 1) ∧ ∃ c, w' = (w.alloc (.cells c 40)).alloc (.cells #[.string id] 9) := by
  go_enter Try.func12, Try.ntmps12
  go_wp2
  go_ret
  exact ⟨rfl, _, rfl⟩

set_option maxHeartbeats 400000 in
theorem clone_strs_nil (w : World) : Calls Try.prog 22 #[.slice none 0 0] w fun e w' => e = .returned (.slice none 0 0) ∧ w = w' := by
  have hnil := fun w (a : Option Addr) n c => Lib.run_eql_slice_nil (P := Try.prog) w 45 9 a n c 0 0 Try.underlying45
  go_enter Try.func22, Try.ntmps22
  go_wp2
  go_ret
  exact ⟨rfl, rfl⟩

set_option maxHeartbeats 400000 in
theorem same_nil (rg mg : Nat) (id nm gr : ByteArray) (k n : Int) (w : World) (hg : gr.toList.isEmpty = false) (h1 : w.cell? ⟨rg, 1, none⟩ = some (.map (some mg))) (hp : w.heap[mg]? = some (.map #[] 0)) :
    Calls Try.prog 12 #[.pointer (some ⟨rg, 0, none⟩), .agg #[.string id, .string nm, .int .i64 k, .string gr, .int .i64 n]] w fun e w' => e = .returned (.slice none 0 0) ∧ ∃ c, w' = (w.alloc (.cells c 40)).drew := by
  have br := lt_cell h1
  have bm := lt_heap hp
  have hl := fun o => look61 (w := (w.alloc o).drew) (r := mg) gr ((Below.heap_alloc w o mg bm).trans hp)
  clear hp
  go_enter Try.func12, Try.ntmps12
  go_wp2
  go_region_held3 (fun w' => w'.cell? ⟨rg, 1, none⟩ = some (.map (some mg)) ∧ w'.cell? ⟨w.heap.size, 3, none⟩ = some (.string gr)) (simp [*, go_sem, World.cell?_alloc_past])
    (first | (go_at_call 22; refine (clone_strs_nil _).mono ?_; rintro e w' ⟨rfl, rfl⟩))
  go_wp2
  go_ret
  exact ⟨rfl, _, rfl⟩
end Go.Proofs.Qxb6613226a
