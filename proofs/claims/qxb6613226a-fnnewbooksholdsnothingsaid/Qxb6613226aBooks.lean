/-
  NewBooks: the contract. By an AI agent.
-/
import Derived.Test.Qxb6613226aBase
import Derived.Deep.RegionHeld3
import Derived.RegionTactic
namespace Go.Proofs.Qxb6613226a
open Go.RowKit
set_option linter.unusedVariables false

theorem nil33 (w : World) : (binOp .eql 33 .nilFunc .nilFunc).run Try.prog w = .ok (.bool true) w := by kernel_rfl

set_option maxHeartbeats 400000 in
theorem reg_new (w : World) : Calls Try.prog 19 #[] w fun e w' => e = .returned (.pointer (some ⟨w.heap.size + 1 + 1, 0, none⟩)) ∧
    w' = ((w.alloc (.map #[] 0)).alloc (.map #[] 0)).alloc (.cells #[.map (some w.heap.size), .map (some (w.heap.size + 1))] 63) := by
  have hmm := @run_makeMap Try.prog
  go_enter Try.func19, Try.ntmps19
  go_wp2
  go_ret
  exact ⟨rfl, rfl⟩

set_option maxHeartbeats 400000 in
theorem rel_new (w : World) : Calls Try.prog 27 #[] w fun e w' => e = .returned (.pointer (some ⟨w.heap.size + 1 + 1, 0, none⟩)) ∧
    ∃ c, w' = ((w.alloc (.map #[] 0)).alloc (.map #[] 0)).alloc (.cells c 85) := by
  have hmm := @run_makeMap Try.prog
  go_enter Try.func27, Try.ntmps27
  go_wp2
  go_ret
  exact ⟨rfl, _, rfl⟩

set_option maxHeartbeats 400000 in
theorem his_new (w : World) : Calls Try.prog 28 #[] w fun e w' => e = .returned (.pointer (some ⟨w.heap.size, 0, none⟩)) ∧ ∃ c, w' = w.alloc (.cells c 89) := by
  go_enter Try.func28, Try.ntmps28
  go_wp2
  go_ret
  exact ⟨rfl, _, rfl⟩

set_option maxHeartbeats 400000 in
theorem fig_new (w : World) : Calls Try.prog 29 #[] w fun e w' => e = .returned (.pointer (some ⟨w.heap.size, 0, none⟩)) ∧ ∃ c, w' = w.alloc (.cells c 92) := by
  go_enter Try.func29, Try.ntmps29
  go_wp2
  go_ret
  exact ⟨rfl, _, rfl⟩

set_option maxHeartbeats 400000 in
theorem by_new (rg : Nat) (v : Value) (w : World) : Calls Try.prog 25 #[.pointer (some ⟨rg, 0, none⟩), v] w fun e w' => e = .returned (.func (.func 31) #[] #[.pointer (some ⟨w.heap.size, 0, none⟩)]) ∧
    w' = w.alloc (.cells #[.pointer (some ⟨rg, 0, none⟩)] 27) := by
  have hmf : ∀ (fn : Fn) (first cap : Array Value) (w : World), (Instr.makeFunc fn first cap).run Try.prog w = .ok (.func fn first cap) w := fun _ _ _ _ => rfl
  go_enter Try.func25, Try.ntmps25
  go_wp2
  go_ret
  exact ⟨rfl, rfl⟩

set_option maxHeartbeats 400000 in
theorem est_new (bx : Nat) (w : World) : Calls Try.prog 24 #[.func (.func 31) #[] #[.pointer (some ⟨bx, 0, none⟩)]] w fun e w' => e = .returned (.pointer (some ⟨w.heap.size + 1, 0, none⟩)) ∧
    w' = (w.alloc (.map #[] 0)).alloc (.cells #[.map (some w.heap.size), .func (.func 31) #[] #[.pointer (some ⟨bx, 0, none⟩)]] 69) := by
  have hmm := @run_makeMap Try.prog
  go_enter Try.func24, Try.ntmps24
  go_wp2
  go_ret
  exact ⟨rfl, rfl⟩

/-- Books that hold nothing, at block bk: their register at rg (its maps mp, mg), their estimates at es (the map mo; the grouping reads the register's pointer out of the box bx). -/
structure Books (w : World) (bk : Nat) (daily : Value) (rg mp mg es mo bx : Nat) : Prop where
  k0 : w.cell? ⟨bk, 0, none⟩ = some (.pointer (some ⟨rg, 0, none⟩))
  k1 : ∃ x, w.cell? ⟨bk, 1, none⟩ = some (.pointer (some x))
  k2 : w.cell? ⟨bk, 2, none⟩ = some (.pointer (some ⟨es, 0, none⟩))
  k3 : ∃ x, w.cell? ⟨bk, 3, none⟩ = some (.pointer (some x))
  k4 : ∃ x, w.cell? ⟨bk, 4, none⟩ = some (.pointer (some x))
  k5 : w.cell? ⟨bk, 5, none⟩ = some daily
  r0 : w.cell? ⟨rg, 0, none⟩ = some (.map (some mp))
  r1 : w.cell? ⟨rg, 1, none⟩ = some (.map (some mg))
  hp : w.heap[mp]? = some (.map #[] 0)
  hg : w.heap[mg]? = some (.map #[] 0)
  e0 : w.cell? ⟨es, 0, none⟩ = some (.map (some mo))
  e1 : w.cell? ⟨es, 1, none⟩ = some (.func (.func 31) #[] #[.pointer (some ⟨bx, 0, none⟩)])
  ho : w.heap[mo]? = some (.map #[] 0)
  hb : w.cell? ⟨bx, 0, none⟩ = some (.pointer (some ⟨rg, 0, none⟩))

theorem lt_cell {w : World} {b o : Nat} {v : Value} (h : w.cell? ⟨b, o, none⟩ = some v) : b < w.heap.size := block_lt_of_cell h
theorem lt_heap {w : World} {b : Nat} {o : Obj} (h : w.heap[b]? = some o) : b < w.heap.size := (Array.getElem?_eq_some_iff.1 h).1

/-- What is made later turns none of it. -/
theorem Books.below {w w' : World} {bk : Nat} {daily : Value} {rg mp mg es mo bx : Nat} (B : Books w bk daily rg mp mg es mo bx) (h : Below w.heap.size w w') : Books w' bk daily rg mp mg es mo bx := by
  have c : ∀ {b o : Nat} {v : Value}, w.cell? ⟨b, o, none⟩ = some v → w'.cell? ⟨b, o, none⟩ = some v := fun hv => (h.cell (p := ⟨_, _, none⟩) (lt_cell hv)).trans hv
  have m : ∀ {b : Nat} {o : Obj}, w.heap[b]? = some o → w'.heap[b]? = some o := fun hv => (h.block _ (lt_heap hv)).trans hv
  obtain ⟨k0, ⟨x1, k1⟩, k2, ⟨x3, k3⟩, ⟨x4, k4⟩, k5, r0, r1, hp, hg, e0, e1, ho, hb⟩ := B
  exact ⟨c k0, ⟨x1, c k1⟩, c k2, ⟨x3, c k3⟩, ⟨x4, c k4⟩, c k5, c r0, c r1, m hp, m hg, c e0, c e1, m ho, c hb⟩

theorem heap_new (w : World) (o : Obj) : (w.alloc o).heap[w.heap.size]? = some o := by
  show (w.heap.push o)[w.heap.size]? = _
  simp

theorem heap_at (W : World) (o : Obj) (n : Nat) (h : n = W.heap.size) : (W.alloc o).heap[n]? = some o := by subst h; exact heap_new W o
theorem heap_two (W : World) (o1 : Obj) (n : Nat) (h : n = W.heap.size) : ((W.alloc (.map #[] 0)).alloc o1).drew.heap[n]? = some (.map #[] 0) :=
  (Below.heap_alloc (W.alloc (.map #[] 0)) o1 n (by subst h; simp)).trans (heap_at W _ n h)

set_option maxHeartbeats 400000 in
theorem books_new (a : Option Addr) (l c : Nat) (w : World) :
    Calls Try.prog 21 #[.slice a l c, .nilFunc] w fun e w' => e = .returned (.pointer (some ⟨w.heap.size + 1 + 1 + 1 + 1 + 1 + 1 + 1 + 1, 0, none⟩)) ∧ Below w.heap.size w w' ∧
      Books w' (w.heap.size + 1 + 1 + 1 + 1 + 1 + 1 + 1 + 1) (.slice a l c) (w.heap.size + 1 + 1) w.heap.size (w.heap.size + 1) (w.heap.size + 1 + 1 + 1 + 1 + 1 + 1 + 1 + 1 + 1 + 1 + 1) (w.heap.size + 1 + 1 + 1 + 1 + 1 + 1 + 1 + 1 + 1 + 1) (w.heap.size + 1 + 1 + 1 + 1 + 1 + 1 + 1 + 1 + 1) := by
  have hn33 := nil33
  go_enter Try.func21, Try.ntmps21
  go_wp2_with (first | (go_at_call 19; refine (reg_new _).mono ?_; rintro e w' ⟨rfl, rfl⟩) | (go_at_call 27; refine (rel_new _).mono ?_; rintro e w' ⟨rfl, c1, rfl⟩) | (go_at_call 28; refine (his_new _).mono ?_; rintro e w' ⟨rfl, c2, rfl⟩) | (go_at_call 29; refine (fig_new _).mono ?_; rintro e w' ⟨rfl, c3, rfl⟩))
  go_region_held3 (fun w' => w'.cell? ⟨w.heap.size + 1 + 1 + 1 + 1 + 1 + 1 + 1 + 1, 0, none⟩ = some (.pointer (some ⟨w.heap.size + 1 + 1, 0, none⟩)) ∧ w'.cell? ⟨w.heap.size + 1 + 1 + 1 + 1 + 1 + 1 + 1 + 1, 1, none⟩ = some (.pointer (some ⟨w.heap.size + 1 + 1 + 1 + 1 + 1, 0, none⟩))) (simp [go_sem, World.cell?_alloc_past])
    (first | (go_at_call 25; refine (by_new _ _ _).mono ?_; rintro e w' ⟨rfl, rfl⟩) | (go_at_call 24; refine (est_new _ _).mono ?_; rintro e w' ⟨rfl, rfl⟩))
  go_wp2
  go_ret
  refine ⟨rfl, (bmore (bmore (bmore (bmore (bmore (bmore (bmore (bmore (bmore (bmore (bmore (bmore (Below.refl _ w) _) _) _) _) _) _) _) _) _) _) _) _).drew, ⟨?_, ⟨⟨w.heap.size + 1 + 1 + 1 + 1 + 1, 0, none⟩, ?_⟩, ?_, ⟨⟨w.heap.size + 1 + 1 + 1 + 1 + 1 + 1, 0, none⟩, ?_⟩, ⟨⟨w.heap.size + 1 + 1 + 1 + 1 + 1 + 1 + 1, 0, none⟩, ?_⟩, ?_, ?_, ?_, ?_, ?_, ?_, ?_, ?_, ?_⟩⟩
  case refine_9 => exact ((bmore (bmore (bmore (bmore (bmore (bmore (bmore (bmore (bmore (bmore (bmore (Below.refl _ _) _) _) _) _) _) _) _) _) _) _) _).drew.block w.heap.size (by simp)).trans (heap_new w _)
  case refine_10 => exact ((bmore (bmore (bmore (bmore (bmore (bmore (bmore (bmore (bmore (bmore (Below.refl _ _) _) _) _) _) _) _) _) _) _) _).drew.block (w.heap.size + 1) (by simp)).trans (heap_at (w.alloc (.map #[] 0)) _ _ (by simp))
  case refine_13 => exact heap_two _ _ _ (by simp)
  all_goals simp [go_sem]
end Go.Proofs.Qxb6613226a
