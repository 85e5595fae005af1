/-
  The grouping, find, under: the contracts. By an AI agent.
-/
import Derived.Test.Qxb6613226aReg
namespace Go.Proofs.Qxb6613226a
open Go.RowKit
set_option linter.unusedVariables false

theorem lts {b n : Nat} (h : b < n) : b < n + 1 ∧ b < n + 1 + 1 ∧ b < n + 1 + 1 + 1 ∧ b < n + 1 + 1 + 1 + 1 ∧ b < n + 1 + 1 + 1 + 1 + 1 := by omega

set_option maxHeartbeats 400000 in
theorem group_one (bx rg : Nat) (id nm gr : ByteArray) (k n d : Int) (w : World) (hg : gr.toList.isEmpty = true) (hb : w.cell? ⟨bx, 0, none⟩ = some (.pointer (some ⟨rg, 0, none⟩))) :
    Calls Try.prog 31 #[.agg #[.string id, .string nm, .int .i64 k, .string gr, .int .i64 n], .int .i32 d, .pointer (some ⟨bx, 0, none⟩)] w fun e w' => e = .returned (.slice (some ⟨w.heap.size + 1 + 1, 0, none⟩) 1 1) ∧
      ∃ c1 c2, w' = ((w.alloc (.cells c1 40)).alloc (.cells c2 40)).alloc (.cells #[.string id] 9) := by
  have bb := lt_cell hb
  go_enter Try.func31, Try.ntmps31
  go_wp2_with (go_at_call 12; refine (same_one _ _ _ _ _ _ _ hg).mono ?_; rintro e w' ⟨rfl, c, rfl⟩)
  go_ret
  exact ⟨rfl, _, _, rfl⟩

set_option maxHeartbeats 400000 in
theorem group_nil (bx rg mg : Nat) (id nm gr : ByteArray) (k n d : Int) (w : World) (hg : gr.toList.isEmpty = false) (hb : w.cell? ⟨bx, 0, none⟩ = some (.pointer (some ⟨rg, 0, none⟩)))
    (h1 : w.cell? ⟨rg, 1, none⟩ = some (.map (some mg))) (hp : w.heap[mg]? = some (.map #[] 0)) :
    Calls Try.prog 31 #[.agg #[.string id, .string nm, .int .i64 k, .string gr, .int .i64 n], .int .i32 d, .pointer (some ⟨bx, 0, none⟩)] w fun e w' => e = .returned (.slice none 0 0) ∧
      ∃ c1 c2, w' = ((w.alloc (.cells c1 40)).alloc (.cells c2 40)).drew := by
  have bb := lt_cell hb
  have br := lt_cell h1
  have bm := lt_heap hp
  have h1' := fun o => (World.cell?_alloc_past (w := w) o rg 1 br).trans h1
  have hp' := fun o => (Below.heap_alloc w o mg bm).trans hp
  have H1 := hide h1'
  have HP := hide hp'
  clear h1' hp' hp h1
  go_enter Try.func31, Try.ntmps31
  go_wp2_with (go_at_call 12; refine (same_nil _ _ _ _ _ _ _ _ hg (unhide H1 _) (unhide HP _)).mono ?_; rintro e w' ⟨rfl, c, rfl⟩)
  go_ret
  exact ⟨rfl, _, _, rfl⟩

set_option maxHeartbeats 400000 in
theorem find_nil (es mo : Nat) (y k : Int) (w : World) (h0 : w.cell? ⟨es, 0, none⟩ = some (.map (some mo))) (hp : w.heap[mo]? = some (.map #[] 0)) :
    Calls Try.prog 26 #[.pointer (some ⟨es, 0, none⟩), .int .i64 y, .int .i64 k, .slice none 0 0] w fun e w' => e = .returned (.tuple #[.pointer none, .pointer none]) ∧ w = w' := by
  have hl := look65 (w := w) (r := mo) y k hp
  clear hp
  go_enter Try.func26, Try.ntmps26
  go_wp2
  go_loop [8, 25] (fun p i => p = .pointer none ∧ i = .int .i64 0) (fun _ _ => 0)
  case atStart => exact ⟨rfl, rfl⟩
  case round =>
    obtain ⟨rfl, rfl⟩ := hrel
    go_wp2
    go_ret2
    exact ⟨rfl, rfl⟩

set_option maxHeartbeats 400000 in
theorem find_one (es mo g : Nat) (y k : Int) (id : ByteArray) (w : World) (h0 : w.cell? ⟨es, 0, none⟩ = some (.map (some mo))) (hp : w.heap[mo]? = some (.map #[] 0)) (hg : w.cell? ⟨g, 0, none⟩ = some (.string id)) :
    Calls Try.prog 26 #[.pointer (some ⟨es, 0, none⟩), .int .i64 y, .int .i64 k, .slice (some ⟨g, 0, none⟩) 1 1] w fun e w' => e = .returned (.tuple #[.pointer none, .pointer none]) ∧ w = w' := by
  have hl := look65 (w := w) (r := mo) y k hp
  have hl79 := look79
  clear hp
  go_enter Try.func26, Try.ntmps26
  go_wp2
  go_loop [8, 25] (fun p i => p = .pointer none ∧ (i = .int .i64 0 ∨ i = .int .i64 1)) (fun _ i => (1 - intOf i).toNat)
  case atStart => exact ⟨rfl, Or.inl rfl⟩
  case round =>
    obtain ⟨rfl, rfl | rfl⟩ := hrel
    · go_wp2
      exact ⟨⟨rfl, Or.inr rfl⟩, by simp [intOf]⟩
    · go_wp2
      go_ret2
      exact ⟨rfl, rfl⟩

set_option maxHeartbeats 400000 in
theorem year_any (d : Int) (w : World) : Calls Try.prog 30 #[.int .i32 d] w fun e w' => (∃ y, e = .returned (.int .i64 y)) ∧ w = w' := by
  go_enter Try.func30, Try.ntmps30
  go_wp2
  go_ret
  exact ⟨⟨_, rfl⟩, rfl⟩

set_option maxHeartbeats 400000 in
theorem zzgroup_one (es bx rg : Nat) (id nm gr : ByteArray) (k n d : Int) (w : World) (hg : gr.toList.isEmpty = true) (h1 : w.cell? ⟨es, 1, none⟩ = some (.func (.func 31) #[] #[.pointer (some ⟨bx, 0, none⟩)])) (hb : w.cell? ⟨bx, 0, none⟩ = some (.pointer (some ⟨rg, 0, none⟩))) :
    Calls Try.prog 14 #[.pointer (some ⟨es, 0, none⟩), .agg #[.string id, .string nm, .int .i64 k, .string gr, .int .i64 n], .int .i32 d] w fun e w' => e = .returned (.slice (some ⟨w.heap.size + 1 + 1 + 1, 0, none⟩) 1 1) ∧
      ∃ c1 c2 c3, w' = ((((w.alloc (.cells c1 40)).alloc (.cells c2 40)).alloc (.cells c3 40)).alloc (.cells #[.string id] 9)).drew := by
  have bb := lt_cell hb
  have be := lt_cell h1
  obtain ⟨be1, be2, be3, be4, be5⟩ := lts be
  have hb' : ∀ o, (w.alloc o).drew.cell? ⟨bx, 0, none⟩ = some (.pointer (some ⟨rg, 0, none⟩)) := fun o => (World.cell?_alloc_past (w := w) o bx 0 bb).trans hb
  have HB := hide hb'
  clear hb' hb
  go_enter Try.func14, Try.ntmps14
  go_wp2_with fail
  go_region_held3 (fun w' => w'.cell? ⟨es, 1, none⟩ = some (.func (.func 31) #[] #[.pointer (some ⟨bx, 0, none⟩)]) ∧ w'.cell? ⟨w.heap.size, 0, none⟩ = some (.string id) ∧ w'.cell? ⟨w.heap.size, 1, none⟩ = some (.string nm) ∧ w'.cell? ⟨w.heap.size, 2, none⟩ = some (.int .i64 k) ∧ w'.cell? ⟨w.heap.size, 3, none⟩ = some (.string gr) ∧ w'.cell? ⟨w.heap.size, 4, none⟩ = some (.int .i64 n)) (simp [*, go_sem, World.cell?_alloc_past])
    (first | (go_at_call 31; refine (group_one bx rg id nm gr k n d _ hg (unhide HB _)).mono ?_; rintro e w' ⟨rfl, c1, c2, rfl⟩))
  go_wp2
  go_ret
  exact ⟨rfl, _, _, _, rfl⟩

set_option maxHeartbeats 400000 in
theorem zzgroup_nil (es bx rg mg : Nat) (id nm gr : ByteArray) (k n d : Int) (w : World) (hg : gr.toList.isEmpty = false) (h1 : w.cell? ⟨es, 1, none⟩ = some (.func (.func 31) #[] #[.pointer (some ⟨bx, 0, none⟩)])) (hb : w.cell? ⟨bx, 0, none⟩ = some (.pointer (some ⟨rg, 0, none⟩))) (hr : w.cell? ⟨rg, 1, none⟩ = some (.map (some mg))) (hm : w.heap[mg]? = some (.map #[] 0)) :
    Calls Try.prog 14 #[.pointer (some ⟨es, 0, none⟩), .agg #[.string id, .string nm, .int .i64 k, .string gr, .int .i64 n], .int .i32 d] w fun e w' => e = .returned (.slice none 0 0) ∧
      ∃ c1 c2 c3, w' = (((w.alloc (.cells c1 40)).alloc (.cells c2 40)).alloc (.cells c3 40)).drew.drew := by
  have bb := lt_cell hb
  have be := lt_cell h1
  obtain ⟨be1, be2, be3, be4, be5⟩ := lts be
  have hb' : ∀ o, (w.alloc o).drew.cell? ⟨bx, 0, none⟩ = some (.pointer (some ⟨rg, 0, none⟩)) := fun o => (World.cell?_alloc_past (w := w) o bx 0 bb).trans hb
  have HB := hide hb'
  have br := lt_cell hr
  have bm := lt_heap hm
  have hr' : ∀ o, (w.alloc o).drew.cell? ⟨rg, 1, none⟩ = some (.map (some mg)) := fun o => (World.cell?_alloc_past (w := w) o rg 1 br).trans hr
  have hm' : ∀ o, (w.alloc o).drew.heap[mg]? = some (.map #[] 0) := fun o => (Below.heap_alloc w o mg bm).trans hm
  have HR := hide hr'
  have HM := hide hm'
  clear hb' hb hr' hm' hr hm
  go_enter Try.func14, Try.ntmps14
  go_wp2_with fail
  go_region_held3 (fun w' => w'.cell? ⟨es, 1, none⟩ = some (.func (.func 31) #[] #[.pointer (some ⟨bx, 0, none⟩)]) ∧ w'.cell? ⟨w.heap.size, 0, none⟩ = some (.string id) ∧ w'.cell? ⟨w.heap.size, 1, none⟩ = some (.string nm) ∧ w'.cell? ⟨w.heap.size, 2, none⟩ = some (.int .i64 k) ∧ w'.cell? ⟨w.heap.size, 3, none⟩ = some (.string gr) ∧ w'.cell? ⟨w.heap.size, 4, none⟩ = some (.int .i64 n)) (simp [*, go_sem, World.cell?_alloc_past])
    (first | (go_at_call 31; refine (group_nil bx rg mg id nm gr k n d _ hg (unhide HB _) (unhide HR _) (unhide HM _)).mono ?_; rintro e w' ⟨rfl, c1, c2, rfl⟩))
  go_wp2
  go_ret
  exact ⟨rfl, _, _, _, rfl⟩
end Go.Proofs.Qxb6613226a
