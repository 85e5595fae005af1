/-
  under, ZZunder: the contracts. By an AI agent.
-/
import Derived.Test.Qxb6613226aEst
namespace Go.Proofs.Qxb6613226a
open Go.RowKit
set_option linter.unusedVariables false

theorem cell_below {w w' : World} {b o : Nat} {v : Value} (h : Below w.heap.size w w') (hv : w.cell? ⟨b, o, none⟩ = some v) : w'.cell? ⟨b, o, none⟩ = some v := (h.cell (p := ⟨b, o, none⟩) (lt_cell hv)).trans hv
theorem heap_below {w w' : World} {b : Nat} {v : Obj} (h : Below w.heap.size w w') (hv : w.heap[b]? = some v) : w'.heap[b]? = some v := (h.block _ (lt_heap hv)).trans hv

set_option maxHeartbeats 400000 in
theorem under_one (es mo bx rg : Nat) (id nm gr : ByteArray) (k n d kd : Int) (w : World) (hg : gr.toList.isEmpty = true) (h0 : w.cell? ⟨es, 0, none⟩ = some (.map (some mo))) (ho : w.heap[mo]? = some (.map #[] 0)) (h1 : w.cell? ⟨es, 1, none⟩ = some (.func (.func 31) #[] #[.pointer (some ⟨bx, 0, none⟩)])) (hb : w.cell? ⟨bx, 0, none⟩ = some (.pointer (some ⟨rg, 0, none⟩))) :
    Calls Try.prog 23 #[.pointer (some ⟨es, 0, none⟩), .agg #[.string id, .string nm, .int .i64 k, .string gr, .int .i64 n], .int .i32 d, .int .i64 kd] w fun e w' => e = .returned (.tuple #[.pointer none, .pointer none]) ∧ Below w.heap.size w w' := by
  have be := lt_cell h1
  obtain ⟨be1, be2, be3, be4, be5⟩ := lts be
  have q1 : ∀ o, Below w.heap.size w (w.alloc o).drew := fun o => (bmore (Below.refl _ _) o).drew
  have q4 : ∀ o1 o2 o3 o4, Below w.heap.size w ((((w.alloc o1).alloc o2).alloc o3).alloc o4).drew := fun o1 o2 o3 o4 => (bmore (bmore (bmore (bmore (Below.refl _ _) o1) o2) o3) o4).drew
  have HB := hide (fun o => cell_below (q1 o) hb)
  have HE := hide (fun o1 o2 o3 o4 => cell_below (q4 o1 o2 o3 o4) h0)
  have HO := hide (fun o1 o2 o3 o4 => heap_below (q4 o1 o2 o3 o4) ho)
  have hs : ∀ c0 c1 c2, ((((w.alloc (.cells c0 40)).alloc (.cells c1 40)).alloc (.cells c2 40)).alloc (.cells #[.string id] 9)).drew.cell? ⟨w.heap.size + 1 + 1 + 1, 0, none⟩ = some (.string id) := fun c0 c1 c2 => by simp [go_sem]
  have HS := hide hs
  have HQ := hide q4
  clear q1 q4 hs hb h0 ho
  go_enter Try.func23, Try.ntmps23
  go_wp2_with fail
  go_region_held3 (fun w' => w'.cell? ⟨es, 1, none⟩ = some (.func (.func 31) #[] #[.pointer (some ⟨bx, 0, none⟩)]) ∧ w'.cell? ⟨w.heap.size, 0, none⟩ = some (.string id) ∧ w'.cell? ⟨w.heap.size, 1, none⟩ = some (.string nm) ∧ w'.cell? ⟨w.heap.size, 2, none⟩ = some (.int .i64 k) ∧ w'.cell? ⟨w.heap.size, 3, none⟩ = some (.string gr) ∧ w'.cell? ⟨w.heap.size, 4, none⟩ = some (.int .i64 n)) (simp [*, go_sem, World.cell?_alloc_past])
    (first | (go_at_call 30; refine (year_any _ _).mono ?_; rintro e w' ⟨⟨y, rfl⟩, rfl⟩) | (go_at_call 31; refine (group_one bx rg id nm gr k n d _ hg (unhide HB _)).mono ?_; rintro e w' ⟨rfl, c1, c2, rfl⟩) | (go_at_call 26; refine (find_one es mo _ _ _ id _ (unhide HE _ _ _ _) (unhide HO _ _ _ _) (unhide HS _ _ _)).mono ?_; rintro e w' ⟨rfl, rfl⟩))
  go_wp2
  go_ret2
  exact ⟨rfl, unhide HQ _ _ _ _⟩

set_option maxHeartbeats 400000 in
theorem under_nil (es mo bx rg mg : Nat) (id nm gr : ByteArray) (k n d kd : Int) (w : World) (hg : gr.toList.isEmpty = false) (h0 : w.cell? ⟨es, 0, none⟩ = some (.map (some mo))) (ho : w.heap[mo]? = some (.map #[] 0)) (h1 : w.cell? ⟨es, 1, none⟩ = some (.func (.func 31) #[] #[.pointer (some ⟨bx, 0, none⟩)])) (hb : w.cell? ⟨bx, 0, none⟩ = some (.pointer (some ⟨rg, 0, none⟩)))
    (hr : w.cell? ⟨rg, 1, none⟩ = some (.map (some mg))) (hm : w.heap[mg]? = some (.map #[] 0)) :
    Calls Try.prog 23 #[.pointer (some ⟨es, 0, none⟩), .agg #[.string id, .string nm, .int .i64 k, .string gr, .int .i64 n], .int .i32 d, .int .i64 kd] w fun e w' => e = .returned (.tuple #[.pointer none, .pointer none]) ∧ Below w.heap.size w w' := by
  have be := lt_cell h1
  obtain ⟨be1, be2, be3, be4, be5⟩ := lts be
  have q1 : ∀ o, Below w.heap.size w (w.alloc o).drew := fun o => (bmore (Below.refl _ _) o).drew
  have q3 : ∀ o1 o2 o3, Below w.heap.size w (((w.alloc o1).alloc o2).alloc o3).drew.drew := fun o1 o2 o3 => (bmore (bmore (bmore (Below.refl _ _) o1) o2) o3).drew.drew
  have HB := hide (fun o => cell_below (q1 o) hb)
  have HR := hide (fun o => cell_below (q1 o) hr)
  have HM := hide (fun o => heap_below (q1 o) hm)
  have HE := hide (fun o1 o2 o3 => cell_below (q3 o1 o2 o3) h0)
  have HO := hide (fun o1 o2 o3 => heap_below (q3 o1 o2 o3) ho)
  have HQ := hide q3
  clear q1 q3 hb h0 ho hr hm
  go_enter Try.func23, Try.ntmps23
  go_wp2_with fail
  go_region_held3 (fun w' => w'.cell? ⟨es, 1, none⟩ = some (.func (.func 31) #[] #[.pointer (some ⟨bx, 0, none⟩)]) ∧ w'.cell? ⟨w.heap.size, 0, none⟩ = some (.string id) ∧ w'.cell? ⟨w.heap.size, 1, none⟩ = some (.string nm) ∧ w'.cell? ⟨w.heap.size, 2, none⟩ = some (.int .i64 k) ∧ w'.cell? ⟨w.heap.size, 3, none⟩ = some (.string gr) ∧ w'.cell? ⟨w.heap.size, 4, none⟩ = some (.int .i64 n)) (simp [*, go_sem, World.cell?_alloc_past])
    (first | (go_at_call 30; refine (year_any _ _).mono ?_; rintro e w' ⟨⟨y, rfl⟩, rfl⟩) | (go_at_call 31; refine (group_nil bx rg mg id nm gr k n d _ hg (unhide HB _) (unhide HR _) (unhide HM _)).mono ?_; rintro e w' ⟨rfl, c1, c2, rfl⟩) | (go_at_call 26; refine (find_nil es mo _ _ _ (unhide HE _ _ _) (unhide HO _ _ _)).mono ?_; rintro e w' ⟨rfl, rfl⟩))
  go_wp2
  go_ret2
  exact ⟨rfl, unhide HQ _ _ _⟩

set_option maxHeartbeats 400000 in
theorem zzunder_any (es : Nat) (id nm gr : ByteArray) (k n d kd : Int) (w : World) (H : Hid (∀ o, Calls Try.prog 23 #[.pointer (some ⟨es, 0, none⟩), .agg #[.string id, .string nm, .int .i64 k, .string gr, .int .i64 n], .int .i32 d, .int .i64 kd] (w.alloc o) fun e w' => e = .returned (.tuple #[.pointer none, .pointer none]) ∧ Below (w.alloc o).heap.size (w.alloc o) w')) :
    Calls Try.prog 15 #[.pointer (some ⟨es, 0, none⟩), .agg #[.string id, .string nm, .int .i64 k, .string gr, .int .i64 n], .int .i32 d, .int .i64 kd] w fun e w' => e = .returned (.tuple #[.bool false, .bool false]) ∧ Below w.heap.size w w' := by
  go_enter Try.func15, Try.ntmps15
  go_wp2_with fail
  refine (unhide H _).mono ?_
  rintro e w1 ⟨rfl, hb⟩
  have hq : Below w.heap.size w w1 := (bmore (Below.refl _ w) _).trans (hb.mono (by simp))
  have HQ := hide hq
  clear hb hq
  go_wp2
  go_ret2
  exact ⟨rfl, unhide HQ⟩
end Go.Proofs.Qxb6613226a
