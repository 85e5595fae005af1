/-
  FnNewClockScriptEachAfterAllBefore: the ways on which no round is made. By an AI agent.
-/
import Derived.Test.Qxb6615029aScr
namespace Go.Proofs.Qxb6615029a
open Go.RowKit
set_option linter.unusedVariables false

set_option maxHeartbeats 400000 in
theorem script_long0 (a0 a1 a2 : Option Addr) (l0 c0 l1 c1 l2 c2 : Nat) (w : World) (h0 : 4096 < l0) :
    Calls Try.prog 7 #[.slice a0 l0 c0, .slice a1 l1 c1, .slice a2 l2 c2] w fun e w' => e = .returned (.bool true) ∧ Q w.heap.size w w' := by
  have t0 : decide ((4096 : Int) < (l0 : Int)) = true := by simp; omega
  go_enter Try.func7, Try.ntmps7
  go_wp2_with fail
  refine (bytes_any _ _ _ _ _ _ _ _ _ _).mono ?_
  rintro e w' ⟨⟨b, rfl⟩, rfl⟩
  cases b
  · go_wp2
    go_ret
    exact ⟨rfl, Q.refl _ _⟩
  go_wp2
  go_ret
  exact ⟨rfl, Q.refl _ _⟩

set_option maxHeartbeats 400000 in
theorem script_long1 (a0 a1 a2 : Option Addr) (l0 c0 l1 c1 l2 c2 : Nat) (w : World) (h0 : l0 ≤ 4096) (h1 : 4096 < l1) :
    Calls Try.prog 7 #[.slice a0 l0 c0, .slice a1 l1 c1, .slice a2 l2 c2] w fun e w' => e = .returned (.bool true) ∧ Q w.heap.size w w' := by
  have t0 : decide ((4096 : Int) < (l0 : Int)) = false := by simp; omega
  have t1 : decide ((4096 : Int) < (l1 : Int)) = true := by simp; omega
  go_enter Try.func7, Try.ntmps7
  go_wp2_with fail
  refine (bytes_any _ _ _ _ _ _ _ _ _ _).mono ?_
  rintro e w' ⟨⟨b, rfl⟩, rfl⟩
  cases b
  · go_wp2
    go_ret
    exact ⟨rfl, Q.refl _ _⟩
  go_wp2
  go_ret
  exact ⟨rfl, Q.refl _ _⟩

set_option maxHeartbeats 400000 in
theorem script_long2 (a0 a1 a2 : Option Addr) (l0 c0 l1 c1 l2 c2 : Nat) (w : World) (h0 : l0 ≤ 4096) (h1 : l1 ≤ 4096) (h2 : 4096 < l2) :
    Calls Try.prog 7 #[.slice a0 l0 c0, .slice a1 l1 c1, .slice a2 l2 c2] w fun e w' => e = .returned (.bool true) ∧ Q w.heap.size w w' := by
  have t0 : decide ((4096 : Int) < (l0 : Int)) = false := by simp; omega
  have t1 : decide ((4096 : Int) < (l1 : Int)) = false := by simp; omega
  have t2 : decide ((4096 : Int) < (l2 : Int)) = true := by simp; omega
  go_enter Try.func7, Try.ntmps7
  go_wp2_with fail
  refine (bytes_any _ _ _ _ _ _ _ _ _ _).mono ?_
  rintro e w' ⟨⟨b, rfl⟩, rfl⟩
  cases b
  · go_wp2
    go_ret
    exact ⟨rfl, Q.refl _ _⟩
  go_wp2
  go_ret
  exact ⟨rfl, Q.refl _ _⟩

set_option maxHeartbeats 400000 in
theorem script_nil0 (a0 a1 a2 : Option Addr) (l0 c0 l1 c1 l2 c2 : Nat) (w : World) (h0 : l0 ≤ 4096) (h1 : l1 ≤ 4096) (h2 : l2 ≤ 4096) (d1 : ¬ l1 < l0) (d2 : ¬ l2 < l0) (hz : l0 ≤ 0) :
    Calls Try.prog 7 #[.slice a0 l0 c0, .slice a1 l1 c1, .slice a2 l2 c2] w fun e w' => e = .returned (.bool true) ∧ Q w.heap.size w w' := by
  have t0 : decide ((4096 : Int) < (l0 : Int)) = false := by simp; omega
  have t1 : decide ((4096 : Int) < (l1 : Int)) = false := by simp; omega
  have t2 : decide ((4096 : Int) < (l2 : Int)) = false := by simp; omega
  go_enter Try.func7, Try.ntmps7
  go_wp2_with fail
  refine (bytes_any _ _ _ _ _ _ _ _ _ _).mono ?_
  rintro e w' ⟨⟨b, rfl⟩, rfl⟩
  cases b
  · go_wp2
    go_ret
    exact ⟨rfl, Q.refl _ _⟩
  go_wp2_with (go_at_call 15; refine (mk_any _ _).mono ?_; rintro e w' ⟨rfl, rfl⟩)
  go_loopw [11] (fun i wr => i = .int .i64 0 ∧ Q w.heap.size w wr) (fun _ _ => 0)
  case atStart => exact ⟨rfl, q_four w _ _ _ _ _ _ _ _⟩
  case round =>
    obtain ⟨rfl, hq⟩ := hrel
    have HQ := hide hq
    clear hq
    go_wp2
    go_ret
    exact ⟨rfl, unhide HQ⟩

set_option maxHeartbeats 400000 in
theorem script_nil1 (a0 a1 a2 : Option Addr) (l0 c0 l1 c1 l2 c2 : Nat) (w : World) (h0 : l0 ≤ 4096) (h1 : l1 ≤ 4096) (h2 : l2 ≤ 4096) (d1 : l1 < l0) (d2 : ¬ l2 < l1) (hz : l1 ≤ 0) :
    Calls Try.prog 7 #[.slice a0 l0 c0, .slice a1 l1 c1, .slice a2 l2 c2] w fun e w' => e = .returned (.bool true) ∧ Q w.heap.size w w' := by
  have t0 : decide ((4096 : Int) < (l0 : Int)) = false := by simp; omega
  have t1 : decide ((4096 : Int) < (l1 : Int)) = false := by simp; omega
  have t2 : decide ((4096 : Int) < (l2 : Int)) = false := by simp; omega
  go_enter Try.func7, Try.ntmps7
  go_wp2_with fail
  refine (bytes_any _ _ _ _ _ _ _ _ _ _).mono ?_
  rintro e w' ⟨⟨b, rfl⟩, rfl⟩
  cases b
  · go_wp2
    go_ret
    exact ⟨rfl, Q.refl _ _⟩
  go_wp2_with (go_at_call 15; refine (mk_any _ _).mono ?_; rintro e w' ⟨rfl, rfl⟩)
  go_loopw [11] (fun i wr => i = .int .i64 0 ∧ Q w.heap.size w wr) (fun _ _ => 0)
  case atStart => exact ⟨rfl, q_four w _ _ _ _ _ _ _ _⟩
  case round =>
    obtain ⟨rfl, hq⟩ := hrel
    have HQ := hide hq
    clear hq
    go_wp2
    go_ret
    exact ⟨rfl, unhide HQ⟩

set_option maxHeartbeats 400000 in
theorem script_nil2 (a0 a1 a2 : Option Addr) (l0 c0 l1 c1 l2 c2 : Nat) (w : World) (h0 : l0 ≤ 4096) (h1 : l1 ≤ 4096) (h2 : l2 ≤ 4096) (d1 : ¬ l1 < l0) (d2 : l2 < l0) (hz : l2 ≤ 0) :
    Calls Try.prog 7 #[.slice a0 l0 c0, .slice a1 l1 c1, .slice a2 l2 c2] w fun e w' => e = .returned (.bool true) ∧ Q w.heap.size w w' := by
  have t0 : decide ((4096 : Int) < (l0 : Int)) = false := by simp; omega
  have t1 : decide ((4096 : Int) < (l1 : Int)) = false := by simp; omega
  have t2 : decide ((4096 : Int) < (l2 : Int)) = false := by simp; omega
  go_enter Try.func7, Try.ntmps7
  go_wp2_with fail
  refine (bytes_any _ _ _ _ _ _ _ _ _ _).mono ?_
  rintro e w' ⟨⟨b, rfl⟩, rfl⟩
  cases b
  · go_wp2
    go_ret
    exact ⟨rfl, Q.refl _ _⟩
  go_wp2_with (go_at_call 15; refine (mk_any _ _).mono ?_; rintro e w' ⟨rfl, rfl⟩)
  go_loopw [11] (fun i wr => i = .int .i64 0 ∧ Q w.heap.size w wr) (fun _ _ => 0)
  case atStart => exact ⟨rfl, q_four w _ _ _ _ _ _ _ _⟩
  case round =>
    obtain ⟨rfl, hq⟩ := hrel
    have HQ := hide hq
    clear hq
    go_wp2
    go_ret
    exact ⟨rfl, unhide HQ⟩

set_option maxHeartbeats 400000 in
theorem script_nil3 (a0 a1 a2 : Option Addr) (l0 c0 l1 c1 l2 c2 : Nat) (w : World) (h0 : l0 ≤ 4096) (h1 : l1 ≤ 4096) (h2 : l2 ≤ 4096) (d1 : l1 < l0) (d2 : l2 < l1) (hz : l2 ≤ 0) :
    Calls Try.prog 7 #[.slice a0 l0 c0, .slice a1 l1 c1, .slice a2 l2 c2] w fun e w' => e = .returned (.bool true) ∧ Q w.heap.size w w' := by
  have t0 : decide ((4096 : Int) < (l0 : Int)) = false := by simp; omega
  have t1 : decide ((4096 : Int) < (l1 : Int)) = false := by simp; omega
  have t2 : decide ((4096 : Int) < (l2 : Int)) = false := by simp; omega
  go_enter Try.func7, Try.ntmps7
  go_wp2_with fail
  refine (bytes_any _ _ _ _ _ _ _ _ _ _).mono ?_
  rintro e w' ⟨⟨b, rfl⟩, rfl⟩
  cases b
  · go_wp2
    go_ret
    exact ⟨rfl, Q.refl _ _⟩
  go_wp2_with (go_at_call 15; refine (mk_any _ _).mono ?_; rintro e w' ⟨rfl, rfl⟩)
  go_loopw [11] (fun i wr => i = .int .i64 0 ∧ Q w.heap.size w wr) (fun _ _ => 0)
  case atStart => exact ⟨rfl, q_four w _ _ _ _ _ _ _ _⟩
  case round =>
    obtain ⟨rfl, hq⟩ := hrel
    have HQ := hide hq
    clear hq
    go_wp2
    go_ret
    exact ⟨rfl, unhide HQ⟩
end Go.Proofs.Qxb6615029a
