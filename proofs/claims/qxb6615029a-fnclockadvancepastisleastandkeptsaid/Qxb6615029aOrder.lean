/-
  Compare, Less, hlcB1Before. By an AI agent.
-/
import Derived.Test.Qxb6615029aAdv
import Derived.Test.Qxb6615029aKey
namespace Go.Proofs.Qxb6615029a
open Go.RowKit
set_option linter.unusedVariables false

/-- What Compare answers. -/
def cmpT (tW tL uW uL : Int) : Int := if tW < uW then -1 else if uW < tW then 1 else if tL < uL then -1 else if uL < tL then 1 else 0
/-- t is before u. -/
def ltT (tW tL uW uL : Int) : Bool := decide (tW < uW ∨ (tW = uW ∧ tL < uL))

theorem cmp_neg (tW tL uW uL : Int) : decide (cmpT tW tL uW uL < 0) = ltT tW tL uW uL := by
  unfold cmpT ltT; rw [decide_eq_decide]; split <;> (try split) <;> (try split) <;> (try split) <;> omega
theorem cmp_pos (tW tL uW uL : Int) : decide (0 < cmpT tW tL uW uL) = ltT uW uL tW tL := by
  unfold cmpT ltT; rw [decide_eq_decide]; split <;> (try split) <;> (try split) <;> (try split) <;> omega

set_option maxHeartbeats 400000 in
theorem cmp64 (x y : Int) (w : World) : Calls Try.prog 29 #[.int .i64 x, .int .i64 y] w fun e w' => e = .returned (.int .i64 (if x < y then -1 else if y < x then 1 else 0)) ∧ w' = w := by
  by_cases h1 : x < y
  · rw [if_pos h1]
    go_enter Try.func29, Try.ntmps29
    go_wp2
    go_ret
    exact ⟨rfl, rfl⟩
  · rw [if_neg h1]
    by_cases h2 : y < x
    · rw [if_pos h2]
      go_enter Try.func29, Try.ntmps29
      go_wp2
      go_ret
      exact ⟨rfl, rfl⟩
    · rw [if_neg h2]
      go_enter Try.func29, Try.ntmps29
      go_wp2
      go_ret
      exact ⟨rfl, rfl⟩

set_option maxHeartbeats 400000 in
theorem cmp32 (x y : Int) (w : World) : Calls Try.prog 30 #[.int .u32 x, .int .u32 y] w fun e w' => e = .returned (.int .i64 (if x < y then -1 else if y < x then 1 else 0)) ∧ w' = w := by
  by_cases h1 : x < y
  · rw [if_pos h1]
    go_enter Try.func30, Try.ntmps30
    go_wp2
    go_ret
    exact ⟨rfl, rfl⟩
  · rw [if_neg h1]
    by_cases h2 : y < x
    · rw [if_pos h2]
      go_enter Try.func30, Try.ntmps30
      go_wp2
      go_ret
      exact ⟨rfl, rfl⟩
    · rw [if_neg h2]
      go_enter Try.func30, Try.ntmps30
      go_wp2
      go_ret
      exact ⟨rfl, rfl⟩

def c3 (x y : Int) : Int := if x < y then -1 else if y < x then 1 else 0

set_option maxHeartbeats 400000 in
theorem compare_any (tW tL uW uL : Int) (w : World) :
    Calls Try.prog 22 #[.agg #[.int .i64 tW, .int .u32 tL], .agg #[.int .i64 uW, .int .u32 uL]] w fun e w' => e = .returned (.int .i64 (cmpT tW tL uW uL)) ∧ ∃ c1 c2, w' = (w.alloc (.cells c1 24)).alloc (.cells c2 24) := by
  by_cases h0 : c3 tW uW = 0
  · have e : cmpT tW tL uW uL = c3 tL uL := by unfold cmpT c3 at *; split <;> (try split) <;> simp_all
    have t : (c3 tW uW != 0) = false := by simp [h0]
    rw [e]
    clear e h0
    have hc := fun w => cmp64 tW uW w
    have hd := fun w => cmp32 tL uL w
    rw [show (if tW < uW then -1 else if uW < tW then 1 else 0 : Int) = c3 tW uW from rfl] at hc
    rw [show (if tL < uL then -1 else if uL < tL then 1 else 0 : Int) = c3 tL uL from rfl] at hd
    have HC := hide hc
    have HD := hide hd
    clear hc hd
    go_enter Try.func22, Try.ntmps22
    go_wp2_with (first | (go_at_call 29; refine (unhide HC _).mono ?_; rintro e w' ⟨rfl, rfl⟩) | (go_at_call 30; refine (unhide HD _).mono ?_; rintro e w' ⟨rfl, rfl⟩))
    go_ret
    exact ⟨rfl, _, _, rfl⟩
  · have e : cmpT tW tL uW uL = c3 tW uW := by unfold cmpT c3 at *; split <;> (try split) <;> simp_all
    have t : (c3 tW uW != 0) = true := by simp [h0]
    rw [e]
    clear e h0
    have hc := fun w => cmp64 tW uW w
    rw [show (if tW < uW then -1 else if uW < tW then 1 else 0 : Int) = c3 tW uW from rfl] at hc
    have HC := hide hc
    clear hc
    go_enter Try.func22, Try.ntmps22
    go_wp2_with (go_at_call 29; refine (unhide HC _).mono ?_; rintro e w' ⟨rfl, rfl⟩)
    go_ret
    exact ⟨rfl, _, _, rfl⟩

set_option maxHeartbeats 400000 in
theorem less_any (tW tL uW uL : Int) (w : World) :
    Calls Try.prog 10 #[.agg #[.int .i64 tW, .int .u32 tL], .agg #[.int .i64 uW, .int .u32 uL]] w fun e w' => e = .returned (.bool (ltT tW tL uW uL)) ∧ ∃ c1 c2 c3 c4, w' = (((w.alloc (.cells c1 24)).alloc (.cells c2 24)).alloc (.cells c3 24)).alloc (.cells c4 24) := by
  rw [← cmp_neg]
  go_enter Try.func10, Try.ntmps10
  go_wp2_with (go_at_call 22; refine (compare_any _ _ _ _ _).mono ?_; rintro e w' ⟨rfl, c1, c2, rfl⟩)
  go_ret
  exact ⟨rfl, _, _, _, _, rfl⟩

set_option maxHeartbeats 400000 in
theorem before_any (aW aL bW bL : Int) (w : World) (h0 : -9223372036854775808 ≤ aW) (h1 : aW ≤ 9223372036854775807) (h2 : -9223372036854775808 ≤ bW) (h3 : bW ≤ 9223372036854775807) :
    Calls Try.prog 11 #[.agg #[.int .i64 aW, .int .u32 aL], .agg #[.int .i64 bW, .int .u32 bL]] w fun e w' => e = .returned (.bool (ltT aW aL bW bL)) ∧ ∃ c1 c2, w' = (w.alloc (.cells c1 24)).alloc (.cells c2 24) := by
  by_cases he : aW = bW
  · subst he
    have e : ltT aW aL aW bL = decide (aL < bL) := by unfold ltT; rw [decide_eq_decide]; omega
    rw [e]
    clear e
    go_enter Try.func11, Try.ntmps11
    go_wp2
    go_ret
    exact ⟨rfl, _, _, rfl⟩
  · have t1 : (bits .xor .u64 (IntKind.u64.wrap aW) 9223372036854775808 != bits .xor .u64 (IntKind.u64.wrap bW) 9223372036854775808) = true := by
      rw [key_w aW h0 h1, key_w bW h2 h3, bne_iff_ne]; omega
    have e : ltT aW aL bW bL = decide (bits .xor .u64 (IntKind.u64.wrap aW) 9223372036854775808 < bits .xor .u64 (IntKind.u64.wrap bW) 9223372036854775808) := by
      rw [key_w aW h0 h1, key_w bW h2 h3]; unfold ltT; rw [decide_eq_decide]; omega
    rw [e]
    clear e he h0 h1 h2 h3
    go_enter Try.func11, Try.ntmps11
    go_wp2
    go_ret
    exact ⟨rfl, _, _, rfl⟩
end Go.Proofs.Qxb6615029a
