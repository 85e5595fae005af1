/-
  THE UNSIGNED KEY: plain facts on bits. No Go text in sight. By an AI agent.
-/
import Derived.WalkKit
import Derived.Laws.BitsAllLaws
namespace Go.Proofs.Qxb6615029a

theorem xor63 (n : Nat) (h : n < 18446744073709551616) : n ^^^ 9223372036854775808 = (n + 9223372036854775808) % 18446744073709551616 := by
  have hd : (n ^^^ 2 ^ 63) / 2 ^ 63 = n / 2 ^ 63 ^^^ 2 ^ 63 / 2 ^ 63 := Nat.xor_div_two_pow
  have hm : (n ^^^ 2 ^ 63) % 2 ^ 63 = (n % 2 ^ 63) ^^^ (2 ^ 63 % 2 ^ 63) := Nat.xor_mod_two_pow
  have e1 : (2 : Nat) ^ 63 = 9223372036854775808 := by decide
  rw [e1] at hd hm
  have e2 : (9223372036854775808 : Nat) / 9223372036854775808 = 1 := by decide
  have e3 : (9223372036854775808 : Nat) % 9223372036854775808 = 0 := by decide
  rw [e2] at hd
  rw [e3, Nat.xor_zero] at hm
  have hc : n / 9223372036854775808 = 0 ∨ n / 9223372036854775808 = 1 := by omega
  rcases hc with hc | hc
  · rw [hc] at hd
    have e4 : (0 : Nat) ^^^ 1 = 1 := by decide
    rw [e4] at hd
    omega
  · rw [hc] at hd
    have e4 : (1 : Nat) ^^^ 1 = 0 := by decide
    rw [e4] at hd
    omega

/-- uint64(a) ^ (1 << 63): the order's key. -/
theorem key_eq (a : Int) (h0 : -9223372036854775808 ≤ a) (h1 : a ≤ 9223372036854775807) : bits .xor .u64 (a % 18446744073709551616) 9223372036854775808 = a + 9223372036854775808 := by
  rw [u64_xor _ _ (by omega) (by omega) (by omega) (by omega)]
  have e : (9223372036854775808 : Int).toNat = 9223372036854775808 := by decide
  rw [e, xor63 _ (by omega)]
  omega
theorem key_w (a : Int) (h0 : -9223372036854775808 ≤ a) (h1 : a ≤ 9223372036854775807) : bits .xor .u64 (IntKind.u64.wrap a) 9223372036854775808 = a + 9223372036854775808 := by
  have e : IntKind.u64.wrap a = a % 18446744073709551616 := by simp [IntKind.wrap, IntKind.bits, IntKind.signed]
  rw [e]; exact key_eq a h0 h1
end Go.Proofs.Qxb6615029a
