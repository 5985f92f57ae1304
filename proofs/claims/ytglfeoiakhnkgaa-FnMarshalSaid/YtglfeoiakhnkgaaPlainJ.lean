/- The plain law of jumps: squares of the recurrence. -/
import Derived.Test.YtglfeoiakhnkgaaPlain
namespace Go.Proofs.Ytglfeoiakhnkgaa.Pl
theorem sq_gen (M x a b : Nat) : (x * (a * a % M) % M + (a * b % M + b) % M) % M = (((x * a % M + b) % M) * a % M + b) % M := by
  rw [Nat.mul_mod_mod, Nat.mod_add_mod (a * b), ← Nat.add_mod, Nat.mod_add_mod (x * a), Nat.mod_mul_mod, Nat.mod_add_mod]
  congr 1
  grind
theorem jump_one (x : Nat) : add (mul x F) A = steps (2 ^ 0) x := by
  rw [Nat.pow_zero, steps_one, step_eq]
theorem jump_sq (a b j : Nat) (h : ∀ x, add (mul x a) b = steps (2 ^ j) x) (x : Nat) : add (mul x (mul a a)) (add (mul a b) b) = steps (2 ^ (j + 1)) x := by
  rw [Nat.pow_succ, Nat.mul_two, steps_add, ← h x, ← h]
  simp only [add_def, mul_def]
  exact sq_gen _ _ _ _
theorem jump_odd (m j s : Nat) (h : m % 2 = 1) : steps (m / 2 * 2 ^ (j + 1)) (steps (2 ^ j) s) = steps (m * 2 ^ j) s := by
  have e : m * 2 ^ j = 2 ^ j + m / 2 * 2 ^ (j + 1) := by
    rw [Nat.pow_succ, Nat.mul_comm (2 ^ j) 2, ← Nat.mul_assoc]
    have : m = m / 2 * 2 + 1 := by omega
    generalize m / 2 = q at *
    subst this
    rw [Nat.add_mul]
    omega
  rw [e, steps_add]
theorem jump_even (m j s : Nat) (h : m % 2 = 0) : steps (m / 2 * 2 ^ (j + 1)) s = steps (m * 2 ^ j) s := by
  have e : m * 2 ^ j = m / 2 * 2 ^ (j + 1) := by
    rw [Nat.pow_succ, Nat.mul_comm (2 ^ j) 2, ← Nat.mul_assoc]
    have : m = m / 2 * 2 := by omega
    rw [← this]
  rw [e]
end Go.Proofs.Ytglfeoiakhnkgaa.Pl
