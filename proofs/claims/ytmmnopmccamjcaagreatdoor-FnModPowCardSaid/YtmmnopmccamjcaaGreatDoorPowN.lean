namespace PowN

/-- square and multiply, by numbers without a bound -/
theorem step_odd (r b e m : Nat) (he : e % 2 = 1) : (r * b % m) * (b * b % m) ^ (e / 2) % m = r * b ^ e % m := by
  have h1 : e = 2 * (e / 2) + 1 := by omega
  have h2 : b ^ e = b * (b * b) ^ (e / 2) := by
    conv => lhs; rw [h1]
    rw [Nat.pow_succ, Nat.pow_mul, Nat.mul_comm, Nat.pow_two]
  rw [h2, Nat.mul_mod, Nat.mod_mod, ← Nat.pow_mod, ← Nat.mul_mod, Nat.mul_assoc]

theorem step_even (r b e m : Nat) (he : e % 2 = 0) : r * (b * b % m) ^ (e / 2) % m = r * b ^ e % m := by
  have h1 : e = 2 * (e / 2) := by omega
  have h2 : b ^ e = (b * b) ^ (e / 2) := by
    conv => lhs; rw [h1]
    rw [Nat.pow_mul, Nat.pow_two]
  rw [h2, Nat.mul_mod, ← Nat.pow_mod, ← Nat.mul_mod]

end PowN
