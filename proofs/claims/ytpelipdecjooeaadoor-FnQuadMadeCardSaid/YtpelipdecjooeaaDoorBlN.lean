/- Bit lengths and counts of ones, and what the tables say of them: no program in sight. -/
import Derived.Test.YtpelipdecjooeaaDoorTab
namespace Go.Proofs.YtpelipdecjooeaaDoor.BlN
open Go Go.Proofs.YtpelipdecjooeaaDoor.Tab

def blen (n : Nat) : Nat := if n = 0 then 0 else Nat.log2 n + 1
theorem blen_two (n : Nat) (h : 1 ≤ n) : blen n = blen (n / 2) + 1 := by
  unfold blen
  rw [if_neg (by omega)]
  by_cases h2 : n / 2 = 0
  · rw [if_pos h2]
    obtain rfl : n = 1 := by omega
    rfl
  · rw [if_neg h2, Nat.log2_def n, if_pos (by omega)]
theorem blen_pow (k : Nat) : ∀ n : Nat, 2 ^ k ≤ n → blen n = blen (n / 2 ^ k) + k := by
  induction k with
  | zero => intro n _; simp
  | succ k ih =>
    intro n h
    rw [Nat.pow_succ] at h
    have h2 : 1 ≤ 2 ^ k := Nat.one_le_two_pow
    rw [blen_two n (by omega), ih (n / 2) (by omega), Nat.div_div_eq_div_mul, Nat.pow_succ, Nat.mul_comm 2]
    omega
theorem blen_zero : blen 0 = 0 := rfl
theorem blen_pos (n : Nat) (h : 1 ≤ n) : 1 ≤ blen n := by unfold blen; rw [if_neg (by omega)]; omega
theorem blen_le (k : Nat) : ∀ n : Nat, n < 2 ^ k → blen n ≤ k := by
  induction k with
  | zero => intro n h; obtain rfl : n = 0 := by simp at h; exact h
            exact Nat.le_refl _
  | succ k ih =>
    intro n h
    rw [Nat.pow_succ] at h
    by_cases h0 : n = 0
    · subst h0; rw [blen_zero]; omega
    · rw [blen_two n (by omega)]
      have := ih (n / 2) (by omega)
      omega
theorem logs_at : ∀ i < 256, logs.getD i 0 = (blen i : Int) - 1 := by decide +kernel
end Go.Proofs.YtpelipdecjooeaaDoor.BlN
