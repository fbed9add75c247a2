/- Bit lengths and counts of ones, and what the tables say of them: no program in sight. -/
import Derived.Test.YtfoifemajoebpaaDoorTab
namespace Go.Proofs.YtfoifemajoebpaaDoor.BlN
open Go Go.Proofs.YtfoifemajoebpaaDoor.Tab

def blen (n : Nat) : Nat := if n = 0 then 0 else Nat.log2 n + 1
def onesN : Nat → Nat → Nat
  | 0, _ => 0
  | f + 1, x => x % 2 + onesN f (x / 2)

theorem blen_two (n : Nat) (h : 1 ≤ n) : blen n = blen (n / 2) + 1 := by
  unfold blen
  rw [if_neg (by omega)]
  by_cases h2 : n / 2 = 0
  · rw [if_pos h2]
    obtain rfl : n = 1 := by omega
    rfl
  · rw [if_neg h2, Nat.log2_def n, if_pos (by omega)]
theorem blen_pow (k : Nat) : ∀ n : Nat, 2 ^ k ≤ n → blen n = blen (n / 2 ^ k) + k := by
  induction k with
  | zero => intro n _; simp
  | succ k ih =>
    intro n h
    rw [Nat.pow_succ] at h
    have h2 : 1 ≤ 2 ^ k := Nat.one_le_two_pow
    rw [blen_two n (by omega), ih (n / 2) (by omega), Nat.div_div_eq_div_mul, Nat.pow_succ, Nat.mul_comm 2]
    omega
theorem blen_zero : blen 0 = 0 := rfl
theorem blen_pos (n : Nat) (h : 1 ≤ n) : 1 ≤ blen n := by unfold blen; rw [if_neg (by omega)]; omega
theorem blen_le (k : Nat) : ∀ n : Nat, n < 2 ^ k → blen n ≤ k := by
  induction k with
  | zero => intro n h; obtain rfl : n = 0 := by simp at h; exact h
            exact Nat.le_refl _
  | succ k ih =>
    intro n h
    rw [Nat.pow_succ] at h
    by_cases h0 : n = 0
    · subst h0; rw [blen_zero]; omega
    · rw [blen_two n (by omega)]
      have := ih (n / 2) (by omega)
      omega
theorem logs_at : ∀ i < 256, logs.getD i 0 = (blen i : Int) - 1 := by decide +kernel
theorem pops_at : ∀ i < 256, pops.getD i 0 = (onesN 8 i : Int) := by decide +kernel
theorem ones_zero (f : Nat) : onesN f 0 = 0 := by
  induction f with
  | zero => rfl
  | succ f ih => rw [onesN, ih]
theorem ones_le (f : Nat) : ∀ x, onesN f x ≤ f := by
  induction f with
  | zero => intro x; exact Nat.le_refl _
  | succ f ih => intro x; have := ih (x / 2); rw [onesN]; omega
/-- the ones of a number's lower part and of its upper -/
theorem ones_cut (g : Nat) (f : Nat) : ∀ x, onesN (f + g) x = onesN f (x % 2 ^ f) + onesN g (x / 2 ^ f) := by
  induction f with
  | zero => intro x; simp [onesN]
  | succ f ih =>
    intro x
    rw [show f + 1 + g = (f + g) + 1 by omega, onesN, ih (x / 2), onesN, Nat.div_div_eq_div_mul, Nat.pow_succ, Nat.mul_comm (2 ^ f) 2, Nat.mod_mul_right_mod, Nat.mod_mul_right_div_self]
    omega
theorem ones_small (g f x : Nat) (h : x < 2 ^ f) : onesN (f + g) x = onesN f x := by
  rw [ones_cut, Nat.mod_eq_of_lt h, Nat.div_eq_of_lt h, ones_zero]; omega
theorem ones_byte (g : Nat) (x : Nat) : onesN (8 + g) x = onesN 8 (x % 256) + onesN g (x / 256) := ones_cut g 8 x
theorem ones_16 (x : Nat) : onesN 16 x = onesN 8 (x % 256) + onesN 8 (x / 256) := ones_byte 8 x
theorem ones_32 (x : Nat) : onesN 32 x = onesN 8 (x % 256) + onesN 8 (x / 256 % 256) + onesN 8 (x / 65536 % 256) + onesN 8 (x / 16777216) := by
  rw [ones_byte 24 x, ones_byte 16 (x / 256), ones_byte 8 (x / 256 / 256)]
  simp only [Nat.div_div_eq_div_mul, Nat.reduceMul]
  omega
theorem ones_64 (x : Nat) : onesN 64 x = onesN 8 (x % 256) + onesN 8 (x / 256 % 256) + onesN 8 (x / 65536 % 256) + onesN 8 (x / 16777216 % 256) + onesN 8 (x / 4294967296 % 256) + onesN 8 (x / 1099511627776 % 256) + onesN 8 (x / 281474976710656 % 256) + onesN 8 (x / 72057594037927936) := by
  rw [ones_byte 56 x, ones_byte 48, ones_byte 40, ones_byte 32, ones_byte 24, ones_byte 16, ones_byte 8]
  simp only [Nat.div_div_eq_div_mul, Nat.reduceMul]
  omega
/-- as many ones in two numbers as in what is in one of them and what is in both -/
theorem ones_joined (f : Nat) : ∀ a b : Nat, onesN f a + onesN f b = onesN f (a ||| b) + onesN f (a &&& b) := by
  induction f with
  | zero => intro a b; rfl
  | succ f ih =>
    intro a b
    have h := ih (a / 2) (b / 2)
    simp only [onesN, Nat.or_div_two, Nat.and_div_two]
    have ho : (a ||| b) % 2 = (a % 2 ||| b % 2) := Nat.or_mod_two_pow (n := 1)
    have ha : (a &&& b) % 2 = (a % 2 &&& b % 2) := Nat.and_mod_two_pow (n := 1)
    rw [ho, ha]
    rcases Nat.mod_two_eq_zero_or_one a with e | e <;> rcases Nat.mod_two_eq_zero_or_one b with e' | e' <;> rw [e, e'] <;> simp <;> omega

end Go.Proofs.YtfoifemajoebpaaDoor.BlN
