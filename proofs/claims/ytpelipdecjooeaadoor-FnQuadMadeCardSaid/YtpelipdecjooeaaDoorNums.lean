namespace Nums

theorem sq_nonneg (a : Int) : 0 ≤ a * a := by
  rcases Int.le_total 0 a with h | h
  · exact Int.mul_nonneg h h
  · have := Int.mul_nonneg (a := -a) (b := -a) (by omega) (by omega)
    rwa [Int.neg_mul_neg] at this

theorem sq_le {a b : Int} (h0 : 0 ≤ a) (h : a ≤ b) : a * a ≤ b * b := Int.mul_le_mul h h h0 (by omega)

theorem sqrt_exN (n : Nat) : ∃ s : Nat, s * s ≤ n ∧ n < (s + 1) * (s + 1) := by
  induction n with
  | zero => exact ⟨0, by decide, by decide⟩
  | succ n ih =>
    obtain ⟨s, h1, h2⟩ := ih
    by_cases h : n + 1 < (s + 1) * (s + 1)
    · exact ⟨s, by omega, h⟩
    · refine ⟨s + 1, by omega, ?_⟩
      have : (s + 1 + 1) * (s + 1 + 1) = (s + 1) * (s + 1) + 2 * s + 3 := by grind
      omega

theorem sqrt_ex (n : Int) (h : 0 ≤ n) : ∃ s : Int, 0 ≤ s ∧ s * s ≤ n ∧ n < (s + 1) * (s + 1) := by
  obtain ⟨s, h1, h2⟩ := sqrt_exN n.toNat
  refine ⟨s, by omega, ?_, ?_⟩
  · have : ((s * s : Nat) : Int) ≤ (n.toNat : Int) := by exact_mod_cast h1
    rw [Int.natCast_mul] at this; omega
  · have : ((n.toNat : Nat) : Int) < (((s + 1) * (s + 1) : Nat) : Int) := by exact_mod_cast h2
    rw [Int.natCast_mul, Int.natCast_add] at this; simp only [Int.natCast_one] at this; omega

/-- what is told of a root is unique -/
theorem root_unique {s x n : Int} (hs : 0 ≤ s) (hx : 0 ≤ x) (h1 : s * s ≤ n) (h2 : n < (s + 1) * (s + 1)) (h3 : x * x ≤ n) (h4 : n < (x + 1) * (x + 1)) : s = x := by
  rcases Int.lt_trichotomy s x with h | h | h
  · have := sq_le (a := s + 1) (b := x) (by omega) (by omega); omega
  · exact h
  · have := sq_le (a := x + 1) (b := s) (by omega) (by omega); omega

/-- one step of Newton from x: never below the root -/
theorem newton_ge {s x n : Int} (hx : 1 ≤ x) (h1 : s * s ≤ n) : s ≤ (x + n / x) / 2 := by
  have h : 2 * s - x ≤ n / x := by
    refine (Int.le_ediv_iff_mul_le (by omega)).mpr ?_
    have := sq_nonneg (s - x)
    have e : (s - x) * (s - x) = s * s - (2 * s - x) * x := by grind
    omega
  omega

/-- from above the root the step goes down -/
theorem newton_lt {s x n : Int} (hs : 0 ≤ s) (hx : s + 1 ≤ x) (h2 : n < (s + 1) * (s + 1)) : (x + n / x) / 2 < x := by
  have h : n / x < x := by
    refine (Int.ediv_lt_iff_lt_mul (by omega)).mpr ?_
    have := sq_le (a := s + 1) (b := x) (by omega) (by omega)
    omega
  omega

/-- at the root the step stays, or goes up by one where the number is one less than the next square -/
theorem newton_at {s n : Int} (hs : 1 ≤ s) (h1 : s * s ≤ n) (h2 : n < (s + 1) * (s + 1)) :
    (s + n / s) / 2 = s ∨ ((s + n / s) / 2 = s + 1 ∧ n = s * s + 2 * s) := by
  have h3 : s ≤ n / s := (Int.le_ediv_iff_mul_le (by omega)).mpr h1
  have h4 : n / s < s + 3 := by
    refine (Int.ediv_lt_iff_lt_mul (by omega)).mpr ?_
    have e : (s + 3) * s = s * s + 3 * s := by grind
    have e2 : (s + 1) * (s + 1) = s * s + 2 * s + 1 := by grind
    omega
  by_cases h : n / s = s + 2
  · right
    have h5 : (s + 2) * s ≤ n := by
      have := (Int.le_ediv_iff_mul_le (a := s + 2) (b := n) (c := s) (by omega)).mp (by omega)
      exact this
    have e : (s + 2) * s = s * s + 2 * s := by grind
    have e2 : (s + 1) * (s + 1) = s * s + 2 * s + 1 := by grind
    constructor
    · omega
    · omega
  · left; omega

/-- where the number is one less than the next square, only that square's root leads to the root -/
theorem newton_far {s x n : Int} (hs : 0 ≤ s) (hx : s + 2 ≤ x) (h : n = s * s + 2 * s) : s + 1 ≤ (x + n / x) / 2 := by
  have h : 2 * s + 2 - x ≤ n / x := by
    refine (Int.le_ediv_iff_mul_le (by omega)).mpr ?_
    have := Int.mul_nonneg (a := x - s) (b := x - s - 2) (by omega) (by omega)
    have e : (x - s) * (x - s - 2) = (s * s + 2 * s) - (2 * s + 2 - x) * x := by grind
    omega
  omega

end Nums
