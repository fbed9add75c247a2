/- Division of two words by one, a half word at a time: the guess and its corrections. No program in sight. -/
namespace Go.Proofs.YtmmnopmccamjcaaGreatDoor.KnN
/-- the true half-word quotient -/
abbrev T : Int := 4294967296
def Q (u n y : Int) : Int := (u * 4294967296 + n) / y
variable {u n y y1 y0 q r : Int}
theorem q_le (hy : 0 < y) : Q u n y * y ≤ u * 4294967296 + n := Int.ediv_mul_le _ (by omega)
theorem q_lt (hy : 0 < y) : u * 4294967296 + n < (Q u n y + 1) * y := Int.lt_ediv_add_one_mul_self _ hy
theorem q_nonneg (hy : 0 < y) (hu : 0 ≤ u) (hn : 0 ≤ n) : 0 ≤ Q u n y := Int.ediv_nonneg (by omega) (by omega)
theorem q_small (hy : 0 < y) (hu : u < y) (hn : n < 4294967296) : Q u n y < 4294967296 := by
  unfold Q
  refine Int.ediv_lt_of_lt_mul hy ?_
  have : (u + 1) * 4294967296 ≤ y * 4294967296 := Int.mul_le_mul_of_nonneg_right (by omega) (by omega)
  omega
theorem split_y (q : Int) (e : y = y1 * 4294967296 + y0) : q * y = q * y1 * 4294967296 + q * y0 := by rw [e]; grind
theorem first (e : y = y1 * 4294967296 + y0) (h1 : 2147483648 ≤ y1) (h0 : 0 ≤ y0) (h0' : y0 < 4294967296) (hu : 0 ≤ u) (huy : u < y) (hn : 0 ≤ n) (hn' : n < 4294967296) :
    Q u n y ≤ u / y1 ∧ u / y1 ≤ 4294967297 ∧ 0 ≤ u - u / y1 * y1 ∧ u - u / y1 * y1 < y1 := by
  have hy : 0 < y := by omega
  have hm := Int.emod_add_mul_ediv u y1
  have hm0 := Int.emod_nonneg u (show y1 ≠ 0 by omega)
  have hm1 := Int.emod_lt_of_pos u (show 0 < y1 by omega)
  have hc : y1 * (u / y1) = u / y1 * y1 := Int.mul_comm _ _
  refine ⟨?_, ?_, by omega, by omega⟩
  · refine (Int.le_ediv_iff_mul_le (by omega)).mpr ?_
    have h2 := q_le (u := u) (n := n) hy
    have h3 := split_y (Q u n y) e
    have h4 := Int.mul_nonneg (q_nonneg (n := n) hy hu hn) h0
    omega
  · have : u / y1 < 4294967298 := Int.ediv_lt_of_lt_mul (by omega) (by omega)
    omega
theorem too_great (e : y = y1 * 4294967296 + y0) (hy : 0 < y) (huy : u < y) (hn' : n < 4294967296) (hr : r = u - q * y1)
    (hc : q ≥ 4294967296 ∨ q * y0 > 4294967296 * r + n) : Q u n y ≤ q - 1 := by
  rcases hc with h | h
  · have := q_small (n := n) hy huy hn'; omega
  · have h2 := q_le (u := u) (n := n) hy
    have h3 := split_y q e
    have h5 : Q u n y * y < q * y := by omega
    have := Int.lt_of_mul_lt_mul_right h5 (by omega)
    omega
theorem small_enough (e : y = y1 * 4294967296 + y0) (hy : 0 < y) (hr : r = u - q * y1) (hc : q * y0 ≤ 4294967296 * r + n) : q ≤ Q u n y := by
  have h3 := split_y q e
  exact (Int.le_ediv_iff_mul_le hy).mpr (by omega)
theorem prod_le {a b A B : Int} (ha : 0 ≤ a) (ha' : a ≤ A) (hb : 0 ≤ b) (hb' : b ≤ B) : 0 ≤ a * b ∧ a * b ≤ A * B :=
  ⟨Int.mul_nonneg ha hb, Int.mul_le_mul ha' hb' hb (by omega)⟩
theorem rest (hy : 0 < y) : 0 ≤ u * 4294967296 + n - Q u n y * y ∧ u * 4294967296 + n - Q u n y * y < y := by
  have h1 := q_le (u := u) (n := n) hy
  have h2 := q_lt (u := u) (n := n) hy
  rw [Int.add_mul, Int.one_mul] at h2
  omega
/-- both halves together -/
theorem both {n0 : Int} (hy : 0 < y) : (u * 18446744073709551616 + (n * 4294967296 + n0)) / y = Q u n y * 4294967296 + Q (u * 4294967296 + n - Q u n y * y) n0 y ∧
    (u * 18446744073709551616 + (n * 4294967296 + n0)) % y = (u * 4294967296 + n - Q u n y * y) * 4294967296 + n0 - Q (u * 4294967296 + n - Q u n y * y) n0 y * y := by
  have h := rest (u := u * 4294967296 + n - Q u n y * y) (n := n0) hy
  generalize Q (u * 4294967296 + n - Q u n y * y) n0 y = c at *
  generalize Q u n y = d at *
  have e1 : u * 18446744073709551616 + (n * 4294967296 + n0) = (u * 4294967296 + n - d * y) * 4294967296 + n0 - c * y + (d * 4294967296 + c) * y := by grind
  have hd : (u * 18446744073709551616 + (n * 4294967296 + n0)) / y = d * 4294967296 + c := by
    rw [e1, Int.add_mul_ediv_right _ _ (by omega), Int.ediv_eq_zero_of_lt h.1 h.2, Int.zero_add]
  have hm : (u * 18446744073709551616 + (n * 4294967296 + n0)) % y = (u * 4294967296 + n - d * y) * 4294967296 + n0 - c * y := by
    rw [e1, Int.add_mul_emod_self_right, Int.emod_eq_of_lt h.1 h.2]
  exact ⟨hd, hm⟩
end Go.Proofs.YtmmnopmccamjcaaGreatDoor.KnN
