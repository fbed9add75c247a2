namespace QuadSq
/-- a number whose square is K * K * D has D for a square -/
theorem sq_quot {K r D : Int} (hK : K ≠ 0) (h : r * r = K * K * D) : ∃ q, 0 ≤ q ∧ q * q = D := by
  have h1 : K.natAbs ^ 2 ∣ r.natAbs ^ 2 := by
    refine ⟨D.natAbs, ?_⟩
    have := congrArg Int.natAbs h
    simp only [Int.natAbs_mul] at this
    rw [Nat.pow_two, Nat.pow_two]; exact this
  have h2 : K.natAbs ∣ r.natAbs := (Nat.pow_dvd_pow_iff (by decide)).mp h1
  obtain ⟨q, hq⟩ := Int.natAbs_dvd_natAbs.mp h2
  have e : K * K * (q * q) = K * K * D := by rw [← h, hq]; grind
  have hKK : K * K ≠ 0 := Int.mul_ne_zero hK hK
  have e2 : q * q = D := Int.eq_of_mul_eq_mul_left hKK e
  rcases Int.le_total 0 q with g | g
  · exact ⟨q, g, e2⟩
  · exact ⟨-q, by omega, by rw [Int.neg_mul_neg]; exact e2⟩

/-- the coefficients divided by their content -/
theorem primitive {a b c G : Int} (hG : 0 < G) (hg : G = ((Int.gcd a (Int.gcd b c) : Nat) : Int)) :
    ∃ A B C, a = G * A ∧ b = G * B ∧ c = G * C ∧ Int.gcd A (Int.gcd B C) = 1 := by
  have ha : G ∣ a := by rw [hg]; exact Int.gcd_dvd_left _ _
  have hbc : G ∣ ((Int.gcd b c : Nat) : Int) := by rw [hg]; exact Int.gcd_dvd_right _ _
  have hb : G ∣ b := Int.dvd_trans hbc (Int.gcd_dvd_left _ _)
  have hc : G ∣ c := Int.dvd_trans hbc (Int.gcd_dvd_right _ _)
  obtain ⟨A, rfl⟩ := ha
  obtain ⟨B, rfl⟩ := hb
  obtain ⟨C, rfl⟩ := hc
  refine ⟨A, B, C, rfl, rfl, rfl, ?_⟩
  have e : ((G.natAbs : Nat) : Int) = G := Int.natAbs_of_nonneg (by omega)
  rw [Int.gcd_mul_left (m := G) (n := B) (k := C), Int.natCast_mul, e, Int.gcd_mul_left, Int.natCast_mul, e] at hg
  have : G * 1 = G * ((Int.gcd A (Int.gcd B C) : Nat) : Int) := by omega
  have := Int.eq_of_mul_eq_mul_left (by omega) this
  omega

/-- a factor of the form that the package makes: the common divisor struck -/
theorem struck {n m g : Int} (hm : 0 < m) (hg : g = ((Int.gcd n m : Nat) : Int)) : 0 < g ∧ ∃ N M, n = N * g ∧ m = M * g ∧ 0 < M ∧ Int.gcd M N = 1 := by
  have h0 : 0 < Int.gcd n m := Int.gcd_pos_of_ne_zero_right n (by omega)
  have hg0 : 0 < g := by omega
  have hn : g ∣ n := by rw [hg]; exact Int.gcd_dvd_left _ _
  have hmd : g ∣ m := by rw [hg]; exact Int.gcd_dvd_right _ _
  obtain ⟨N, rfl⟩ := hn
  obtain ⟨M, rfl⟩ := hmd
  refine ⟨hg0, N, M, Int.mul_comm .., Int.mul_comm .., ?_, ?_⟩
  · rcases Int.lt_or_le 0 M with h | h
    · exact h
    · have := Int.mul_nonneg (a := g) (b := -M) (by omega) (by omega)
      rw [Int.mul_neg] at this
      omega
  · have e : ((g.natAbs : Nat) : Int) = g := Int.natAbs_of_nonneg (by omega)
    rw [Int.gcd_mul_left, Int.natCast_mul, e] at hg
    have : g * 1 = g * ((Int.gcd N M : Nat) : Int) := by omega
    have := Int.eq_of_mul_eq_mul_left (by omega) this
    rw [Int.gcd_comm]; omega
end QuadSq
