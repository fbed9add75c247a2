namespace Quad

theorem coprime_dvd {u a b : Int} (h : Int.gcd u a = 1) (hd : u ∣ a * b) : u ∣ b := by
  have := (Int.dvd_gcd_mul_iff_dvd_mul).mpr hd
  rw [h] at this
  simpa using this

theorem gauss_half {p q r s : Int} (h1 : Int.gcd p q = 1) (h2 : Int.gcd r s = 1) (e : Nat)
    (b : (e : Int) ∣ p * s + q * r) (c : (e : Int) ∣ q * s) : Int.gcd e p = 1 := by
  have hue : ((Int.gcd e p : Nat) : Int) ∣ e := Int.gcd_dvd_left _ _
  have hup : ((Int.gcd e p : Nat) : Int) ∣ p := Int.gcd_dvd_right _ _
  generalize Int.gcd e p = u at *
  have huq : Int.gcd u q = 1 := by
    have := Int.gcd_dvd_gcd_of_dvd_left q hup
    rw [h1] at this
    exact Nat.dvd_one.mp this
  have h3 : (u : Int) ∣ q * r := (Int.dvd_add_right (Int.dvd_trans hup (Int.dvd_mul_right p s))).mp (Int.dvd_trans hue b)
  have h4 : (u : Int) ∣ r := coprime_dvd huq h3
  have h5 : (u : Int) ∣ s := coprime_dvd huq (Int.dvd_trans hue c)
  have h6 := Int.dvd_gcd h4 h5
  rw [h2] at h6
  exact Nat.dvd_one.mp h6

theorem gauss {p q r s : Int} (h1 : Int.gcd p q = 1) (h2 : Int.gcd r s = 1) :
    Int.gcd (p * r) (Int.gcd (p * s + q * r) (q * s)) = 1 := by
  have a : ((Int.gcd (p * r) (Int.gcd (p * s + q * r) (q * s)) : Nat) : Int) ∣ p * r := Int.gcd_dvd_left _ _
  have bc : ((Int.gcd (p * r) (Int.gcd (p * s + q * r) (q * s)) : Nat) : Int) ∣ (Int.gcd (p * s + q * r) (q * s) : Nat) := Int.gcd_dvd_right _ _
  generalize Int.gcd (p * r) (Int.gcd (p * s + q * r) (q * s)) = e at *
  have b := Int.dvd_trans bc (Int.gcd_dvd_left _ _)
  have c := Int.dvd_trans bc (Int.gcd_dvd_right _ _)
  have g1 := gauss_half h1 h2 e b c
  have g2 := gauss_half (p := r) (q := s) (r := p) (s := q) h2 h1 e (by rw [Int.mul_comm r q, Int.mul_comm s p, Int.add_comm]; exact b) (by rw [Int.mul_comm]; exact c)
  have hr : (e : Int) ∣ r := coprime_dvd g1 a
  have := Int.gcd_eq_natAbs_left hr
  rw [g2] at this
  simpa using this.symm

theorem prim_scale {G X Y Z : Int} (hG : 0 < G) : ((Int.gcd (G * X) (Int.gcd (G * Y) (G * Z)) : Nat) : Int) = G * (Int.gcd X (Int.gcd Y Z) : Nat) := by
  have e : ((G.natAbs : Nat) : Int) = G := Int.natAbs_of_nonneg (by omega)
  rw [Int.gcd_mul_left (m := G) (n := Y) (k := Z), Int.natCast_mul, e, Int.gcd_mul_left, Int.natCast_mul, e]

theorem prim_eq {G K X Y Z a b c : Int} (hG : 0 < G) (hK : 0 < K) (h1 : Int.gcd X (Int.gcd Y Z) = 1) (h2 : Int.gcd a (Int.gcd b c) = 1)
    (ex : G * X = K * a) (ey : G * Y = K * b) (ez : G * Z = K * c) : G = K := by
  have e1 := prim_scale (X := X) (Y := Y) (Z := Z) hG
  have e2 := prim_scale (X := a) (Y := b) (Z := c) hK
  rw [h1] at e1
  rw [h2] at e2
  rw [ex, ey, ez] at e1
  omega

/-- a polynomial whose coefficients have no common divisor, its highest one above 0, its discriminant a square: the two factors multiply to it -/
theorem factors {a b c d P1 Q1 P2 Q2 g1 g2 : Int} (ha : 0 < a) (hprim : Int.gcd a (Int.gcd b c) = 1) (hd : d * d = b * b - 4 * a * c)
    (hg1 : 0 < g1) (hg2 : 0 < g2) (p1 : P1 * g1 = 2 * a) (q1 : Q1 * g1 = b - d) (p2 : P2 * g2 = 2 * a) (q2 : Q2 * g2 = b + d)
    (c1 : Int.gcd P1 Q1 = 1) (c2 : Int.gcd P2 Q2 = 1) : P1 * P2 = a ∧ P1 * Q2 + Q1 * P2 = b ∧ Q1 * Q2 = c := by
  have ex : (g1 * g2) * (P1 * P2) = (4 * a) * a := by
    have : (g1 * g2) * (P1 * P2) = (P1 * g1) * (P2 * g2) := by grind
    rw [this, p1, p2]; grind
  have ey : (g1 * g2) * (P1 * Q2 + Q1 * P2) = (4 * a) * b := by
    have : (g1 * g2) * (P1 * Q2 + Q1 * P2) = (P1 * g1) * (Q2 * g2) + (Q1 * g1) * (P2 * g2) := by grind
    rw [this, p1, p2, q1, q2]; grind
  have ez : (g1 * g2) * (Q1 * Q2) = (4 * a) * c := by
    have : (g1 * g2) * (Q1 * Q2) = (Q1 * g1) * (Q2 * g2) := by grind
    rw [this, q1, q2]; grind
  have hG : 0 < g1 * g2 := Int.mul_pos hg1 hg2
  have e := prim_eq hG (by omega) (gauss c1 c2) hprim ex ey ez
  rw [e] at ex ey ez
  exact ⟨Int.eq_of_mul_eq_mul_left (by omega) ex, Int.eq_of_mul_eq_mul_left (by omega) ey, Int.eq_of_mul_eq_mul_left (by omega) ez⟩

end Quad
