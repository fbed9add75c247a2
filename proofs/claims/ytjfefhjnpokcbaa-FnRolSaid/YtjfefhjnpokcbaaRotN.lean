/- Turns of numbers of 64 bits and how many of their bits are 1: plain arithmetic. -/
namespace RotN
def rotN (x : Nat) : Nat := 2 * (x % 2 ^ 63) + x / 2 ^ 63
def onesN : Nat → Nat → Nat
  | 0, _ => 0
  | f + 1, x => x % 2 + onesN f (x / 2)

theorem ones_zero (f : Nat) : onesN f 0 = 0 := by
  induction f with
  | zero => rfl
  | succ f ih => rw [onesN, ih]

theorem ones_top (f : Nat) : ∀ x : Nat, x < 2 ^ (f + 1) → onesN (f + 1) x = onesN f (x % 2 ^ f) + x / 2 ^ f := by
  induction f with
  | zero => intro x hx; simp only [onesN, Nat.pow_zero]; omega
  | succ f ih =>
    intro x hx
    have h := ih (x / 2) (by rw [Nat.pow_succ] at hx; omega)
    rw [show onesN (f + 1 + 1) x = x % 2 + onesN (f + 1) (x / 2) from rfl, h]
    rw [show onesN (f + 1) (x % 2 ^ (f + 1)) = (x % 2 ^ (f + 1)) % 2 + onesN f (x % 2 ^ (f + 1) / 2) from rfl]
    rw [show 2 ^ (f + 1) = 2 * 2 ^ f by rw [Nat.pow_succ, Nat.mul_comm]]
    rw [Nat.mod_mul_right_mod, Nat.mod_mul_right_div_self, Nat.div_div_eq_div_mul]
    omega

theorem ones_rot (x : Nat) (hx : x < 2 ^ 64) : onesN 64 (rotN x) = onesN 64 x := by
  have h1 := ones_top 63 x hx
  rw [h1]
  have ht : x / 2 ^ 63 < 2 := by omega
  rw [show onesN 64 (rotN x) = rotN x % 2 + onesN 63 (rotN x / 2) from rfl]
  have e1 : rotN x % 2 = x / 2 ^ 63 := by unfold rotN; omega
  have e2 : rotN x / 2 = x % 2 ^ 63 := by unfold rotN; omega
  rw [e1, e2, Nat.add_comm]

theorem eq_of_half {x y : Nat} (h1 : x % 2 = y % 2) (h2 : x / 2 = y / 2) : x = y := by omega

theorem xor_two_add {y y' t t' : Nat} (ht : t < 2) (ht' : t' < 2) : (2 * y + t) ^^^ (2 * y' + t') = 2 * (y ^^^ y') + (t ^^^ t') := by
  have hx : t ^^^ t' < 2 := Nat.xor_lt_two_pow (n := 1) ht ht'
  apply eq_of_half
  · have a := Nat.xor_mod_two_pow (a := 2 * y + t) (b := 2 * y' + t') (n := 1)
    simp only [Nat.pow_one] at a
    rw [a, show (2 * y + t) % 2 = t by omega, show (2 * y' + t') % 2 = t' by omega]
    omega
  · rw [Nat.xor_div_two, show (2 * y + t) / 2 = y by omega, show (2 * y' + t') / 2 = y' by omega]
    omega

theorem rot_xor (a b : Nat) (ha : a < 2 ^ 64) (hb : b < 2 ^ 64) : rotN (a ^^^ b) = rotN a ^^^ rotN b := by
  unfold rotN
  rw [xor_two_add (by omega) (by omega), Nat.xor_mod_two_pow, Nat.xor_div_two_pow]

/-- the turn by j bits at once: of a number of two parts -/
theorem rot_step (p q h l : Nat) (hpq : 2 * q * p = 2 ^ 64) (hq : 0 < q) (hh : h < p) (hl : l < 2 * q) :
    ∃ t m, l = t * q + m ∧ t < 2 ∧ m < q ∧ rotN (l * p + h) = m * (2 * p) + (2 * h + t) := by
  refine ⟨l / q, l % q, ?_, ?_, Nat.mod_lt _ hq, ?_⟩
  · have := Nat.div_add_mod l q; rw [Nat.mul_comm] at this; omega
  · exact (Nat.div_lt_iff_lt_mul hq).mpr hl
  · have ht : l / q < 2 := (Nat.div_lt_iff_lt_mul hq).mpr hl
    have hm := Nat.mod_lt l hq
    have hd := Nat.div_add_mod l q
    generalize l / q = t at *
    generalize l % q = m at *
    have hqp : q * p = 2 ^ 63 := by
      have : 2 * q * p = 2 * (q * p) := by rw [Nat.mul_assoc]
      omega
    have hb : m * p + h < 2 ^ 63 := by
      have h1 : (m + 1) * p ≤ q * p := Nat.mul_le_mul_right p hm
      rw [Nat.add_mul, Nat.one_mul] at h1
      omega
    have e : l * p + h = t * 2 ^ 63 + (m * p + h) := by
      rw [← hd, ← hqp, Nat.add_mul]
      have : q * t * p = t * (q * p) := by rw [Nat.mul_comm q t, Nat.mul_assoc]
      omega
    rw [e]
    have e1 : (t * 2 ^ 63 + (m * p + h)) % 2 ^ 63 = m * p + h := by omega
    have e2 : (t * 2 ^ 63 + (m * p + h)) / 2 ^ 63 = t := by omega
    unfold rotN
    rw [e1, e2]
    have : m * (2 * p) = 2 * (m * p) := by rw [Nat.mul_left_comm]
    omega

def rots : Nat → Nat → Nat
  | 0, x => x
  | n + 1, x => rotN (rots n x)

theorem rots_is (j : Nat) (hj : j ≤ 64) (x : Nat) (hx : x < 2 ^ 64) :
    ∃ h l, h < 2 ^ j ∧ l < 2 ^ (64 - j) ∧ x = h * 2 ^ (64 - j) + l ∧ rots j x = l * 2 ^ j + h := by
  induction j with
  | zero => exact ⟨0, x, by omega, hx, by omega, by simp [rots]⟩
  | succ j ih =>
    obtain ⟨h, l, hh, hl, hx', hr⟩ := ih (by omega)
    have e2 : 2 ^ (64 - j) = 2 * 2 ^ (64 - (j + 1)) := by
      rw [show 64 - j = (64 - (j + 1)) + 1 by omega, Nat.pow_succ, Nat.mul_comm]
    obtain ⟨t, m, hl', ht, hm, hrot⟩ := rot_step (2 ^ j) (2 ^ (64 - (j + 1))) h l (by rw [← e2, ← Nat.pow_add]; congr 1; omega) (Nat.two_pow_pos _) hh (by rw [← e2]; exact hl)
    refine ⟨2 * h + t, m, ?_, hm, ?_, ?_⟩
    · rw [Nat.pow_succ]; omega
    · rw [hx', hl', e2, Nat.add_mul]
      have : h * (2 * 2 ^ (64 - (j + 1))) = 2 * h * 2 ^ (64 - (j + 1)) := by rw [← Nat.mul_assoc, Nat.mul_comm h 2]
      omega
    · rw [rots, hr, hrot, Nat.pow_succ, Nat.mul_comm (2 ^ j) 2]

theorem rots_64 (x : Nat) (hx : x < 2 ^ 64) : rots 64 x = x := by
  obtain ⟨h, l, hh, hl, hx', hr⟩ := rots_is 64 (by omega) x hx
  rw [hr, hx']
  simp at hl ⊢
  omega

theorem rot_lt (x : Nat) (hx : x < 2 ^ 64) : rotN x < 2 ^ 64 := by unfold rotN; omega
theorem rots_lt (j : Nat) (x : Nat) (hx : x < 2 ^ 64) : rots j x < 2 ^ 64 := by
  induction j with
  | zero => exact hx
  | succ j ih => exact rot_lt _ ih
end RotN
