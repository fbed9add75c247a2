/- Proved: of an odd number of 32 bits of at least 5 and a base from 2 up to it less 2 the package tells whether it is a prime or a strong pseudoprime to the base, as the reference does. Conditions: two numbers of 32 bits without a sign; no others. -/
import Derived.Test.YtmbhbioanoalaaaOFnProbably32x2
import Derived.Test.YtmbhbioanoalaaaCom
import Derived.Test.YtmbhbioanoalaaaPowN
namespace Go.Proofs.Ytmbhbioanoalaaa.Pure
open Go Go.RowKit Go.Proofs.Ytmbhbioanoalaaa.PFnProbably32 Go.Proofs.YtmbhbioanoalaaaW.PrintWords Go.Proofs.YtmbhbioanoalaaaW.PrintLast Go.Com

theorem and1_u64 (e : Nat) (h : e < 18446744073709551616) : Go.bits .and .u64 (e : Int) 1 = ((e % 2 : Nat) : Int) := by
  rw [and_one (by omega) (by omega)]; omega
theorem wraps_u32 (n : Int) (h₀ : 0 ≤ n) (h₁ : n < 2 ^ 32) : IntKind.u32.wrap n = n := by rw [IntKind.wrap_u32]; omega
theorem and1_u32 (e : Nat) (h : e < 4294967296) : Go.bits .and .u32 (e : Int) 1 = ((e % 2 : Nat) : Int) := by
  rw [show Go.bits .and .u32 (e : Int) 1 = (e : Int) % 2 from bits_mask .u32 32 (by decide) wraps_u32 1 (by decide) e (by omega) (by omega)]; omega
theorem half (e : Nat) : (e : Int) / 2 = ((e / 2 : Nat) : Int) := by omega
theorem mul_lt32 {a b : Nat} (ha : a < 4294967296) (hb : b < 4294967296) : a * b < 18446744073709551616 :=
  Nat.lt_of_le_of_lt (Nat.mul_le_mul (show a ≤ 4294967295 by omega) (show b ≤ 4294967295 by omega)) (by decide)
theorem wrap_mul {a b : Nat} (ha : a < 4294967296) (hb : b < 4294967296) : IntKind.u64.wrap ((a : Int) * (b : Int)) = ((a * b : Nat) : Int) := by
  have := mul_lt32 ha hb
  rw [← Int.natCast_mul, IntKind.wrap_u64]; omega

/-- the product of two numbers by a small modulus -/
theorem times_is (a b m : Nat) (hm : 0 < m) (hm2 : m ≤ 4294967296) (k : Nat) (hk : 0 < k) : spec_TimesMod.f k (a : Int) (b : Int) (m : Int) = some ((a * b % m : Nat) : Int) := by
  obtain ⟨k, rfl⟩ : ∃ j, k = j + 1 := ⟨k - 1, by omega⟩
  have h1 := Nat.mod_lt a hm
  have h2 := Nat.mod_lt b hm
  simp only [spec_TimesMod.f, tmod_nat]
  rw [if_neg (by omega), if_pos (by omega), decide_eq_true (by omega)]
  simp only [spec_TimesMod.j0]
  rw [if_pos trivial, if_neg (by omega), wrap_mul (by omega) (by omega), tmod_nat, ← Nat.mul_mod]

theorem power_loop (m : Nat) (hm : 0 < m) (hm2 : m ≤ 4294967296) (f : Nat) : ∀ (e b r k : Nat), e < 2 ^ f → e < 18446744073709551616 → r < m → f + 1 < k →
    spec_PowerMod.l0 k (b : Int) (e : Int) (m : Int) (r : Int) = some ((r * b ^ e % m : Nat) : Int) := by
  induction f with
  | zero =>
    intro e b r k he _ hr hk
    obtain ⟨k, rfl⟩ : ∃ j, k = j + 1 := ⟨k - 1, by omega⟩
    have : e = 0 := by simpa using he
    subst this
    simp only [spec_PowerMod.l0]
    rw [if_neg (by omega), Nat.pow_zero, Nat.mul_one, Nat.mod_eq_of_lt hr]
  | succ f ih =>
    intro e b r k he he2 hr hk
    obtain ⟨k, rfl⟩ : ∃ j, k = j + 1 := ⟨k - 1, by omega⟩
    by_cases h0 : e = 0
    · subst h0
      simp only [spec_PowerMod.l0]
      rw [if_neg (by omega), Nat.pow_zero, Nat.mul_one, Nat.mod_eq_of_lt hr]
    · have hh : e / 2 < 2 ^ f := by rw [Nat.pow_succ] at he; omega
      clear he
      simp only [spec_PowerMod.l0]
      rw [if_pos (by omega), and1_u64 e he2, times_is b b m hm hm2 k (by omega), half]
      simp only [Option.bind_some]
      by_cases ho : e % 2 = 1
      · rw [if_pos (by omega), times_is r b m hm hm2 k (by omega)]
        simp only [Option.bind_some]
        rw [ih (e / 2) (b * b % m) (r * b % m) k hh (by omega) (Nat.mod_lt _ hm) (by omega), PowN.step_odd r b e m ho]
      · rw [if_neg (by omega), ih (e / 2) (b * b % m) r k hh (by omega) hr (by omega), PowN.step_even r b e m (by omega)]

theorem power_is (b e m : Nat) (hm : 1 < m) (hm2 : m ≤ 4294967296) (he : e < 18446744073709551616) (k : Nat) (hk : 65 < k) :
    spec_PowerMod.f k (b : Int) (e : Int) (m : Int) = some ((b ^ e % m : Nat) : Int) := by
  simp only [spec_PowerMod.f]
  rw [if_neg (by omega)]
  have e1 : (1 : Int) % (m : Int) = ((1 : Nat) : Int) := by
    rw [show ((1 : Int)) = ((1 : Nat) : Int) from rfl, ← Int.natCast_emod, Nat.mod_eq_of_lt hm]
  have := power_loop m (by omega) hm2 64 e b 1 k (by rw [show (2 : Nat) ^ 64 = 18446744073709551616 by decide]; exact he) he hm (by omega)
  rw [e1, this, Nat.one_mul]

theorem modpow_loop (m : Nat) (hm : 1 < m) (hm2 : m < 4294967296) (f : Nat) : ∀ (e b r k : Nat), e < 2 ^ f → e < 4294967296 → r < m → b < 4294967296 → f < k →
    mathutil_ModPowUint32.l0 k (e : Int) (r : Int) (b : Int) (m : Int) = some ((r * b ^ e % m : Nat) : Int) := by
  induction f with
  | zero =>
    intro e b r k he _ hr _ hk
    obtain ⟨k, rfl⟩ : ∃ j, k = j + 1 := ⟨k - 1, by omega⟩
    have : e = 0 := by simpa using he
    subst this
    simp only [mathutil_ModPowUint32.l0]
    rw [if_neg (by omega), Nat.pow_zero, Nat.mul_one, Nat.mod_eq_of_lt hr]
    congr 1; omega
  | succ f ih =>
    intro e b r k he he2 hr hb hk
    obtain ⟨k, rfl⟩ : ∃ j, k = j + 1 := ⟨k - 1, by omega⟩
    by_cases h0 : e = 0
    · subst h0
      simp only [mathutil_ModPowUint32.l0]
      rw [if_neg (by omega), Nat.pow_zero, Nat.mul_one, Nat.mod_eq_of_lt hr]
      congr 1; omega
    · have hh : e / 2 < 2 ^ f := by rw [Nat.pow_succ] at he; omega
      clear he
      have hbb : b * b % m < m := Nat.mod_lt _ (by omega)
      have hrb : r * b % m < m := Nat.mod_lt _ (by omega)
      simp only [mathutil_ModPowUint32.l0]
      rw [if_pos (by omega), and1_u32 e he2, half, wrap_mul hb hb, wrap_mul (by omega) hb, tmod_nat, tmod_nat]
      by_cases ho : e % 2 = 1
      · rw [if_pos (by omega), if_neg (by omega), ih (e / 2) (b * b % m) (r * b % m) k hh (by omega) hrb (by omega) (by omega), PowN.step_odd r b e m ho]
      · rw [if_neg (by omega), if_neg (by omega), ih (e / 2) (b * b % m) r k hh (by omega) hr (by omega) (by omega), PowN.step_even r b e m (by omega)]

theorem modpow_is (b e m : Nat) (hb : 0 < b) (hb2 : b < 4294967296) (hm : 1 < m) (hm2 : m < 4294967296) (he : e < 4294967296) (k : Nat) (hk : 34 < k) :
    mathutil_ModPowUint32.f k (b : Int) (e : Int) (m : Int) = some ((b ^ e % m : Nat) : Int) := by
  obtain ⟨k, rfl⟩ : ∃ j, k = j + 1 := ⟨k - 1, by omega⟩
  simp only [mathutil_ModPowUint32.f]
  rw [if_neg (by omega)]
  simp only [mathutil_ModPowUint32.j0]
  rw [if_neg (by simp), if_neg (by omega), IntKind.wrap_u64, IntKind.wrap_u64, show (b : Int) % 18446744073709551616 = (b : Int) by omega, show (m : Int) % 18446744073709551616 = (m : Int) by omega]
  have := modpow_loop m hm hm2 32 e b 1 k (by rw [show (2 : Nat) ^ 32 = 4294967296 by decide]; exact he) he hm hb2 (by omega)
  rw [show (1 : Int) = ((1 : Nat) : Int) from rfl, this, Nat.one_mul]

/-- is one of so many squares one less than the modulus? -/
def sqs (n : Nat) : Nat → Nat → Bool
  | 0, _ => false
  | c + 1, x => if x * x % n = n - 1 then true else sqs n c (x * x % n)
theorem sqs_one (n : Nat) (hn : 5 ≤ n) (c : Nat) : sqs n c 1 = false := by
  induction c with
  | zero => rfl
  | succ c ih =>
    have h1 : 1 * 1 % n = 1 := Nat.mod_eq_of_lt (by omega)
    rw [sqs, h1, if_neg (by omega), ih]

theorem wrapN (n : Nat) (h : n < 18446744073709551616) : IntKind.u64.wrap (n : Int) = (n : Int) := by rw [IntKind.wrap_u64]; omega
theorem wrap_pred (n : Nat) (h1 : 1 ≤ n) (h : n < 18446744073709551616) : IntKind.u64.wrap ((n : Int) - 1) = ((n - 1 : Nat) : Int) := by rw [IntKind.wrap_u64]; omega

theorem spec_sqs (n : Nat) (hn : 5 ≤ n) (hn2 : n < 4294967296) (s : Nat) (hs : s ≤ 64) (c : Nat) : ∀ (k r x : Nat), r + c = s → c + 1 < k →
    spec_IsStrong.l1 k (n : Int) (s : Int) (x : Int) (r : Int) = some (sqs n c x) := by
  induction c with
  | zero =>
    intro k r x hr hk
    obtain ⟨k, rfl⟩ : ∃ j, k = j + 1 := ⟨k - 1, by omega⟩
    simp only [spec_IsStrong.l1]
    rw [if_neg (by omega)]; rfl
  | succ c ih =>
    intro k r x hr hk
    obtain ⟨k, rfl⟩ : ∃ j, k = j + 1 := ⟨k - 1, by omega⟩
    simp only [spec_IsStrong.l1]
    rw [if_pos (by omega), times_is x x n (by omega) (by omega) k (by omega), wrap_pred n (by omega) (by omega)]
    simp only [Option.bind_some]
    by_cases h : x * x % n = n - 1
    · rw [if_pos (by omega), sqs, if_pos h]
    · rw [if_neg (by omega), sqs, if_neg h, show wrap64 ((r : Int) + 1) = ((r + 1 : Nat) : Int) by rw [w64]; omega]
      exact ih k (r + 1) _ (by omega) (by omega)

theorem prog_sqs (n : Nat) (hn : 5 ≤ n) (hn2 : n < 4294967296) (c : Nat) (hc : c ≤ 64) : ∀ (k x : Nat), x < n → c < k →
    mathutil_ProbablyPrimeUint32.l1 k (n : Int) ((c + 1 : Nat) : Int) (x : Int) = some (sqs n c x) := by
  induction c with
  | zero =>
    intro k x hx hk
    obtain ⟨k, rfl⟩ : ∃ j, k = j + 1 := ⟨k - 1, by omega⟩
    simp only [mathutil_ProbablyPrimeUint32.l1]
    rw [if_neg (by omega)]; rfl
  | succ c ih =>
    intro k x hx hk
    obtain ⟨k, rfl⟩ : ∃ j, k = j + 1 := ⟨k - 1, by omega⟩
    have hy : x * x % n < n := Nat.mod_lt _ (by omega)
    simp only [mathutil_ProbablyPrimeUint32.l1]
    rw [if_pos (by omega), wrapN n (by omega), if_neg (by omega), wrap_mul (by omega) (by omega), tmod_nat]
    rw [sqs]
    generalize x * x % n = y at *
    by_cases h1 : y = 1
    · subst h1
      rw [if_pos (by omega), if_neg (by omega), sqs_one n hn]
    · rw [if_neg (by omega)]
      by_cases h2 : y = n - 1
      · rw [if_pos (by omega), if_pos h2]
      · rw [if_neg (by omega), if_neg h2, show wrap64 (((c + 1 + 1 : Nat) : Int) - 1) = ((c + 1 : Nat) : Int) by rw [w64]; omega]
        exact ih (by omega) k y hy (by omega)

theorem both (n a : Nat) (hn : 5 ≤ n) (hn2 : n < 4294967296) (ha : 0 < a) (ha2 : a < 4294967296) (f : Nat) : ∀ (k d s : Nat), d < 2 ^ f → d < 4294967296 → 0 < d → s + f ≤ 64 → f + 200 < k →
    ∃ b, mathutil_ProbablyPrimeUint32.l0 k (n : Int) (a : Int) (d : Int) (s : Int) = some b ∧ spec_IsStrong.l0 k (n : Int) (a : Int) (d : Int) (s : Int) = some b := by
  induction f with
  | zero => intro k d s hd _ h0 _ _; rw [Nat.pow_zero] at hd; omega
  | succ f ih =>
    intro k d s hd hd2 h0 hs hk
    obtain ⟨k, rfl⟩ : ∃ j, k = j + 1 := ⟨k - 1, by omega⟩
    have hh : d / 2 < 2 ^ f := by rw [Nat.pow_succ] at hd; omega
    clear hd
    simp only [mathutil_ProbablyPrimeUint32.l0, spec_IsStrong.l0]
    rw [and1_u32 d hd2, and1_u64 d (by omega), half]
    by_cases he : d % 2 = 0
    · rw [if_pos (by omega), if_pos (by omega), show wrap64 ((s : Int) + 1) = ((s + 1 : Nat) : Int) by rw [w64]; omega]
      exact ih k (d / 2) (s + 1) hh (by omega) (by omega) (by omega) (by omega)
    · rw [if_neg (by omega), if_neg (by omega), modpow_is a d n ha ha2 (by omega) hn2 hd2 k (by omega), power_is a d n (by omega) (by omega) (by omega) k (by omega)]
      simp only [Option.bind_some]
      have hx : a ^ d % n < n := Nat.mod_lt _ (by omega)
      generalize a ^ d % n = x at *
      obtain ⟨k, rfl⟩ : ∃ j, k = j + 1 := ⟨k - 1, by omega⟩
      rw [wrapN x (by omega), wrap_pred n (by omega) (by omega)]
      by_cases h1 : x = 1
      · refine ⟨true, ?_, ?_⟩
        · rw [if_pos (by omega)]; simp [mathutil_ProbablyPrimeUint32.j1]
        · rw [if_pos (by omega)]; simp [spec_IsStrong.j1]
      · rw [if_neg (by omega), if_neg (by omega)]
        simp only [mathutil_ProbablyPrimeUint32.j1, spec_IsStrong.j1]
        by_cases h2 : x = n - 1
        · refine ⟨true, ?_, ?_⟩
          · rw [if_pos (by rw [beq_iff_eq]; omega)]
          · rw [if_pos (by rw [beq_iff_eq]; omega)]
        · rw [if_neg (by rw [beq_iff_eq]; omega), if_neg (by rw [beq_iff_eq]; omega)]
          by_cases hs0 : s = 0
          · subst hs0
            obtain ⟨k, rfl⟩ : ∃ j, k = j + 1 := ⟨k - 1, by omega⟩
            refine ⟨false, ?_, ?_⟩
            · simp only [mathutil_ProbablyPrimeUint32.l1]; rw [if_neg (by omega)]
            · simp only [spec_IsStrong.l1]; rw [if_neg (by omega)]
          · obtain ⟨c, rfl⟩ : ∃ c, s = c + 1 := ⟨s - 1, by omega⟩
            refine ⟨sqs n c x, prog_sqs n hn hn2 c (by omega) k x hx (by omega), ?_⟩
            have := spec_sqs n hn hn2 (c + 1) (by omega) c k 1 x (by omega) (by omega)
            exact this

theorem seven (k : Nat) (hk : 300 < k) : impl_ProbablyPrime32.f k 7 2 = some true := by
  simp only [impl_ProbablyPrime32.f, mathutil_ProbablyPrimeUint32.f]
  obtain ⟨k, rfl⟩ : ∃ j, k = j + 1 := ⟨k - 1, by omega⟩
  have e0 : ((7 : Int) - 1) % 4294967296 = ((6 : Nat) : Int) := by omega
  rw [e0]
  simp only [mathutil_ProbablyPrimeUint32.l0]
  rw [and1_u32 6 (by omega), if_pos (by decide)]
  obtain ⟨k, rfl⟩ : ∃ j, k = j + 1 := ⟨k - 1, by omega⟩
  have e1 : ((6 : Nat) : Int) / 2 = ((3 : Nat) : Int) := by decide
  have e2 : wrap64 (0 + 1) = 1 := by rw [w64]; omega
  rw [e1, e2]
  simp only [mathutil_ProbablyPrimeUint32.l0]
  rw [and1_u32 3 (by omega), if_neg (by decide)]
  have := modpow_is 2 3 7 (by omega) (by omega) (by omega) (by omega) (by omega) k (by omega)
  have e3 : ((2 ^ 3 % 7 : Nat) : Int) = 1 := by decide
  rw [e3] at this
  rw [show ((2 : Int)) = ((2 : Nat) : Int) from rfl, show ((7 : Int)) = ((7 : Nat) : Int) from rfl, this]
  simp only [Option.bind_some]
  obtain ⟨k, rfl⟩ : ∃ j, k = j + 1 := ⟨k - 1, by omega⟩
  rw [show IntKind.u64.wrap 1 = 1 by rw [IntKind.wrap_u64]; omega, if_pos rfl]
  simp [mathutil_ProbablyPrimeUint32.j1]

theorem FnProbably32 : laws_FnProbably32.Pure := by
  intro n a hn ha
  obtain ⟨n0, n1⟩ := b_u32 hn
  obtain ⟨a0, a1⟩ := b_u32 ha
  obtain ⟨n, rfl⟩ := Int.eq_ofNat_of_zero_le n0
  obtain ⟨a, rfl⟩ := Int.eq_ofNat_of_zero_le a0
  refine ⟨400 + 1, ?_⟩
  have skip : laws_FnProbably32.j0 (400 + 1) (n : Int) (a : Int) true = some true := by
    simp only [laws_FnProbably32.j0]
    rw [if_pos trivial, seven _ (by omega)]; rfl
  simp only [laws_FnProbably32.f]
  by_cases h1 : (n : Int) < 5
  · rw [if_pos h1]; exact skip
  · rw [if_neg h1]
    by_cases h2 : Int.tmod (n : Int) 2 = 0
    · rw [if_pos h2]; exact skip
    · rw [if_neg h2]
      by_cases h3 : (a : Int) < 2
      · rw [if_pos h3]; exact skip
      · rw [if_neg h3]
        by_cases h4 : (a : Int) > ((n : Int) - 2) % 4294967296
        · rw [decide_eq_true h4]; exact skip
        · rw [decide_eq_false h4]
          simp only [laws_FnProbably32.j0]
          rw [if_neg (by simp), seven _ (by omega)]
          simp only [Option.bind_some]
          rw [if_pos trivial]
          obtain ⟨b, hp, hs⟩ := both n a (by omega) (by omega) (by omega) (by omega) 32 400 (n - 1) 0 (by rw [show (2 : Nat) ^ 32 = 4294967296 by decide]; omega) (by omega) (by omega) (by omega) (by omega)
          simp only [impl_ProbablyPrime32.f, mathutil_ProbablyPrimeUint32.f, spec_IsStrong.f]
          rw [wrapN n (by omega), wrapN a (by omega), wrap_pred n (by omega) (by omega), show ((n : Int) - 1) % 4294967296 = ((n - 1 : Nat) : Int) by omega]
          rw [show (0 : Int) = ((0 : Nat) : Int) from rfl, hp, hs]
          simp

end Go.Proofs.Ytmbhbioanoalaaa.Pure
