/- What the printed functions of powers compute: products and powers by a modulus. -/
import Derived.Test.YtmmnopmccamjcaaGreatDoorOMp
import Derived.Test.YtmmnopmccamjcaaGreatDoorCom
import Derived.Test.YtmmnopmccamjcaaGreatDoorPowN
namespace Go.Proofs.YtmmnopmccamjcaaGreatDoor.MpN
open Go Go.RowKit Go.Proofs.YtmmnopmccamjcaaGreatDoor.PMp Go.Proofs.YtmmnopmccamjcaaGreatDoorW.PrintWords Go.Proofs.YtmmnopmccamjcaaGreatDoorW.PrintLast Go.Com
set_option linter.unusedVariables false
theorem and1_u64 (e : Nat) (h : e < 18446744073709551616) : Go.bits .and .u64 (e : Int) 1 = ((e % 2 : Nat) : Int) := by
  rw [and_one (by omega) (by omega)]; omega
theorem wraps_u32 (n : Int) (h₀ : 0 ≤ n) (h₁ : n < 2 ^ 32) : IntKind.u32.wrap n = n := by rw [IntKind.wrap_u32]; omega
theorem wraps_u16 (n : Int) (h₀ : 0 ≤ n) (h₁ : n < 2 ^ 16) : IntKind.u16.wrap n = n := by rw [IntKind.wrap_u16]; omega
theorem and1_u32 (e : Nat) (h : e < 4294967296) : Go.bits .and .u32 (e : Int) 1 = ((e % 2 : Nat) : Int) := by
  rw [show Go.bits .and .u32 (e : Int) 1 = (e : Int) % 2 from bits_mask .u32 32 (by decide) wraps_u32 1 (by decide) e (by omega) (by omega)]; omega
theorem and1_u16 (e : Nat) (h : e < 65536) : Go.bits .and .u16 (e : Int) 1 = ((e % 2 : Nat) : Int) := by
  rw [show Go.bits .and .u16 (e : Int) 1 = (e : Int) % 2 from bits_mask .u16 16 (by decide) wraps_u16 1 (by decide) e (by omega) (by omega)]; omega
theorem and1_u8 (e : Nat) (h : e < 256) : Go.bits .and .u8 (e : Int) 1 = ((e % 2 : Nat) : Int) := by
  rw [show Go.bits .and .u8 (e : Int) 1 = (e : Int) % 2 from bits_mask .u8 8 (by decide) wraps_u8 1 (by decide) e (by omega) (by omega)]; omega
theorem half (e : Nat) : (e : Int) / 2 = ((e / 2 : Nat) : Int) := by omega
theorem mul_lt {B a b : Nat} (ha : a < B) (hb : b < B) : a * b < B * B := Nat.mul_lt_mul'' ha hb
theorem wrap_mul32 {a b : Nat} (ha : a < 4294967296) (hb : b < 4294967296) : IntKind.u64.wrap ((a : Int) * (b : Int)) = ((a * b : Nat) : Int) := by
  have := mul_lt ha hb
  rw [← Int.natCast_mul, IntKind.wrap_u64]; omega
theorem wrap_mul16 {a b : Nat} (ha : a < 65536) (hb : b < 65536) : ((a : Int) * (b : Int)) % 4294967296 = ((a * b : Nat) : Int) := by
  have := mul_lt ha hb
  rw [← Int.natCast_mul]; omega
theorem wrap_mul8 {a b : Nat} (ha : a < 256) (hb : b < 256) : IntKind.u16.wrap ((a : Int) * (b : Int)) = ((a * b : Nat) : Int) := by
  have := mul_lt ha hb
  rw [← Int.natCast_mul, IntKind.wrap_u16]; omega
theorem wrapN (n : Nat) (h : n < 18446744073709551616) : IntKind.u64.wrap (n : Int) = (n : Int) := by rw [IntKind.wrap_u64]; omega

/-- the sum of two numbers below a modulus -/
theorem plus_is (a b m : Nat) (ha : a < m) (hb : b < m) (hm : m < 18446744073709551616) : spec_plusMod.f (a : Int) (b : Int) (m : Int) = some (((a + b) % m : Nat) : Int) := by
  have e1 : IntKind.u64.wrap ((m : Int) - (b : Int)) = ((m - b : Nat) : Int) := by rw [IntKind.wrap_u64]; omega
  unfold spec_plusMod.f
  rw [e1]
  by_cases h : m - b ≤ a
  · have e2 : (a + b) % m = a - (m - b) := by rw [Nat.mod_eq_sub_mod (by omega), Nat.mod_eq_of_lt (by omega)]; omega
    rw [if_pos (by omega), e2, IntKind.wrap_u64]; congr 1; omega
  · have e2 : (a + b) % m = a + b := Nat.mod_eq_of_lt (by omega)
    rw [if_neg (by omega), e2, IntKind.wrap_u64]; congr 1; omega
theorem bit_at (b i : Nat) (hi : i ≤ 64) : shr .u64 (b : Int) (i : Int) = ((b / 2 ^ i : Nat) : Int) := by
  unfold shr
  rw [Int.toNat_natCast, show min i IntKind.u64.bits = i by simp [IntKind.bits]; omega]
  push_cast; rfl
theorem times_loop (a b m : Nat) (ha : a < m) (hb : b < 18446744073709551616) (hm : m < 18446744073709551616) : ∀ (i k o : Nat), i ≤ 64 → o = a * (b / 2 ^ i) % m → i < k →
    spec_TimesMod.l0 k (a : Int) (b : Int) (m : Int) (o : Int) ((i : Int) - 1) = some ((a * b % m : Nat) : Int) := by
  intro i
  induction i with
  | zero =>
    intro k o _ ho hk
    obtain ⟨k, rfl⟩ : ∃ j, k = j + 1 := ⟨k - 1, by omega⟩
    simp only [spec_TimesMod.l0]
    rw [if_neg (by omega), ho, Nat.pow_zero, Nat.div_one]
  | succ i ih =>
    intro k o hi ho hk
    obtain ⟨k, rfl⟩ : ∃ j, k = j + 1 := ⟨k - 1, by omega⟩
    have hm0 : 0 < m := by omega
    have hol : o < m := by rw [ho]; exact Nat.mod_lt _ hm0
    have h2 := Nat.mod_lt (o + o) hm0
    have hbi : b / 2 ^ i < 18446744073709551616 := Nat.lt_of_le_of_lt (Nat.div_le_self _ _) hb
    have hstep : b / 2 ^ i = 2 * (b / 2 ^ (i + 1)) + b / 2 ^ i % 2 := by rw [Nat.pow_succ, ← Nat.div_div_eq_div_mul]; omega
    have hdbl : (o + o) % m = a * (2 * (b / 2 ^ (i + 1))) % m := by
      rw [ho, ← Nat.add_mod, ← Nat.mul_two, Nat.mul_assoc, Nat.mul_comm _ 2]
    have ei : ((i + 1 : Nat) : Int) - 1 = (i : Int) := by omega
    have ew : wrap64 ((i : Int) - 1) = (i : Int) - 1 := by rw [w64]; omega
    simp only [spec_TimesMod.l0]
    rw [ei, if_pos (by omega), plus_is o o m hol hol hm, Option.bind_some, if_pos (by omega), bit_at b i (by omega), and1_u64 _ hbi, ew]
    by_cases hbit : b / 2 ^ i % 2 = 1
    · rw [if_pos (by omega), plus_is _ a m h2 ha hm, Option.bind_some]
      refine ih k _ (by omega) ?_ (by omega)
      rw [hstep, hbit, Nat.mul_add, Nat.mul_one, hdbl, Nat.mod_add_mod]
    · rw [if_neg (by omega)]
      refine ih k _ (by omega) ?_ (by omega)
      have hs0 : b / 2 ^ i = 2 * (b / 2 ^ (i + 1)) := by omega
      rw [hdbl, hs0]
/-- the product of two numbers by a modulus -/
theorem times_is (a b m : Nat) (hm : 0 < m) (hm2 : m < 18446744073709551616) (k : Nat) (hk : 70 < k) : spec_TimesMod.f k (a : Int) (b : Int) (m : Int) = some ((a * b % m : Nat) : Int) := by
  obtain ⟨k, rfl⟩ : ∃ j, k = j + 1 := ⟨k - 1, by omega⟩
  have h1 := Nat.mod_lt a hm
  have h2 := Nat.mod_lt b hm
  have big : spec_TimesMod.j0 (k + 1) ((a % m : Nat) : Int) ((b % m : Nat) : Int) (m : Int) false = some ((a * b % m : Nat) : Int) := by
    simp only [spec_TimesMod.j0]
    rw [if_neg (by simp)]
    have h := times_loop (a % m) (b % m) m h1 (by omega) hm2 64 k 0 (by omega) (by rw [Nat.div_eq_of_lt (show b % m < 2 ^ 64 by omega), Nat.mul_zero, Nat.zero_mod]) (by omega)
    rw [← Nat.mul_mod] at h
    exact h
  simp only [spec_TimesMod.f, tmod_nat]
  rw [if_neg (by omega)]
  by_cases ha : a % m < 4294967296
  · rw [if_pos (by omega)]
    by_cases hb : b % m < 4294967296
    · rw [decide_eq_true (by omega)]
      simp only [spec_TimesMod.j0]
      rw [if_pos trivial, if_neg (by omega), wrap_mul32 ha hb, tmod_nat, ← Nat.mul_mod]
    · rw [decide_eq_false (by omega)]
      exact big
  · rw [if_neg (by omega)]
    exact big

theorem power_loop (m : Nat) (hm : 0 < m) (hm2 : m < 18446744073709551616) (f : Nat) : ∀ (e b r k : Nat), e < 2 ^ f → e < 18446744073709551616 → r < m → f + 71 < k →
    spec_PowerMod.l0 k (b : Int) (e : Int) (m : Int) (r : Int) = some ((r * b ^ e % m : Nat) : Int) := by
  induction f with
  | zero =>
    intro e b r k he _ hr hk
    obtain ⟨k, rfl⟩ : ∃ j, k = j + 1 := ⟨k - 1, by omega⟩
    have : e = 0 := by simpa using he
    subst this
    simp only [spec_PowerMod.l0]
    rw [if_neg (by omega), Nat.pow_zero, Nat.mul_one, Nat.mod_eq_of_lt hr]
  | succ f ih =>
    intro e b r k he he2 hr hk
    obtain ⟨k, rfl⟩ : ∃ j, k = j + 1 := ⟨k - 1, by omega⟩
    by_cases h0 : e = 0
    · subst h0
      simp only [spec_PowerMod.l0]
      rw [if_neg (by omega), Nat.pow_zero, Nat.mul_one, Nat.mod_eq_of_lt hr]
    · have hh : e / 2 < 2 ^ f := by rw [Nat.pow_succ] at he; omega
      clear he
      simp only [spec_PowerMod.l0]
      rw [if_pos (by omega), and1_u64 e he2, times_is b b m hm hm2 k (by omega), half]
      simp only [Option.bind_some]
      by_cases ho : e % 2 = 1
      · rw [if_pos (by omega), times_is r b m hm hm2 k (by omega)]
        simp only [Option.bind_some]
        rw [ih (e / 2) (b * b % m) (r * b % m) k hh (by omega) (Nat.mod_lt _ hm) (by omega), PowN.step_odd r b e m ho]
      · rw [if_neg (by omega), ih (e / 2) (b * b % m) r k hh (by omega) hr (by omega), PowN.step_even r b e m (by omega)]
/-- the power by a modulus -/
theorem power_is (b e m : Nat) (hm : 0 < m) (hm2 : m < 18446744073709551616) (he : e < 18446744073709551616) (k : Nat) (hk : 140 < k) :
    spec_PowerMod.f k (b : Int) (e : Int) (m : Int) = some ((b ^ e % m : Nat) : Int) := by
  simp only [spec_PowerMod.f]
  rw [if_neg (by omega)]
  have e1 : Int.tmod 1 (m : Int) = ((1 % m : Nat) : Int) := rfl
  have := power_loop m hm hm2 64 e b (1 % m) k (by rw [show (2 : Nat) ^ 64 = 18446744073709551616 by decide]; exact he) he (Nat.mod_lt _ hm) (by omega)
  rw [show (1 : Int) % (m : Int) = ((1 % m : Nat) : Int) from rfl, this, Nat.mod_mul_mod, Nat.one_mul]

theorem ModPowUint32_loop (m : Nat) (hm : 1 < m) (hm2 : m < 4294967296) (f : Nat) : ∀ (e b r k : Nat), e < 2 ^ f → e < 4294967296 → r < m → b < 4294967296 → f < k →
    mathutil_ModPowUint32.l0 k (e : Int) (r : Int) (b : Int) (m : Int) = some ((r * b ^ e % m : Nat) : Int) := by
  induction f with
  | zero =>
    intro e b r k he _ hr _ hk
    obtain ⟨k, rfl⟩ : ∃ j, k = j + 1 := ⟨k - 1, by omega⟩
    have : e = 0 := by simpa using he
    subst this
    simp only [mathutil_ModPowUint32.l0]
    rw [if_neg (by omega), Nat.pow_zero, Nat.mul_one, Nat.mod_eq_of_lt hr]
    congr 1; omega
  | succ f ih =>
    intro e b r k he he2 hr hb hk
    obtain ⟨k, rfl⟩ : ∃ j, k = j + 1 := ⟨k - 1, by omega⟩
    by_cases h0 : e = 0
    · subst h0
      simp only [mathutil_ModPowUint32.l0]
      rw [if_neg (by omega), Nat.pow_zero, Nat.mul_one, Nat.mod_eq_of_lt hr]
      congr 1; omega
    · have hh : e / 2 < 2 ^ f := by rw [Nat.pow_succ] at he; omega
      clear he
      have hbb : b * b % m < m := Nat.mod_lt _ (by omega)
      have hrb : r * b % m < m := Nat.mod_lt _ (by omega)
      simp only [mathutil_ModPowUint32.l0]
      rw [if_pos (by omega), and1_u32 e he2, half, wrap_mul32 hb hb, wrap_mul32 (by omega) hb, tmod_nat, tmod_nat]
      by_cases ho : e % 2 = 1
      · rw [if_pos (by omega), if_neg (by omega), ih (e / 2) (b * b % m) (r * b % m) k hh (by omega) hrb (by omega) (by omega), PowN.step_odd r b e m ho]
      · rw [if_neg (by omega), if_neg (by omega), ih (e / 2) (b * b % m) r k hh (by omega) hr (by omega) (by omega), PowN.step_even r b e m (by omega)]
theorem ModPowUint32_is (b e m : Nat) (hbe : ¬ (b = 0 ∧ e = 0)) (hb2 : b < 4294967296) (hm : 1 ≤ m) (hm2 : m < 4294967296) (he : e < 4294967296) (k : Nat) (hk : 40 < k) :
    mathutil_ModPowUint32.f k (b : Int) (e : Int) (m : Int) = some ((b ^ e % m : Nat) : Int) := by
  have main : mathutil_ModPowUint32.j0 k (b : Int) (e : Int) (m : Int) false = some ((b ^ e % m : Nat) : Int) := by
    obtain ⟨k, rfl⟩ : ∃ j, k = j + 1 := ⟨k - 1, by omega⟩
    simp only [mathutil_ModPowUint32.j0]
    rw [if_neg (by simp)]
    by_cases h1 : m = 1
    · subst h1
      rw [if_pos (by omega), Nat.mod_one]; rfl
    · rw [if_neg (by omega), show IntKind.u64.wrap (b : Int) = (b : Int) by rw [IntKind.wrap_u64]; omega, show IntKind.u64.wrap (m : Int) = (m : Int) by rw [IntKind.wrap_u64]; omega]
      have := ModPowUint32_loop m (by omega) hm2 32 e b 1 k (by rw [show (2 : Nat) ^ 32 = 4294967296 by decide]; exact he) he (by omega) hb2 (by omega)
      rw [show (1 : Int) = ((1 : Nat) : Int) from rfl, this, Nat.one_mul]
  simp only [mathutil_ModPowUint32.f]
  by_cases h0 : b = 0
  · rw [if_pos (by omega), show ((e : Int) == 0) = false from beq_eq_false_iff_ne.mpr (by omega)]
    exact main
  · rw [if_neg (by omega)]
    exact main

theorem ModPowUint16_loop (m : Nat) (hm : 1 < m) (hm2 : m < 65536) (f : Nat) : ∀ (e b r k : Nat), e < 2 ^ f → e < 65536 → r < m → b < 65536 → f < k →
    mathutil_ModPowUint16.l0 k (e : Int) (r : Int) (b : Int) (m : Int) = some ((r * b ^ e % m : Nat) : Int) := by
  induction f with
  | zero =>
    intro e b r k he _ hr _ hk
    obtain ⟨k, rfl⟩ : ∃ j, k = j + 1 := ⟨k - 1, by omega⟩
    have : e = 0 := by simpa using he
    subst this
    simp only [mathutil_ModPowUint16.l0]
    rw [if_neg (by omega), Nat.pow_zero, Nat.mul_one, Nat.mod_eq_of_lt hr]
    rw [wraps_u16 _ (by omega) (by omega)]
  | succ f ih =>
    intro e b r k he he2 hr hb hk
    obtain ⟨k, rfl⟩ : ∃ j, k = j + 1 := ⟨k - 1, by omega⟩
    by_cases h0 : e = 0
    · subst h0
      simp only [mathutil_ModPowUint16.l0]
      rw [if_neg (by omega), Nat.pow_zero, Nat.mul_one, Nat.mod_eq_of_lt hr]
      rw [wraps_u16 _ (by omega) (by omega)]
    · have hh : e / 2 < 2 ^ f := by rw [Nat.pow_succ] at he; omega
      clear he
      have hbb : b * b % m < m := Nat.mod_lt _ (by omega)
      have hrb : r * b % m < m := Nat.mod_lt _ (by omega)
      simp only [mathutil_ModPowUint16.l0]
      rw [if_pos (by omega), and1_u16 e he2, half, wrap_mul16 hb hb, wrap_mul16 (by omega) hb, ← Int.natCast_emod, ← Int.natCast_emod]
      by_cases ho : e % 2 = 1
      · rw [if_pos (by omega), if_neg (by omega), ih (e / 2) (b * b % m) (r * b % m) k hh (by omega) hrb (by omega) (by omega), PowN.step_odd r b e m ho]
      · rw [if_neg (by omega), if_neg (by omega), ih (e / 2) (b * b % m) r k hh (by omega) hr (by omega) (by omega), PowN.step_even r b e m (by omega)]
theorem ModPowUint16_is (b e m : Nat) (hbe : ¬ (b = 0 ∧ e = 0)) (hb2 : b < 65536) (hm : 1 ≤ m) (hm2 : m < 65536) (he : e < 65536) (k : Nat) (hk : 40 < k) :
    mathutil_ModPowUint16.f k (b : Int) (e : Int) (m : Int) = some ((b ^ e % m : Nat) : Int) := by
  have main : mathutil_ModPowUint16.j0 k (b : Int) (e : Int) (m : Int) false = some ((b ^ e % m : Nat) : Int) := by
    obtain ⟨k, rfl⟩ : ∃ j, k = j + 1 := ⟨k - 1, by omega⟩
    simp only [mathutil_ModPowUint16.j0]
    rw [if_neg (by simp)]
    by_cases h1 : m = 1
    · subst h1
      rw [if_pos (by omega), Nat.mod_one]; rfl
    · rw [if_neg (by omega), show (b : Int) % 4294967296 = (b : Int) by omega, show (m : Int) % 4294967296 = (m : Int) by omega]
      have := ModPowUint16_loop m (by omega) hm2 16 e b 1 k (by rw [show (2 : Nat) ^ 16 = 65536 by decide]; exact he) he (by omega) hb2 (by omega)
      rw [show (1 : Int) = ((1 : Nat) : Int) from rfl, this, Nat.one_mul]
  simp only [mathutil_ModPowUint16.f]
  by_cases h0 : b = 0
  · rw [if_pos (by omega), show ((e : Int) == 0) = false from beq_eq_false_iff_ne.mpr (by omega)]
    exact main
  · rw [if_neg (by omega)]
    exact main

theorem ModPowByte_loop (m : Nat) (hm : 1 < m) (hm2 : m < 256) (f : Nat) : ∀ (e b r k : Nat), e < 2 ^ f → e < 256 → r < m → b < 256 → f < k →
    mathutil_ModPowByte.l0 k (e : Int) (r : Int) (b : Int) (m : Int) = some ((r * b ^ e % m : Nat) : Int) := by
  induction f with
  | zero =>
    intro e b r k he _ hr _ hk
    obtain ⟨k, rfl⟩ : ∃ j, k = j + 1 := ⟨k - 1, by omega⟩
    have : e = 0 := by simpa using he
    subst this
    simp only [mathutil_ModPowByte.l0]
    rw [if_neg (by omega), Nat.pow_zero, Nat.mul_one, Nat.mod_eq_of_lt hr]
    congr 1; omega
  | succ f ih =>
    intro e b r k he he2 hr hb hk
    obtain ⟨k, rfl⟩ : ∃ j, k = j + 1 := ⟨k - 1, by omega⟩
    by_cases h0 : e = 0
    · subst h0
      simp only [mathutil_ModPowByte.l0]
      rw [if_neg (by omega), Nat.pow_zero, Nat.mul_one, Nat.mod_eq_of_lt hr]
      congr 1; omega
    · have hh : e / 2 < 2 ^ f := by rw [Nat.pow_succ] at he; omega
      clear he
      have hbb : b * b % m < m := Nat.mod_lt _ (by omega)
      have hrb : r * b % m < m := Nat.mod_lt _ (by omega)
      simp only [mathutil_ModPowByte.l0]
      rw [if_pos (by omega), and1_u8 e he2, half, wrap_mul8 hb hb, wrap_mul8 (by omega) hb, tmod_nat, tmod_nat]
      by_cases ho : e % 2 = 1
      · rw [if_pos (by omega), if_neg (by omega), ih (e / 2) (b * b % m) (r * b % m) k hh (by omega) hrb (by omega) (by omega), PowN.step_odd r b e m ho]
      · rw [if_neg (by omega), if_neg (by omega), ih (e / 2) (b * b % m) r k hh (by omega) hr (by omega) (by omega), PowN.step_even r b e m (by omega)]
theorem ModPowByte_is (b e m : Nat) (hbe : ¬ (b = 0 ∧ e = 0)) (hb2 : b < 256) (hm : 1 ≤ m) (hm2 : m < 256) (he : e < 256) (k : Nat) (hk : 40 < k) :
    mathutil_ModPowByte.f k (b : Int) (e : Int) (m : Int) = some ((b ^ e % m : Nat) : Int) := by
  have main : mathutil_ModPowByte.j0 k (b : Int) (e : Int) (m : Int) false = some ((b ^ e % m : Nat) : Int) := by
    obtain ⟨k, rfl⟩ : ∃ j, k = j + 1 := ⟨k - 1, by omega⟩
    simp only [mathutil_ModPowByte.j0]
    rw [if_neg (by simp)]
    by_cases h1 : m = 1
    · subst h1
      rw [if_pos (by omega), Nat.mod_one]; rfl
    · rw [if_neg (by omega), show IntKind.u16.wrap (b : Int) = (b : Int) by rw [IntKind.wrap_u16]; omega, show IntKind.u16.wrap (m : Int) = (m : Int) by rw [IntKind.wrap_u16]; omega]
      have := ModPowByte_loop m (by omega) hm2 8 e b 1 k (by rw [show (2 : Nat) ^ 8 = 256 by decide]; exact he) he (by omega) hb2 (by omega)
      rw [show (1 : Int) = ((1 : Nat) : Int) from rfl, this, Nat.one_mul]
  simp only [mathutil_ModPowByte.f]
  by_cases h0 : b = 0
  · rw [if_pos (by omega), show ((e : Int) == 0) = false from beq_eq_false_iff_ne.mpr (by omega)]
    exact main
  · rw [if_neg (by omega)]
    exact main
end Go.Proofs.YtmmnopmccamjcaaGreatDoor.MpN
