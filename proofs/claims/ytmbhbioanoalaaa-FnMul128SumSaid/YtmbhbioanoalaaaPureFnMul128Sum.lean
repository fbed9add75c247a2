/- Proved: the product that the package tells of a number and a sum is the sum of the two products, where the sum has room in 64 bits. Conditions: three numbers of 64 bits without a sign; no others. -/
import Derived.Test.YtmbhbioanoalaaaPFnMul128Sumx1
import Derived.Test.YtmbhbioanoalaaaCom
namespace Go.Proofs.Ytmbhbioanoalaaa.Pure
open Go Go.RowKit Go.Proofs.Ytmbhbioanoalaaa.PFnMul128Sum Go.Proofs.YtmbhbioanoalaaaW.PrintWords Go.Proofs.YtmbhbioanoalaaaW.PrintLast Go.Com

theorem mul_bd {b c : Int} (h0 : 0 ≤ b) (h1 : b < 4294967296) (h2 : 0 ≤ c) (h3 : c < 4294967296) : 0 ≤ b * c ∧ b * c ≤ 18446744065119617025 := by
  have := Int.mul_le_mul (a := b) (b := c) (c := 4294967295) (d := 4294967295) (by omega) (by omega) (by omega) (by omega)
  exact ⟨Int.mul_nonneg h0 h2, by omega⟩

/-- the halves of a sum of two numbers of 64 bits -/
theorem add_is (a b : Int) (ha0 : 0 ≤ a) (ha1 : a < 18446744073709551616) (hb0 : 0 ≤ b) (hb1 : b < 18446744073709551616) :
    mathutil_AddUint128_64.f a b = some ((a + b) / 18446744073709551616, (a + b) % 18446744073709551616) := by
  simp only [mathutil_AddUint128_64.f, IntKind.wrap_u64]
  split
  · congr 2; omega
  · congr 2; omega

/-- the product of two numbers of 64 bits by its halves -/
theorem mul_is (a b : Int) (ha0 : 0 ≤ a) (ha1 : a < 18446744073709551616) (hb0 : 0 ≤ b) (hb1 : b < 18446744073709551616) :
    mathutil_MulUint128_64.f a b = some (a * b / 18446744073709551616, a * b % 18446744073709551616) := by
  simp only [mathutil_MulUint128_64.f, and_mask32 ha0 ha1, and_mask32 hb0 hb1, IntKind.wrap_u64]
  obtain ⟨ah, eah⟩ : ∃ ah, ah = a / 4294967296 := ⟨_, rfl⟩
  obtain ⟨al, eal⟩ : ∃ al, al = a % 4294967296 := ⟨_, rfl⟩
  obtain ⟨bh, ebh⟩ : ∃ bh, bh = b / 4294967296 := ⟨_, rfl⟩
  obtain ⟨bl, ebl⟩ : ∃ bl, bl = b % 4294967296 := ⟨_, rfl⟩
  have ea : a = ah * 4294967296 + al := by omega
  have eb : b = bh * 4294967296 + bl := by omega
  rw [← eah, ← eal, ← ebh, ← ebl]
  have p := mul_bd (b := al) (c := bl) (by omega) (by omega) (by omega) (by omega)
  have q := mul_bd (b := al) (c := bh) (by omega) (by omega) (by omega) (by omega)
  have r := mul_bd (b := ah) (c := bl) (by omega) (by omega) (by omega) (by omega)
  have s := mul_bd (b := ah) (c := bh) (by omega) (by omega) (by omega) (by omega)
  have e : a * b = ah * bh * 18446744073709551616 + (al * bh + ah * bl) * 4294967296 + al * bl := by rw [ea, eb]; grind
  have sbd : a * b < 340282366920938463463374607431768211456 := by
    have := Int.mul_le_mul (a := a) (b := b) (c := 18446744073709551615) (d := 18446744073709551615) (by omega) (by omega) (by omega) (by omega); omega
  rw [e] at sbd ⊢
  clear e ea eb eah eal ebh ebl
  generalize al * bl = P at *
  generalize al * bh = Q at *
  generalize ah * bl = R at *
  generalize ah * bh = S at *
  rw [show P % 18446744073709551616 = P by omega, show Q % 18446744073709551616 = Q by omega, show R % 18446744073709551616 = R by omega, show S % 18446744073709551616 = S by omega]
  rw [add_is _ _ (by omega) (by omega) (by omega) (by omega)]
  simp only [Option.bind_some]
  rw [add_is _ _ (by omega) (by omega) (by omega) (by omega)]
  simp only [Option.bind_some]
  rw [add_is _ _ (by omega) (by omega) (by omega) (by omega)]
  simp only [Option.bind_some]
  congr 2
  · omega
  · omega

theorem FnMul128Sum : laws_FnMul128Sum.Pure := by
  intro a b c ha hb hc
  obtain ⟨a0, a1⟩ := b_u64 ha
  obtain ⟨b0, b1⟩ := b_u64 hb
  obtain ⟨c0, c1⟩ := b_u64 hc
  simp only [laws_FnMul128Sum.f, impl_MulUint128.f, impl_AddUint128.f]
  rw [mul_is 2 3 (by omega) (by omega) (by omega) (by omega), add_is b c b0 b1 c0 c1]
  simp only [Option.bind_some]
  by_cases hz : (b + c) / 18446744073709551616 = 0
  · rw [if_pos hz]
    have e : (b + c) % 18446744073709551616 = b + c := by omega
    rw [e, mul_is a b a0 a1 b0 b1, mul_is a c a0 a1 c0 c1, mul_is a (b + c) a0 a1 (by omega) (by omega)]
    simp only [Option.bind_some]
    rw [add_is _ _ (by omega) (by omega) (by omega) (by omega)]
    simp only [Option.bind_some, IntKind.wrap_u64]
    have hbd : a * (b + c) < 340282366920938463463374607431768211456 := by
      have := Int.mul_le_mul (a := a) (b := b + c) (c := 18446744073709551615) (d := 18446744073709551615) (by omega) (by omega) (by omega) (by omega); omega
    have h1 : 0 ≤ a * b := Int.mul_nonneg a0 b0
    have h2 : 0 ≤ a * c := Int.mul_nonneg a0 c0
    rw [Int.mul_add] at hbd ⊢
    generalize a * b = X at *
    generalize a * c = Y at *
    rw [if_pos (by decide), if_pos (by omega)]
    congr 1
    rw [beq_iff_eq]
    omega
  · rw [if_neg hz]; rfl

end Go.Proofs.Ytmbhbioanoalaaa.Pure
