/- Proved: the upper and the lower 64 bits of a product of two numbers of 64 bits, as the package tells them, are those of the reference. Conditions: both are numbers of 64 bits without a sign; no others. -/
import Derived.Test.YtmbhbioanoalaaaPFnMul128x1
import Derived.Test.YtmbhbioanoalaaaCom
namespace Go.Proofs.Ytmbhbioanoalaaa.Pure
open Go Go.RowKit Go.Proofs.Ytmbhbioanoalaaa.PFnMul128 Go.Proofs.YtmbhbioanoalaaaW.PrintWords Go.Proofs.YtmbhbioanoalaaaW.PrintLast Go.Com

theorem mul_bd {b c : Int} (h0 : 0 ≤ b) (h1 : b < 4294967296) (h2 : 0 ≤ c) (h3 : c < 4294967296) : 0 ≤ b * c ∧ b * c ≤ 18446744065119617025 := by
  have := Int.mul_le_mul (a := b) (b := c) (c := 4294967295) (d := 4294967295) (by omega) (by omega) (by omega) (by omega)
  exact ⟨Int.mul_nonneg h0 h2, by omega⟩

/-- the halves of a sum of two numbers of 64 bits -/
theorem add_is (a b : Int) (ha0 : 0 ≤ a) (ha1 : a < 18446744073709551616) (hb0 : 0 ≤ b) (hb1 : b < 18446744073709551616) :
    mathutil_AddUint128_64.f a b = some ((a + b) / 18446744073709551616, (a + b) % 18446744073709551616) := by
  simp only [mathutil_AddUint128_64.f, IntKind.wrap_u64]
  split
  · congr 2; omega
  · congr 2; omega

/-- the product of two numbers of 64 bits by its halves -/
theorem mul_is (a b : Int) (ha0 : 0 ≤ a) (ha1 : a < 18446744073709551616) (hb0 : 0 ≤ b) (hb1 : b < 18446744073709551616) :
    mathutil_MulUint128_64.f a b = some (a * b / 18446744073709551616, a * b % 18446744073709551616) := by
  simp only [mathutil_MulUint128_64.f, and_mask32 ha0 ha1, and_mask32 hb0 hb1, IntKind.wrap_u64]
  obtain ⟨ah, eah⟩ : ∃ ah, ah = a / 4294967296 := ⟨_, rfl⟩
  obtain ⟨al, eal⟩ : ∃ al, al = a % 4294967296 := ⟨_, rfl⟩
  obtain ⟨bh, ebh⟩ : ∃ bh, bh = b / 4294967296 := ⟨_, rfl⟩
  obtain ⟨bl, ebl⟩ : ∃ bl, bl = b % 4294967296 := ⟨_, rfl⟩
  have ea : a = ah * 4294967296 + al := by omega
  have eb : b = bh * 4294967296 + bl := by omega
  rw [← eah, ← eal, ← ebh, ← ebl]
  have p := mul_bd (b := al) (c := bl) (by omega) (by omega) (by omega) (by omega)
  have q := mul_bd (b := al) (c := bh) (by omega) (by omega) (by omega) (by omega)
  have r := mul_bd (b := ah) (c := bl) (by omega) (by omega) (by omega) (by omega)
  have s := mul_bd (b := ah) (c := bh) (by omega) (by omega) (by omega) (by omega)
  have e : a * b = ah * bh * 18446744073709551616 + (al * bh + ah * bl) * 4294967296 + al * bl := by rw [ea, eb]; grind
  have sbd : a * b < 340282366920938463463374607431768211456 := by
    have := Int.mul_le_mul (a := a) (b := b) (c := 18446744073709551615) (d := 18446744073709551615) (by omega) (by omega) (by omega) (by omega); omega
  rw [e] at sbd ⊢
  clear e ea eb eah eal ebh ebl
  generalize al * bl = P at *
  generalize al * bh = Q at *
  generalize ah * bl = R at *
  generalize ah * bh = S at *
  rw [show P % 18446744073709551616 = P by omega, show Q % 18446744073709551616 = Q by omega, show R % 18446744073709551616 = R by omega, show S % 18446744073709551616 = S by omega]
  rw [add_is _ _ (by omega) (by omega) (by omega) (by omega)]
  simp only [Option.bind_some]
  rw [add_is _ _ (by omega) (by omega) (by omega) (by omega)]
  simp only [Option.bind_some]
  rw [add_is _ _ (by omega) (by omega) (by omega) (by omega)]
  simp only [Option.bind_some]
  congr 2
  · omega
  · omega

theorem times_is (a b : Int) (ha0 : 0 ≤ a) (ha1 : a < 18446744073709551616) (hb0 : 0 ≤ b) (hb1 : b < 18446744073709551616) :
    spec_Times.f a b = some (a * b / 18446744073709551616, a * b % 18446744073709551616) := by
  simp only [spec_Times.f, and_mask32 ha0 ha1, and_mask32 hb0 hb1, IntKind.wrap_u64]
  obtain ⟨ah, eah⟩ : ∃ ah, ah = a / 4294967296 := ⟨_, rfl⟩
  obtain ⟨al, eal⟩ : ∃ al, al = a % 4294967296 := ⟨_, rfl⟩
  obtain ⟨bh, ebh⟩ : ∃ bh, bh = b / 4294967296 := ⟨_, rfl⟩
  obtain ⟨bl, ebl⟩ : ∃ bl, bl = b % 4294967296 := ⟨_, rfl⟩
  have ea : a = ah * 4294967296 + al := by omega
  have eb : b = bh * 4294967296 + bl := by omega
  rw [← eah, ← eal, ← ebh, ← ebl]
  have p := mul_bd (b := al) (c := bl) (by omega) (by omega) (by omega) (by omega)
  have q := mul_bd (b := al) (c := bh) (by omega) (by omega) (by omega) (by omega)
  have r := mul_bd (b := ah) (c := bl) (by omega) (by omega) (by omega) (by omega)
  have s := mul_bd (b := ah) (c := bh) (by omega) (by omega) (by omega) (by omega)
  have e : a * b = ah * bh * 18446744073709551616 + (al * bh + ah * bl) * 4294967296 + al * bl := by rw [ea, eb]; grind
  have sbd : a * b < 340282366920938463463374607431768211456 := by
    have := Int.mul_le_mul (a := a) (b := b) (c := 18446744073709551615) (d := 18446744073709551615) (by omega) (by omega) (by omega) (by omega); omega
  rw [e] at sbd ⊢
  clear e ea eb eah eal ebh ebl
  generalize al * bl = P at *
  generalize al * bh = Q at *
  generalize ah * bl = R at *
  generalize ah * bh = S at *
  rw [show P % 18446744073709551616 = P by omega, show Q % 18446744073709551616 = Q by omega, show R % 18446744073709551616 = R by omega, show S % 18446744073709551616 = S by omega]
  rw [and_mask32 (x := P) (by omega) (by omega), and_mask32 (x := (R + P / 4294967296) % 18446744073709551616) (by omega) (by omega)]
  rw [or_low32 (by omega) (by omega) (by omega) (by omega) (by omega)]
  congr 2
  · omega
  · omega

theorem FnMul128 : laws_FnMul128.Pure := by
  intro a b ha hb
  obtain ⟨a0, a1⟩ := b_u64 ha
  obtain ⟨b0, b1⟩ := b_u64 hb
  simp only [laws_FnMul128.f, impl_MulUint128.f]
  rw [mul_is a b a0 a1 b0 b1, mul_is 2 3 (by omega) (by omega) (by omega) (by omega), times_is a b a0 a1 b0 b1]
  simp

end Go.Proofs.Ytmbhbioanoalaaa.Pure
