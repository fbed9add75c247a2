/- Proved: the package keeps numbers of 64 bits, with a sign and without, as numbers of 128 bits. Conditions: a number of 64 bits with a sign and one without; no others. -/
import Derived.Test.YtfnimhjabbnldaaPFnInt128Ofx2
import Derived.Test.YtfnimhjabbnldaaCom
namespace Go.Proofs.Ytfnimhjabbnldaa.Pure
open Go Go.RowKit Go.Proofs.Ytfnimhjabbnldaa.PFnInt128Of Go.Proofs.YtfnimhjabbnldaaW.PrintWords Go.Proofs.YtfnimhjabbnldaaW.PrintLast Go.Com

theorem cmp_is (l h l' h' : Int) : mathutil_Int128_Cmp.f l h l' h' = some (if h < h' ∨ (h = h' ∧ IntKind.u64.wrap l < IntKind.u64.wrap l') then -1 else if h = h' ∧ IntKind.u64.wrap l = IntKind.u64.wrap l' then 0 else 1) := by
  simp only [mathutil_Int128_Cmp.f]
  by_cases h1 : h > h'
  · rw [if_pos h1, if_neg (by omega), if_neg (by omega)]
  · rw [if_neg h1]
    by_cases h2 : h < h'
    · rw [if_pos h2, if_pos (by omega)]
    · rw [if_neg h2]
      by_cases h3 : IntKind.u64.wrap l > IntKind.u64.wrap l'
      · rw [if_pos h3, if_neg (by omega), if_neg (by omega)]
      · rw [if_neg h3]
        by_cases h4 : IntKind.u64.wrap l < IntKind.u64.wrap l'
        · rw [if_pos h4, if_pos (by omega)]
        · rw [if_neg h4, if_neg (by omega), if_pos (by omega)]

theorem sign_is (l h : Int) : mathutil_Int128_Sign.f l h = some (if h < 0 then -1 else if h = 0 ∧ l = 0 then 0 else 1) := by
  simp only [mathutil_Int128_Sign.f]
  by_cases h1 : h < 0
  · rw [if_pos h1, if_pos h1]
  · rw [if_neg h1, if_neg h1]
    by_cases h2 : h = 0
    · rw [if_pos h2]
      by_cases h3 : l = 0
      · rw [if_pos h3, if_pos ⟨h2, h3⟩]
      · rw [if_neg h3, if_neg (by omega)]
    · rw [if_neg h2, if_neg (by omega)]

/-- the upper half of a sum -/
def hiV (a b c d : Int) : Int := wrap64 (a + c + (b % 18446744073709551616 + d % 18446744073709551616) / 18446744073709551616)
/-- there is a carry of the numbers taken with a sign -/
def cyV (a b c d : Int) : Bool := (decide (hiV a b c d < a ∨ (hiV a b c d = a ∧ (b + d) % 18446744073709551616 < b % 18446744073709551616))) == (decide (0 ≤ c))
theorem add_is (a b c d : Int) : impl_Add128.f a b c d = some (hiV a b c d, wrap64 (b + d), cyV a b c d) := by
  have el : IntKind.u64.wrap (wrap64 (b + d)) = (b + d) % 18446744073709551616 := by rw [IntKind.wrap_u64, w64]; omega
  have eb : IntKind.u64.wrap b = b % 18446744073709551616 := IntKind.wrap_u64 b
  have es : (decide ((if c < 0 then -1 else if c = 0 ∧ d = 0 then 0 else 1 : Int) ≥ 0)) = decide (0 ≤ c) := by
    rw [Bool.eq_iff_iff, decide_eq_true_eq, decide_eq_true_eq]
    split
    · omega
    · split <;> omega
  simp only [impl_Add128.f, mathutil_Int128_Add.f, cmp_is, sign_is, Option.bind_some, el, eb, es]
  by_cases h : (b + d) % 18446744073709551616 < b % 18446744073709551616
  · rw [if_pos h]
    have eh : wrap64 (wrap64 (a + c) + 1) = hiV a b c d := by simp only [hiV, w64]; omega
    simp only [Option.bind_some, eh, cyV]
    congr 4
    rw [Bool.eq_iff_iff, decide_eq_true_eq, decide_eq_true_eq]
    split
    · omega
    · split <;> omega
  · rw [if_neg h]
    have eh : wrap64 (a + c) = hiV a b c d := by simp only [hiV, w64]; omega
    simp only [Option.bind_some, eh, cyV]
    congr 4
    rw [Bool.eq_iff_iff, decide_eq_true_eq, decide_eq_true_eq]
    split
    · omega
    · split <;> omega
theorem wide_is : laws_wide.f = some true := by
  simp only [laws_wide.f, add_is, Option.bind_some]
  have e1 : hiV 0 1 0 2 = 0 := by simp only [hiV, w64]; omega
  have e2 : wrap64 (1 + 2) = 3 := by rw [w64]; omega
  rw [if_pos e1, e2]; rfl

theorem FnInt128Of : laws_FnInt128Of.Pure := by
  intro n u hn hu
  have hn' := b_i64 hn
  have hu' := b_u64 hu
  have e : IntKind.u64.wrap (wrap64 u) = u := by rw [IntKind.wrap_u64, w64]; omega
  simp only [laws_FnInt128Of.f, wide_is, Option.bind_some, if_true, impl_Int128Of.f, impl_Int128OfUint64.f, mathutil_NewInt128FromInt64.f, mathutil_NewInt128FromUint64.f, spec_WideOf.f]
  by_cases h : n < 0
  · have e1 : n / 9223372036854775808 = -1 := by omega
    simp [h, e1, e]
  · have e1 : n / 9223372036854775808 = 0 := by omega
    simp [h, e1, e]

end Go.Proofs.Ytfnimhjabbnldaa.Pure
