/- Proved: the sign that the package tells of a number of 128 bits is how it compares with 0. Conditions: two numbers of 64 bits with a sign, the halves; no others. -/
import Derived.Test.YtfnimhjabbnldaaOFnInt128Signx2
import Derived.Test.YtfnimhjabbnldaaCom
namespace Go.Proofs.Ytfnimhjabbnldaa.Pure
open Go Go.RowKit Go.Proofs.Ytfnimhjabbnldaa.PFnInt128Sign Go.Proofs.YtfnimhjabbnldaaW.PrintWords Go.Proofs.YtfnimhjabbnldaaW.PrintLast Go.Com

theorem cmp_is (l h l' h' : Int) : mathutil_Int128_Cmp.f l h l' h' = some (if h < h' ∨ (h = h' ∧ IntKind.u64.wrap l < IntKind.u64.wrap l') then -1 else if h = h' ∧ IntKind.u64.wrap l = IntKind.u64.wrap l' then 0 else 1) := by
  simp only [mathutil_Int128_Cmp.f]
  by_cases h1 : h > h'
  · rw [if_pos h1, if_neg (by omega), if_neg (by omega)]
  · rw [if_neg h1]
    by_cases h2 : h < h'
    · rw [if_pos h2, if_pos (by omega)]
    · rw [if_neg h2]
      by_cases h3 : IntKind.u64.wrap l > IntKind.u64.wrap l'
      · rw [if_pos h3, if_neg (by omega), if_neg (by omega)]
      · rw [if_neg h3]
        by_cases h4 : IntKind.u64.wrap l < IntKind.u64.wrap l'
        · rw [if_pos h4, if_pos (by omega)]
        · rw [if_neg h4, if_neg (by omega), if_pos (by omega)]

theorem sign_is (l h : Int) : mathutil_Int128_Sign.f l h = some (if h < 0 then -1 else if h = 0 ∧ l = 0 then 0 else 1) := by
  simp only [mathutil_Int128_Sign.f]
  by_cases h1 : h < 0
  · rw [if_pos h1, if_pos h1]
  · rw [if_neg h1, if_neg h1]
    by_cases h2 : h = 0
    · rw [if_pos h2]
      by_cases h3 : l = 0
      · rw [if_pos h3, if_pos ⟨h2, h3⟩]
      · rw [if_neg h3, if_neg (by omega)]
    · rw [if_neg h2, if_neg (by omega)]

/-- the upper half of a sum -/
def hiV (a b c d : Int) : Int := wrap64 (a + c + (b % 18446744073709551616 + d % 18446744073709551616) / 18446744073709551616)
/-- there is a carry of the numbers taken with a sign -/
def cyV (a b c d : Int) : Bool := (decide (hiV a b c d < a ∨ (hiV a b c d = a ∧ (b + d) % 18446744073709551616 < b % 18446744073709551616))) == (decide (0 ≤ c))
theorem add_is (a b c d : Int) : impl_Add128.f a b c d = some (hiV a b c d, wrap64 (b + d), cyV a b c d) := by
  have el : IntKind.u64.wrap (wrap64 (b + d)) = (b + d) % 18446744073709551616 := by rw [IntKind.wrap_u64, w64]; omega
  have eb : IntKind.u64.wrap b = b % 18446744073709551616 := IntKind.wrap_u64 b
  have es : (decide ((if c < 0 then -1 else if c = 0 ∧ d = 0 then 0 else 1 : Int) ≥ 0)) = decide (0 ≤ c) := by
    rw [Bool.eq_iff_iff, decide_eq_true_eq, decide_eq_true_eq]
    split
    · omega
    · split <;> omega
  simp only [impl_Add128.f, mathutil_Int128_Add.f, cmp_is, sign_is, Option.bind_some, el, eb, es]
  by_cases h : (b + d) % 18446744073709551616 < b % 18446744073709551616
  · rw [if_pos h]
    have eh : wrap64 (wrap64 (a + c) + 1) = hiV a b c d := by simp only [hiV, w64]; omega
    simp only [Option.bind_some, eh, cyV]
    congr 4
    rw [Bool.eq_iff_iff, decide_eq_true_eq, decide_eq_true_eq]
    split
    · omega
    · split <;> omega
  · rw [if_neg h]
    have eh : wrap64 (a + c) = hiV a b c d := by simp only [hiV, w64]; omega
    simp only [Option.bind_some, eh, cyV]
    congr 4
    rw [Bool.eq_iff_iff, decide_eq_true_eq, decide_eq_true_eq]
    split
    · omega
    · split <;> omega
theorem wide_is : laws_wide.f = some true := by
  simp only [laws_wide.f, add_is, Option.bind_some]
  have e1 : hiV 0 1 0 2 = 0 := by simp only [hiV, w64]; omega
  have e2 : wrap64 (1 + 2) = 3 := by rw [w64]; omega
  rw [if_pos e1, e2]; rfl

theorem FnInt128Sign : laws_FnInt128Sign.Pure := by
  intro a b _ hb
  have hb' := b_i64 hb
  have e : IntKind.u64.wrap b = b % 18446744073709551616 := IntKind.wrap_u64 b
  simp only [laws_FnInt128Sign.f, wide_is, Option.bind_some, if_true, impl_Sign128.f, sign_is, spec_Compare.f, e]
  rcases Int.lt_trichotomy a 0 with h | h | h
  · have h1 : ¬ a = 0 := by omega
    simp [h, h1]
  · subst h
    by_cases hz : b = 0
    · subst hz; simp
    · have h1 : ¬ b % 18446744073709551616 = 0 := by omega
      have h2 : ¬ b % 18446744073709551616 < 0 := by omega
      simp only [hz, h1, h2, and_false, if_false, Int.lt_irrefl, beq_self_eq_true, Bool.true_and, beq_iff_eq, if_true]; rfl
  · have h1 : ¬ a = 0 := by omega
    have h2 : ¬ a < 0 := by omega
    simp [h1, h2]

end Go.Proofs.Ytfnimhjabbnldaa.Pure
