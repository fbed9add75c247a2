/- Proved: the negative of a number of 128 bits that the package tells is that of the reference, but for the least number, which is told. Conditions: two numbers of 64 bits with a sign, the halves; no others. -/
import Derived.Test.YtfnimhjabbnldaaOFnInt128Negx2
import Derived.Test.YtfnimhjabbnldaaCom
import Derived.Test.YtfnimhjabbnldaaWide
namespace Go.Proofs.Ytfnimhjabbnldaa.Pure
open Go Go.RowKit Go.Proofs.Ytfnimhjabbnldaa.PFnInt128Neg Go.Proofs.YtfnimhjabbnldaaW.PrintWords Go.Proofs.YtfnimhjabbnldaaW.PrintLast Go.Com

theorem cmp_is (l h l' h' : Int) : mathutil_Int128_Cmp.f l h l' h' = some (if h < h' ∨ (h = h' ∧ IntKind.u64.wrap l < IntKind.u64.wrap l') then -1 else if h = h' ∧ IntKind.u64.wrap l = IntKind.u64.wrap l' then 0 else 1) := by
  simp only [mathutil_Int128_Cmp.f]
  by_cases h1 : h > h'
  · rw [if_pos h1, if_neg (by omega), if_neg (by omega)]
  · rw [if_neg h1]
    by_cases h2 : h < h'
    · rw [if_pos h2, if_pos (by omega)]
    · rw [if_neg h2]
      by_cases h3 : IntKind.u64.wrap l > IntKind.u64.wrap l'
      · rw [if_pos h3, if_neg (by omega), if_neg (by omega)]
      · rw [if_neg h3]
        by_cases h4 : IntKind.u64.wrap l < IntKind.u64.wrap l'
        · rw [if_pos h4, if_pos (by omega)]
        · rw [if_neg h4, if_neg (by omega), if_pos (by omega)]

theorem sign_is (l h : Int) : mathutil_Int128_Sign.f l h = some (if h < 0 then -1 else if h = 0 ∧ l = 0 then 0 else 1) := by
  simp only [mathutil_Int128_Sign.f]
  by_cases h1 : h < 0
  · rw [if_pos h1, if_pos h1]
  · rw [if_neg h1, if_neg h1]
    by_cases h2 : h = 0
    · rw [if_pos h2]
      by_cases h3 : l = 0
      · rw [if_pos h3, if_pos ⟨h2, h3⟩]
      · rw [if_neg h3, if_neg (by omega)]
    · rw [if_neg h2, if_neg (by omega)]

/-- the upper half of a sum -/
def hiV (a b c d : Int) : Int := wrap64 (a + c + (b % 18446744073709551616 + d % 18446744073709551616) / 18446744073709551616)
/-- there is a carry of the numbers taken with a sign -/
def cyV (a b c d : Int) : Bool := (decide (hiV a b c d < a ∨ (hiV a b c d = a ∧ (b + d) % 18446744073709551616 < b % 18446744073709551616))) == (decide (0 ≤ c))
theorem add_is (a b c d : Int) : impl_Add128.f a b c d = some (hiV a b c d, wrap64 (b + d), cyV a b c d) := by
  have el : IntKind.u64.wrap (wrap64 (b + d)) = (b + d) % 18446744073709551616 := by rw [IntKind.wrap_u64, w64]; omega
  have eb : IntKind.u64.wrap b = b % 18446744073709551616 := IntKind.wrap_u64 b
  have es : (decide ((if c < 0 then -1 else if c = 0 ∧ d = 0 then 0 else 1 : Int) ≥ 0)) = decide (0 ≤ c) := by
    rw [Bool.eq_iff_iff, decide_eq_true_eq, decide_eq_true_eq]
    split
    · omega
    · split <;> omega
  simp only [impl_Add128.f, mathutil_Int128_Add.f, cmp_is, sign_is, Option.bind_some, el, eb, es]
  by_cases h : (b + d) % 18446744073709551616 < b % 18446744073709551616
  · rw [if_pos h]
    have eh : wrap64 (wrap64 (a + c) + 1) = hiV a b c d := by simp only [hiV, w64]; omega
    simp only [Option.bind_some, eh, cyV]
    congr 4
    rw [Bool.eq_iff_iff, decide_eq_true_eq, decide_eq_true_eq]
    split
    · omega
    · split <;> omega
  · rw [if_neg h]
    have eh : wrap64 (a + c) = hiV a b c d := by simp only [hiV, w64]; omega
    simp only [Option.bind_some, eh, cyV]
    congr 4
    rw [Bool.eq_iff_iff, decide_eq_true_eq, decide_eq_true_eq]
    split
    · omega
    · split <;> omega
theorem wide_is : laws_wide.f = some true := by
  simp only [laws_wide.f, add_is, Option.bind_some]
  have e1 : hiV 0 1 0 2 = 0 := by simp only [hiV, w64]; omega
  have e2 : wrap64 (1 + 2) = 3 := by rw [w64]; omega
  rw [if_pos e1, e2]; rfl
/-- sums of numbers of 128 bits, by their values -/
theorem sum_v (u v : Int) (h : -170141183460469231731687303715884105728 ≤ u + v ∧ u + v < 170141183460469231731687303715884105728) :
    ∃ o, spec_Sum.f (u / 18446744073709551616) (u % 18446744073709551616) (v / 18446744073709551616) (v % 18446744073709551616) = some ((u + v) / 18446744073709551616, (u + v) % 18446744073709551616, o) := by
  have t3 {x x' y y' : Int} {z : Bool} (h1 : x = x') (h2 : y = y') : ∃ o, some (x, y, z) = some (x', y', o) := ⟨z, by rw [h1, h2]⟩
  simp only [spec_Sum.f, IntKind.wrap_u64, w64]
  split
  · split
    · exact t3 (by omega) (by omega)
    · exact t3 (by omega) (by omega)
  · split
    · exact t3 (by omega) (by omega)
    · exact t3 (by omega) (by omega)

theorem neg_v (v : Int) (h : -170141183460469231731687303715884105728 < v ∧ v < 170141183460469231731687303715884105728) :
    spec_Negative.f (v / 18446744073709551616) (v % 18446744073709551616) = some ((-v) / 18446744073709551616, (-v) % 18446744073709551616) := by
  simp only [spec_Negative.f]
  rw [Wide.xor_i64 _ (by omega) (by omega), Wide.xor_u64 _ (by omega) (by omega)]
  obtain ⟨o, hs⟩ := sum_v (-1 - v) 1 (by omega)
  rw [show (-1 - v) / 18446744073709551616 = -1 - v / 18446744073709551616 by omega, show (-1 - v) % 18446744073709551616 = 18446744073709551615 - v % 18446744073709551616 by omega] at hs
  rw [show (1 : Int) / 18446744073709551616 = 0 by omega, show (1 : Int) % 18446744073709551616 = 1 by omega] at hs
  rw [hs]
  simp only [Option.bind_some]
  rw [show -1 - v + 1 = -v by omega]

theorem FnInt128Neg : laws_FnInt128Neg.Pure := by
  intro a b ha hb
  have ha' := b_i64 ha
  have hb' := b_i64 hb
  refine ⟨1, ?_⟩
  by_cases hleast : a = -9223372036854775808 ∧ b = 0
  · obtain ⟨rfl, rfl⟩ := hleast
    have hneg : ∃ p q, spec_Negative.f (-9223372036854775808) (IntKind.u64.wrap 0) = some (p, q) := by
      simp only [spec_Negative.f, spec_Sum.f]
      split
      · split <;> exact ⟨_, _, rfl⟩
      · split <;> exact ⟨_, _, rfl⟩
    obtain ⟨p, q, hpq⟩ := hneg
    have hm : impl_Neg128.f (-9223372036854775808) 0 = some (-9223372036854775808, 0, false) := by
      simp [impl_Neg128.f, mathutil_Int128_Neg.f]
    simp only [laws_FnInt128Neg.f, hm, Option.bind_some, laws_FnInt128Neg.j0, wide_is, hpq]
    simp
  · have hb0 : (b == 0 && (a == (-9223372036854775808))) = false := by
      rw [Bool.and_eq_false_iff, beq_eq_false_iff_ne, beq_eq_false_iff_ne]; omega
    have hadd := add_is (-1 - a) (-1 - b) 0 1
    simp only [impl_Add128.f] at hadd
    have hm : impl_Neg128.f a b = some (hiV (-1 - a) (-1 - b) 0 1, wrap64 (-1 - b + 1), true) := by
      simp only [impl_Neg128.f, mathutil_Int128_Neg.f, hb0, Bool.false_eq_true, if_false, Wide.xor_i64 b hb'.1 hb'.2, Wide.xor_i64 a ha'.1 ha'.2]
      revert hadd
      cases mathutil_Int128_Add.f (-1 - b) (-1 - a) 1 0 with
      | none => intro h; simp at h
      | some r =>
        intro h
        simp only [Option.bind_some, Option.some.injEq, Prod.mk.injEq] at h ⊢
        exact ⟨h.1, h.2.1, trivial⟩
    obtain ⟨v, hv⟩ : ∃ v, v = a * 18446744073709551616 + b % 18446744073709551616 := ⟨_, rfl⟩
    have h1 : v / 18446744073709551616 = a := by omega
    have h2 : v % 18446744073709551616 = b % 18446744073709551616 := by omega
    have hn := neg_v v (by omega)
    rw [h1, h2] at hn
    have e1 : hiV (-1 - a) (-1 - b) 0 1 = (-v) / 18446744073709551616 := by simp only [hiV, w64]; omega
    have e2 : IntKind.u64.wrap (wrap64 (-1 - b + 1)) = (-v) % 18446744073709551616 := by rw [IntKind.wrap_u64, w64]; omega
    have eb : IntKind.u64.wrap b = b % 18446744073709551616 := IntKind.wrap_u64 b
    have key : laws_FnInt128Neg.j0 1 a b (hiV (-1 - a) (-1 - b) 0 1) (wrap64 (-1 - b + 1)) true false = some true := by
      simp only [laws_FnInt128Neg.j0, wide_is, Option.bind_some, eb, hn, e1, e2]
      simp
    simp only [laws_FnInt128Neg.f, hm, Option.bind_some]
    by_cases hz : a = -9223372036854775808
    · have hz2 : (b == 0) = false := by rw [beq_eq_false_iff_ne]; omega
      rw [if_pos hz, hz2]; exact key
    · rw [if_neg hz]; exact key

end Go.Proofs.Ytfnimhjabbnldaa.Pure
