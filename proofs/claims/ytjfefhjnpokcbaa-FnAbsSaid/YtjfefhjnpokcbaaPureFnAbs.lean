/- Proved: the absolute value that the package tells of a number is the number or its negative and at most 2 to the power of 63. Conditions: the number is an int; no others. -/
import Derived.Test.YtjfefhjnpokcbaaPFnAbsx1
import Derived.Test.YtjfefhjnpokcbaaCom
namespace Go.Proofs.Ytjfefhjnpokcbaa.Pure
open Go.RowKit Go.Proofs.Ytjfefhjnpokcbaa.PFnAbs Go.Proofs.YtjfefhjnpokcbaaW.PrintWords Go.Proofs.YtjfefhjnpokcbaaW.PrintLast Go.Com

theorem FnAbs : laws_FnAbs.Pure := by
  intro a ha
  have := b_i64 ha
  have h3 : mathutil_abs.f (-3) = some 3 := by simp [mathutil_abs.f, w64, IntKind.wrap_u64]
  simp only [laws_FnAbs.f, impl_Abs.f, mathutil_ZZAbs.f, h3, Option.bind_some, if_true]
  simp only [mathutil_abs.f, IntKind.wrap_u64, w64]
  by_cases h : a ≥ 0
  · rw [if_pos h]; simp only [Option.bind_some, if_true]
    rw [decide_eq_true (by omega)]
  · rw [if_neg h]; simp only [Option.bind_some]
    split
    · rw [decide_eq_true (by omega)]
    · split
      · rw [decide_eq_true (by omega)]
      · exfalso; omega

end Go.Proofs.Ytjfefhjnpokcbaa.Pure
