/- Proved: the package tells of a difference of at most 2 to the power of 63 less 1 that it is too small just where it is less than minus 2 to the power of 63, and it is right if it has room. Conditions: two numbers of 64 bits with a sign; no others. -/
import Derived.Test.YtjfefhjnpokcbaaOFnCheckSubx3
import Derived.Test.YtjfefhjnpokcbaaCom
import Derived.Test.YtjfefhjnpokcbaaWide
namespace Go.Proofs.Ytjfefhjnpokcbaa.Pure
open Go Go.RowKit Go.Proofs.Ytjfefhjnpokcbaa.PFnCheckSub Go.Proofs.YtjfefhjnpokcbaaW.PrintWords Go.Proofs.YtjfefhjnpokcbaaW.PrintLast Go.Com

theorem check_is (a b : Int) (ha : -9223372036854775808 ≤ a ∧ a < 9223372036854775808) (hb : -9223372036854775808 ≤ b ∧ b < 9223372036854775808) (hz : a = 0 → a - b ≤ 9223372036854775807) :
    impl_CheckSub.f a b = some (wrap64 (a - b), decide (a - b > 9223372036854775807 ∨ a - b < -9223372036854775808)) := by
  simp only [impl_CheckSub.f, mathutil_CheckSubInt64.f, w64]
  by_cases h1 : a > 0
  · rw [if_pos h1]
    split
    · rw [decide_eq_true (by omega)]; rfl
    · rw [if_neg (by omega), decide_eq_false (by omega)]; rfl
  · rw [if_neg h1]
    split
    · simp only [Option.bind_some]
      congr 2
      rw [Bool.eq_iff_iff, decide_eq_true_eq, decide_eq_true_eq]; omega
    · rw [decide_eq_false (by omega)]; rfl

theorem check_some (a b : Int) : ∃ x y, impl_CheckSub.f a b = some (x, y) := by
  simp only [impl_CheckSub.f, mathutil_CheckSubInt64.f]
  split
  · split
    · exact ⟨_, _, rfl⟩
    · split <;> exact ⟨_, _, rfl⟩
  · split <;> exact ⟨_, _, rfl⟩

/-- sums of numbers of 128 bits, by their values -/
theorem sum_v (u v : Int) (h : -170141183460469231731687303715884105728 ≤ u + v ∧ u + v < 170141183460469231731687303715884105728) :
    ∃ o, spec_Sum.f (u / 18446744073709551616) (u % 18446744073709551616) (v / 18446744073709551616) (v % 18446744073709551616) = some ((u + v) / 18446744073709551616, (u + v) % 18446744073709551616, o) := by
  have t3 {x x' y y' : Int} {z : Bool} (h1 : x = x') (h2 : y = y') : ∃ o, some (x, y, z) = some (x', y', o) := ⟨z, by rw [h1, h2]⟩
  simp only [spec_Sum.f, IntKind.wrap_u64, w64]
  split
  · split
    · exact t3 (by omega) (by omega)
    · exact t3 (by omega) (by omega)
  · split
    · exact t3 (by omega) (by omega)
    · exact t3 (by omega) (by omega)

theorem neg_v (v : Int) (h : -170141183460469231731687303715884105728 < v ∧ v < 170141183460469231731687303715884105728) :
    spec_Negative.f (v / 18446744073709551616) (v % 18446744073709551616) = some ((-v) / 18446744073709551616, (-v) % 18446744073709551616) := by
  simp only [spec_Negative.f]
  rw [Wide.xor_i64 _ (by omega) (by omega), Wide.xor_u64 _ (by omega) (by omega)]
  obtain ⟨o, hs⟩ := sum_v (-1 - v) 1 (by omega)
  rw [show (-1 - v) / 18446744073709551616 = -1 - v / 18446744073709551616 by omega, show (-1 - v) % 18446744073709551616 = 18446744073709551615 - v % 18446744073709551616 by omega] at hs
  rw [show (1 : Int) / 18446744073709551616 = 0 by omega, show (1 : Int) % 18446744073709551616 = 1 by omega] at hs
  rw [hs]
  simp only [Option.bind_some]
  rw [show -1 - v + 1 = -v by omega]

theorem cmp_is (h l h' l' : Int) : spec_Compare.f h l h' l' = some (if h < h' ∨ (h = h' ∧ l < l') then -1 else if h = h' ∧ l = l' then 0 else 1) := by
  simp only [spec_Compare.f]
  rcases Int.lt_trichotomy h h' with g | g | g
  · have h1 : ¬ h = h' := by omega
    simp [g, h1]
  · subst g
    rcases Int.lt_trichotomy l l' with g | g | g
    · have h1 : ¬ l = l' := by omega
      simp [g, h1]
    · subst g; simp
    · have h1 : ¬ l = l' := by omega
      have h2 : ¬ l < l' := by omega
      simp [h1, h2]
  · have h1 : ¬ h = h' := by omega
    have h2 : ¬ h < h' := by omega
    simp [h1, h2]

theorem fits_is (x : Int) (hx : -18446744073709551616 ≤ x ∧ x < 18446744073709551616) :
    spec_Fits.f 64 (x / 18446744073709551616) (x % 18446744073709551616) = some (decide (-9223372036854775808 ≤ x ∧ x < 9223372036854775808)) := by
  have e : wrap64 (64 - 64) = 0 := by rw [w64]; omega
  have e0 : IntKind.i64.wrap (wrap64 (x % 18446744073709551616) * 2 ^ 0) / 2 ^ 0 = wrap64 (x % 18446744073709551616) := by rw [IntKind.wrap_i64, w64]; omega
  simp only [spec_Fits.f, spec_WideOf.f, spec_Signed.f, e, shr, shl, Option.bind_some]
  rw [if_pos (show (0 : Int) ≤ 0 by omega)]
  have hm : min (0 : Int).toNat (IntKind.bits .i64) = 0 := by decide
  rw [hm, e0]
  simp only [Option.bind_some, beq_self_eq_true]
  have e2 : (IntKind.u64.wrap (wrap64 (x % 18446744073709551616))) = x % 18446744073709551616 := by rw [IntKind.wrap_u64, w64]; omega
  rw [e2]
  by_cases hf : -9223372036854775808 ≤ x ∧ x < 9223372036854775808
  · have e3 : x / 18446744073709551616 = wrap64 (x % 18446744073709551616) / 9223372036854775808 := by rw [w64]; omega
    rw [decide_eq_true hf, ← e3]; simp
  · have e3 : ¬ x / 18446744073709551616 = wrap64 (x % 18446744073709551616) / 9223372036854775808 := by rw [w64]; omega
    rw [decide_eq_false hf]; simp [e3]

theorem FnCheckSub : laws_FnCheckSub.Pure := by
  intro a b ha hb
  have ha' := b_i64 ha
  have hb' := b_i64 hb
  obtain ⟨o, hs⟩ := sum_v a (-b) (by omega)
  have hn := neg_v b (by omega)
  have h3 : wrap64 (3 - 2) = 1 := by rw [w64]; omega
  have ea : a / 9223372036854775808 = a / 18446744073709551616 := by omega
  have eb : b / 9223372036854775808 = b / 18446744073709551616 := by omega
  have e1 : a + -b = a - b := by omega
  rw [e1] at hs
  obtain ⟨r1, r2, hr⟩ := check_some a b
  simp only [laws_FnCheckSub.f, hr, check_is 3 2 (by omega) (by omega) (by omega), spec_WideOf.f, Option.bind_some, IntKind.wrap_u64, ea, eb, hn, hs, cmp_is, fits_is (a - b) (by omega), h3, if_true]
  have c1 : ((if (a - b) / 18446744073709551616 < 9223372036854775807 / 9223372036854775808 ∨ (a - b) / 18446744073709551616 = 9223372036854775807 / 9223372036854775808 ∧ (a - b) % 18446744073709551616 < 9223372036854775807 % 18446744073709551616 then (-1 : Int) else if (a - b) / 18446744073709551616 = 9223372036854775807 / 9223372036854775808 ∧ (a - b) % 18446744073709551616 = 9223372036854775807 % 18446744073709551616 then 0 else 1) > 0) = (a - b > 9223372036854775807) := by
    apply propext
    split
    · omega
    · split <;> omega
  have c2 : decide ((if (a - b) / 18446744073709551616 < -9223372036854775808 / 9223372036854775808 ∨ (a - b) / 18446744073709551616 = -9223372036854775808 / 9223372036854775808 ∧ (a - b) % 18446744073709551616 < -9223372036854775808 % 18446744073709551616 then (-1 : Int) else if (a - b) / 18446744073709551616 = -9223372036854775808 / 9223372036854775808 ∧ (a - b) % 18446744073709551616 = -9223372036854775808 % 18446744073709551616 then 0 else 1) < 0) = decide (a - b < -9223372036854775808) := by
    rw [decide_eq_decide]
    split
    · omega
    · split <;> omega
  simp only [c1, c2]
  by_cases h1 : a - b > 9223372036854775807
  · rw [if_pos h1]; rfl
  · rw [if_neg h1]
    rw [check_is a b ha' hb' (by omega)] at hr
    simp only [Option.some.injEq, Prod.mk.injEq] at hr
    obtain ⟨rfl, rfl⟩ := hr
    by_cases h2 : a - b < -9223372036854775808
    · have g1 : ¬ (-9223372036854775808 ≤ a - b ∧ a - b < 9223372036854775808) := by omega
      simp [h2, g1]
    · have g1 : (-9223372036854775808 ≤ a - b ∧ a - b < 9223372036854775808) := by omega
      have g2 : ¬ (a - b > 9223372036854775807 ∨ a - b < -9223372036854775808) := by omega
      have e3 : wrap64 (a - b) / 9223372036854775808 = (a - b) / 18446744073709551616 := by rw [w64]; omega
      have e4 : wrap64 (a - b) % 18446744073709551616 = (a - b) % 18446744073709551616 := by rw [w64]; omega
      simp only [decide_eq_false h2, decide_eq_false g2, decide_eq_true g1, e3, e4]
      simp

end Go.Proofs.Ytjfefhjnpokcbaa.Pure
