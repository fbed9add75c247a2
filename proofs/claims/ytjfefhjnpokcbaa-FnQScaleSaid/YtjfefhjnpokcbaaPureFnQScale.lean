/- Proved: with the number that the package tells a fraction is at least another one. Conditions: three numbers of 32 bits without a sign; no others. -/
import Derived.Test.YtjfefhjnpokcbaaPFnQScalex1
import Derived.Test.YtjfefhjnpokcbaaCom
namespace Go.Proofs.Ytjfefhjnpokcbaa.Pure
open Go.RowKit Go.Proofs.Ytjfefhjnpokcbaa.PFnQScale Go.Proofs.YtjfefhjnpokcbaaW.PrintWords Go.Proofs.YtjfefhjnpokcbaaW.PrintLast Go.Com

theorem mul_bd {b c : Int} (h0 : 0 ≤ b) (h1 : b < 4294967296) (h2 : 0 ≤ c) (h3 : c < 4294967296) : 0 ≤ b * c ∧ b * c ≤ 18446744065119617025 := by
  have := Int.mul_le_mul (a := b) (b := c) (c := 4294967295) (d := 4294967295) (by omega) (by omega) (by omega) (by omega)
  exact ⟨Int.mul_nonneg h0 h2, by omega⟩

theorem FnQScale : laws_FnQScale.Pure := by
  intro b c d hb hc hd
  obtain ⟨b0, b1⟩ := b_u32 hb
  obtain ⟨c0, c1⟩ := b_u32 hc
  obtain ⟨d0, d1⟩ := b_u32 hd
  have hbc := mul_bd b0 b1 c0 c1
  have h3 : impl_QScale.f 2 1 1 = some 3 := by decide
  simp only [laws_FnQScale.f, h3, Option.bind_some]
  by_cases hz : d = 0
  · rw [if_pos hz]; rfl
  · have hd1 : 1 ≤ d := by omega
    have e1 : b % 18446744073709551616 = b := by omega
    have e2 : c % 18446744073709551616 = c := by omega
    have e3 : d % 18446744073709551616 = d := by omega
    have e4 : (b * c) % 18446744073709551616 = b * c := by omega
    have e5 : (b * c + d) % 18446744073709551616 = b * c + d := by omega
    have e6 : (b * c + d - 1) % 18446744073709551616 = b * c + d - 1 := by omega
    simp only [impl_QScale.f, mathutil_QScaleUint32.f, IntKind.wrap_u64, e1, e2, e3, e4, e5, e6]
    rw [if_neg hz, if_pos (by decide), if_neg hz, if_neg hz]
    simp only [Option.bind_some]
    rw [if_neg hz]
    have t1 : Int.tdiv (b * c) d = b * c / d := Int.tdiv_eq_ediv_of_nonneg (by omega)
    have t2 : Int.tdiv (b * c + d - 1) d = (b * c + d - 1) / d := Int.tdiv_eq_ediv_of_nonneg (by omega)
    rw [t1, t2]
    have q0 : 0 ≤ b * c / d := Int.ediv_nonneg (by omega) (by omega)
    have q1 : b * c / d ≤ b * c := Int.ediv_le_self _ (by omega)
    have r0 : 0 ≤ (b * c + d - 1) / d := Int.ediv_nonneg (by omega) (by omega)
    have r1 : (b * c + d - 1) / d ≤ 1 + b * c / d := by
      have : (b * c + d - 1) / d < b * c / d + 2 := by
        refine (Int.ediv_lt_iff_lt_mul (by omega)).mpr ?_
        have h5 := Int.lt_ediv_add_one_mul_self (b * c) (b := d) (by omega)
        have e : (b * c / d + 2) * d = (b * c / d + 1) * d + d := by grind
        omega
      omega
    have e7 : (b * c / d) % 18446744073709551616 = b * c / d := by omega
    have e8 : ((b * c + d - 1) / d) % 18446744073709551616 = (b * c + d - 1) / d := by omega
    have e9 : (1 + b * c / d) % 18446744073709551616 = 1 + b * c / d := by omega
    rw [e7, e8, e9, decide_eq_true (by omega)]

end Go.Proofs.Ytjfefhjnpokcbaa.Pure
