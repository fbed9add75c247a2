/- Proved: the root that the package tells of a square of a number of 32 bits is the number, and one less just below it. Conditions: a number of 32 bits without a sign; no others. -/
import Derived.Test.YtjfefhjnpokcbaaPFnRoot64Squaresx1
import Derived.Test.YtjfefhjnpokcbaaCom
import Derived.Test.YtjfefhjnpokcbaaNums
namespace Go.Proofs.Ytjfefhjnpokcbaa.Pure
open Go.RowKit Go.Proofs.Ytjfefhjnpokcbaa.PFnRoot64Squares Go.Proofs.YtjfefhjnpokcbaaW.PrintWords Go.Proofs.YtjfefhjnpokcbaaW.PrintLast Go.Com

theorem sum_le {n x : Int} (hx : 1 ≤ x) (hn : x ≤ n) : x + n / x ≤ n + 1 := by
  have h1 : n / x * x ≤ n := Int.ediv_mul_le n (by omega)
  have h2 : 1 ≤ n / x := (Int.le_ediv_iff_mul_le (by omega)).mpr (by omega)
  have h3 := Int.mul_nonneg (a := x - 1) (b := n / x - 1) (by omega) (by omega)
  have e : (x - 1) * (n / x - 1) = n / x * x - x - n / x + 1 := by grind
  omega

theorem step_is {n x : Int} (hx : 1 ≤ x) (hn : x ≤ n) (hb : n < 18446744073709551615) :
    IntKind.u64.wrap (Int.tdiv (IntKind.u64.wrap (x + IntKind.u64.wrap (Int.tdiv n x))) 2) = (x + n / x) / 2 := by
  have h1 := sum_le hx hn
  have h2 : 0 ≤ n / x := Int.ediv_nonneg (by omega) (by omega)
  rw [Int.tdiv_eq_ediv_of_nonneg (a := n) (b := x) (by omega), IntKind.wrap_u64, IntKind.wrap_u64, IntKind.wrap_u64]
  have e1 : n / x % 18446744073709551616 = n / x := by omega
  rw [e1]
  have e2 : (x + n / x) % 18446744073709551616 = x + n / x := by omega
  rw [e2, Int.tdiv_eq_ediv_of_nonneg (by omega)]
  omega

theorem loop_is {n s : Int} (hs : 1 ≤ s) (h1 : s * s ≤ n) (h2 : n < (s + 1) * (s + 1)) (hb : n < 18446744073709551615) (d : Nat) :
    ∀ (k : Nat) (x px : Int), s ≤ x → x ≤ n → x - s ≤ d → d < k → (px = 0 ∨ x < px) → (x = s → n = s * s + 2 * s → px = s + 1) →
    mathutil_SqrtUint64.l0 k n x px = some s := by
  induction d with
  | zero =>
    intro k x px a1 a2 a3 a4 a5 a6
    obtain ⟨k, rfl⟩ : ∃ m, k = m + 1 := ⟨k - 1, by omega⟩
    obtain rfl : x = s := by omega
    simp only [mathutil_SqrtUint64.l0]
    rw [if_neg (by omega), step_is (by omega) a2 hb]
    rcases Nums.newton_at hs h1 h2 with h | ⟨h, h'⟩
    · rw [if_pos h]
    · rw [if_neg (by omega), if_pos (by rw [h, a6 rfl h'])]
  | succ d ih =>
    intro k x px a1 a2 a3 a4 a5 a6
    by_cases hxs : x = s
    · exact (fun (g : mathutil_SqrtUint64.l0 k n x px = some s) => g) (by
        obtain ⟨k, rfl⟩ : ∃ m, k = m + 1 := ⟨k - 1, by omega⟩
        obtain rfl := hxs
        simp only [mathutil_SqrtUint64.l0]
        rw [if_neg (by omega), step_is (by omega) a2 hb]
        rcases Nums.newton_at hs h1 h2 with h | ⟨h, h'⟩
        · rw [if_pos h]
        · rw [if_neg (by omega), if_pos (by rw [h, a6 rfl h'])])
    · obtain ⟨k, rfl⟩ : ∃ m, k = m + 1 := ⟨k - 1, by omega⟩
      simp only [mathutil_SqrtUint64.l0]
      have g1 := Nums.newton_ge (x := x) (by omega) h1
      have g2 := Nums.newton_lt (x := x) (by omega) (by omega) h2
      rw [if_neg (by omega), step_is (by omega) a2 hb, if_neg (by omega), if_neg (by omega)]
      refine ih k _ x g1 (by omega) (by omega) (by omega) (.inr g2) ?_
      intro e1 e2
      by_cases hx2 : x = s + 1
      · exact hx2
      · have := Nums.newton_far (s := s) (x := x) (by omega) (by omega) e2
        omega

theorem sqrt_is {n s : Int} (hn : 0 ≤ n) (hn' : n < 18446744073709551616) (hs : 0 ≤ s) (h1 : s * s ≤ n) (h2 : n < (s + 1) * (s + 1)) (k : Nat) (hk : n < k) :
    impl_SqrtUint64.f k n = some s := by
  simp only [impl_SqrtUint64.f, mathutil_SqrtUint64.f]
  by_cases hz : n = 0
  · rw [if_pos hz]
    have : s = 0 := by
      rcases Int.lt_or_le 0 s with h | h
      · have := Nums.sq_le (a := 1) (b := s) (by omega) (by omega); omega
      · omega
    subst this; rfl
  · rw [if_neg hz]
    by_cases hb : n ≥ 18446744065119617025
    · rw [if_pos hb]
      have : s = 4294967295 := by
        rcases Int.lt_trichotomy s 4294967295 with h | h | h
        · have := Nums.sq_le (a := s + 1) (b := 4294967295) (by omega) (by omega); omega
        · exact h
        · have := Nums.sq_le (a := 4294967296) (b := s) (by omega) (by omega); omega
      rw [this]; rfl
    · rw [if_neg hb]
      have hs1 : 1 ≤ s := by
        rcases Int.lt_or_le s 1 with h | h
        · have : s = 0 := by omega
          subst this; omega
        · exact h
      have hle : s ≤ n := by
        have := Int.mul_le_mul (a := s) (b := 1) (c := s) (d := s) (by omega) (by omega) (by omega) (by omega)
        omega
      have h9 : n - s ≤ ((n - s).toNat : Int) := by omega
      rw [loop_is hs1 h1 h2 (by omega) (n - s).toNat k n 0 hle (by omega) h9 (by omega) (.inl rfl) (by
        intro e1 e2
        have := Int.mul_le_mul (a := s) (b := 1) (c := s) (d := s) (by omega) (by omega) (by omega) (by omega)
        omega)]
      rfl

theorem FnRoot64Squares : laws_FnRoot64Squares.Pure := by
  intro x hx
  obtain ⟨x0, x1⟩ := b_u32 hx
  refine ⟨(x * x).toNat + 10, ?_⟩
  have hq : 0 ≤ x * x := Nums.sq_nonneg x
  have hq2 := Nums.sq_le (a := x) (b := 4294967295) (by omega) (by omega)
  have hx1 : (x + 1) * (x + 1) = x * x + 2 * x + 1 := by grind
  have e1 : IntKind.u64.wrap x = x := by rw [IntKind.wrap_u64]; omega
  have e2 : IntKind.u64.wrap (x * x) = x * x := by rw [IntKind.wrap_u64]; omega
  simp only [laws_FnRoot64Squares.f, e1, e2]
  rw [sqrt_is (n := 9) (s := 3) (by omega) (by omega) (by omega) (by omega) (by omega) _ (by omega), sqrt_is (n := x * x) (s := x) hq (by omega) x0 (by omega) (by omega) _ (by omega)]
  simp only [Option.bind_some, if_true]
  by_cases hz : x = 0
  · rw [if_pos hz]
  · rw [if_neg hz]
    have e3 : IntKind.u64.wrap (x - 1) = x - 1 := by rw [IntKind.wrap_u64]; omega
    have hxx := Nums.sq_le (a := 1) (b := x) (by omega) (by omega)
    have e4 : IntKind.u64.wrap (x * x - 1) = x * x - 1 := by rw [IntKind.wrap_u64]; omega
    have e5 : (x - 1) * (x - 1) = x * x - 2 * x + 1 := by grind
    have e6 : (x - 1 + 1) * (x - 1 + 1) = x * x := by grind
    rw [e3, e4, sqrt_is (n := x * x - 1) (s := x - 1) (by omega) (by omega) (by omega) (by omega) (by omega) _ (by omega)]
    simp

end Go.Proofs.Ytjfefhjnpokcbaa.Pure
