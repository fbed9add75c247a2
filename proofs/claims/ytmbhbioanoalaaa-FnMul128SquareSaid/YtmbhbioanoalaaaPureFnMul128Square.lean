/- Proved: the upper half of the product that the package tells of a number of 32 bits with itself is 0, and the root of the lower one is the number. Conditions: a number of 32 bits without a sign; no others. -/
import Derived.Test.YtmbhbioanoalaaaPFnMul128Squarex1
import Derived.Test.YtmbhbioanoalaaaCom
import Derived.Test.YtmbhbioanoalaaaNums
namespace Go.Proofs.Ytmbhbioanoalaaa.Pure
open Go Go.RowKit Go.Proofs.Ytmbhbioanoalaaa.PFnMul128Square Go.Proofs.YtmbhbioanoalaaaW.PrintWords Go.Proofs.YtmbhbioanoalaaaW.PrintLast Go.Com

theorem mul_bd {b c : Int} (h0 : 0 ≤ b) (h1 : b < 4294967296) (h2 : 0 ≤ c) (h3 : c < 4294967296) : 0 ≤ b * c ∧ b * c ≤ 18446744065119617025 := by
  have := Int.mul_le_mul (a := b) (b := c) (c := 4294967295) (d := 4294967295) (by omega) (by omega) (by omega) (by omega)
  exact ⟨Int.mul_nonneg h0 h2, by omega⟩

/-- the halves of a sum of two numbers of 64 bits -/
theorem add_is (a b : Int) (ha0 : 0 ≤ a) (ha1 : a < 18446744073709551616) (hb0 : 0 ≤ b) (hb1 : b < 18446744073709551616) :
    mathutil_AddUint128_64.f a b = some ((a + b) / 18446744073709551616, (a + b) % 18446744073709551616) := by
  simp only [mathutil_AddUint128_64.f, IntKind.wrap_u64]
  split
  · congr 2; omega
  · congr 2; omega

/-- the product of two numbers of 64 bits by its halves -/
theorem mul_is (a b : Int) (ha0 : 0 ≤ a) (ha1 : a < 18446744073709551616) (hb0 : 0 ≤ b) (hb1 : b < 18446744073709551616) :
    mathutil_MulUint128_64.f a b = some (a * b / 18446744073709551616, a * b % 18446744073709551616) := by
  simp only [mathutil_MulUint128_64.f, and_mask32 ha0 ha1, and_mask32 hb0 hb1, IntKind.wrap_u64]
  obtain ⟨ah, eah⟩ : ∃ ah, ah = a / 4294967296 := ⟨_, rfl⟩
  obtain ⟨al, eal⟩ : ∃ al, al = a % 4294967296 := ⟨_, rfl⟩
  obtain ⟨bh, ebh⟩ : ∃ bh, bh = b / 4294967296 := ⟨_, rfl⟩
  obtain ⟨bl, ebl⟩ : ∃ bl, bl = b % 4294967296 := ⟨_, rfl⟩
  have ea : a = ah * 4294967296 + al := by omega
  have eb : b = bh * 4294967296 + bl := by omega
  rw [← eah, ← eal, ← ebh, ← ebl]
  have p := mul_bd (b := al) (c := bl) (by omega) (by omega) (by omega) (by omega)
  have q := mul_bd (b := al) (c := bh) (by omega) (by omega) (by omega) (by omega)
  have r := mul_bd (b := ah) (c := bl) (by omega) (by omega) (by omega) (by omega)
  have s := mul_bd (b := ah) (c := bh) (by omega) (by omega) (by omega) (by omega)
  have e : a * b = ah * bh * 18446744073709551616 + (al * bh + ah * bl) * 4294967296 + al * bl := by rw [ea, eb]; grind
  have sbd : a * b < 340282366920938463463374607431768211456 := by
    have := Int.mul_le_mul (a := a) (b := b) (c := 18446744073709551615) (d := 18446744073709551615) (by omega) (by omega) (by omega) (by omega); omega
  rw [e] at sbd ⊢
  clear e ea eb eah eal ebh ebl
  generalize al * bl = P at *
  generalize al * bh = Q at *
  generalize ah * bl = R at *
  generalize ah * bh = S at *
  rw [show P % 18446744073709551616 = P by omega, show Q % 18446744073709551616 = Q by omega, show R % 18446744073709551616 = R by omega, show S % 18446744073709551616 = S by omega]
  rw [add_is _ _ (by omega) (by omega) (by omega) (by omega)]
  simp only [Option.bind_some]
  rw [add_is _ _ (by omega) (by omega) (by omega) (by omega)]
  simp only [Option.bind_some]
  rw [add_is _ _ (by omega) (by omega) (by omega) (by omega)]
  simp only [Option.bind_some]
  congr 2
  · omega
  · omega
theorem sum_le {n x : Int} (hx : 1 ≤ x) (hn : x ≤ n) : x + n / x ≤ n + 1 := by
  have h1 : n / x * x ≤ n := Int.ediv_mul_le n (by omega)
  have h2 : 1 ≤ n / x := (Int.le_ediv_iff_mul_le (by omega)).mpr (by omega)
  have h3 := Int.mul_nonneg (a := x - 1) (b := n / x - 1) (by omega) (by omega)
  have e : (x - 1) * (n / x - 1) = n / x * x - x - n / x + 1 := by grind
  omega

theorem step_is {n x : Int} (hx : 1 ≤ x) (hn : x ≤ n) (hb : n < 18446744073709551615) :
    IntKind.u64.wrap (Int.tdiv (IntKind.u64.wrap (x + IntKind.u64.wrap (Int.tdiv n x))) 2) = (x + n / x) / 2 := by
  have h1 := sum_le hx hn
  have h2 : 0 ≤ n / x := Int.ediv_nonneg (by omega) (by omega)
  rw [Int.tdiv_eq_ediv_of_nonneg (a := n) (b := x) (by omega), IntKind.wrap_u64, IntKind.wrap_u64, IntKind.wrap_u64]
  have e1 : n / x % 18446744073709551616 = n / x := by omega
  rw [e1]
  have e2 : (x + n / x) % 18446744073709551616 = x + n / x := by omega
  rw [e2, Int.tdiv_eq_ediv_of_nonneg (by omega)]
  omega

theorem loop_is {n s : Int} (hs : 1 ≤ s) (h1 : s * s ≤ n) (h2 : n < (s + 1) * (s + 1)) (hb : n < 18446744073709551615) (d : Nat) :
    ∀ (k : Nat) (x px : Int), s ≤ x → x ≤ n → x - s ≤ d → d < k → (px = 0 ∨ x < px) → (x = s → n = s * s + 2 * s → px = s + 1) →
    mathutil_SqrtUint64.l0 k n x px = some s := by
  induction d with
  | zero =>
    intro k x px a1 a2 a3 a4 a5 a6
    obtain ⟨k, rfl⟩ : ∃ m, k = m + 1 := ⟨k - 1, by omega⟩
    obtain rfl : x = s := by omega
    simp only [mathutil_SqrtUint64.l0]
    rw [if_neg (by omega), step_is (by omega) a2 hb]
    rcases Nums.newton_at hs h1 h2 with h | ⟨h, h'⟩
    · rw [if_pos h]
    · rw [if_neg (by omega), if_pos (by rw [h, a6 rfl h'])]
  | succ d ih =>
    intro k x px a1 a2 a3 a4 a5 a6
    by_cases hxs : x = s
    · exact (fun (g : mathutil_SqrtUint64.l0 k n x px = some s) => g) (by
        obtain ⟨k, rfl⟩ : ∃ m, k = m + 1 := ⟨k - 1, by omega⟩
        obtain rfl := hxs
        simp only [mathutil_SqrtUint64.l0]
        rw [if_neg (by omega), step_is (by omega) a2 hb]
        rcases Nums.newton_at hs h1 h2 with h | ⟨h, h'⟩
        · rw [if_pos h]
        · rw [if_neg (by omega), if_pos (by rw [h, a6 rfl h'])])
    · obtain ⟨k, rfl⟩ : ∃ m, k = m + 1 := ⟨k - 1, by omega⟩
      simp only [mathutil_SqrtUint64.l0]
      have g1 := Nums.newton_ge (x := x) (by omega) h1
      have g2 := Nums.newton_lt (x := x) (by omega) (by omega) h2
      rw [if_neg (by omega), step_is (by omega) a2 hb, if_neg (by omega), if_neg (by omega)]
      refine ih k _ x g1 (by omega) (by omega) (by omega) (.inr g2) ?_
      intro e1 e2
      by_cases hx2 : x = s + 1
      · exact hx2
      · have := Nums.newton_far (s := s) (x := x) (by omega) (by omega) e2
        omega

theorem sqrt_is {n s : Int} (hn : 0 ≤ n) (hn' : n < 18446744073709551616) (hs : 0 ≤ s) (h1 : s * s ≤ n) (h2 : n < (s + 1) * (s + 1)) (k : Nat) (hk : n < k) :
    impl_SqrtUint64.f k n = some s := by
  simp only [impl_SqrtUint64.f, mathutil_SqrtUint64.f]
  by_cases hz : n = 0
  · rw [if_pos hz]
    have : s = 0 := by
      rcases Int.lt_or_le 0 s with h | h
      · have := Nums.sq_le (a := 1) (b := s) (by omega) (by omega); omega
      · omega
    subst this; rfl
  · rw [if_neg hz]
    by_cases hb : n ≥ 18446744065119617025
    · rw [if_pos hb]
      have : s = 4294967295 := by
        rcases Int.lt_trichotomy s 4294967295 with h | h | h
        · have := Nums.sq_le (a := s + 1) (b := 4294967295) (by omega) (by omega); omega
        · exact h
        · have := Nums.sq_le (a := 4294967296) (b := s) (by omega) (by omega); omega
      rw [this]; rfl
    · rw [if_neg hb]
      have hs1 : 1 ≤ s := by
        rcases Int.lt_or_le s 1 with h | h
        · have : s = 0 := by omega
          subst this; omega
        · exact h
      have hle : s ≤ n := by
        have := Int.mul_le_mul (a := s) (b := 1) (c := s) (d := s) (by omega) (by omega) (by omega) (by omega)
        omega
      have h9 : n - s ≤ ((n - s).toNat : Int) := by omega
      rw [loop_is hs1 h1 h2 (by omega) (n - s).toNat k n 0 hle (by omega) h9 (by omega) (.inl rfl) (by
        intro e1 e2
        have := Int.mul_le_mul (a := s) (b := 1) (c := s) (d := s) (by omega) (by omega) (by omega) (by omega)
        omega)]
      rfl

theorem FnMul128Square : laws_FnMul128Square.Pure := by
  intro x hx
  obtain ⟨x0, x1⟩ := b_u32 hx
  refine ⟨(x * x).toNat + 10, ?_⟩
  have hq := mul_bd x0 x1 x0 x1
  have hx1 : (x + 1) * (x + 1) = x * x + 2 * x + 1 := by grind
  have e1 : IntKind.u64.wrap x = x := by rw [IntKind.wrap_u64]; omega
  simp only [laws_FnMul128Square.f, e1, impl_MulUint128.f]
  rw [mul_is x x (by omega) (by omega) (by omega) (by omega)]
  simp only [Option.bind_some]
  rw [sqrt_is (n := 9) (s := 3) (by omega) (by omega) (by omega) (by omega) (by omega) _ (by omega)]
  rw [show x * x / 18446744073709551616 = 0 by omega, show x * x % 18446744073709551616 = x * x by omega]
  rw [sqrt_is (n := x * x) (s := x) (by omega) (by omega) x0 (by omega) (by omega) _ (by omega)]
  simp

end Go.Proofs.Ytmbhbioanoalaaa.Pure
