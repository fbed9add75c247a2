/- Proved: the root that the package tells of a number of 32 bits is that of its square, rounded down. Conditions: a number of 32 bits without a sign; no others. -/
import Derived.Test.YtjfefhjnpokcbaaOFnRoot32x1
import Derived.Test.YtjfefhjnpokcbaaCom
import Derived.Test.YtjfefhjnpokcbaaNums
namespace Go.Proofs.Ytjfefhjnpokcbaa.Pure
open Go Go.RowKit Go.Proofs.Ytjfefhjnpokcbaa.PFnRoot32 Go.Proofs.YtjfefhjnpokcbaaW.PrintWords Go.Proofs.YtjfefhjnpokcbaaW.PrintLast Go.Com

theorem sum_le {n x : Int} (hx : 1 ≤ x) (hn : x ≤ n) : x + n / x ≤ n + 1 := by
  have h1 : n / x * x ≤ n := Int.ediv_mul_le n (by omega)
  have h2 : 1 ≤ n / x := (Int.le_ediv_iff_mul_le (by omega)).mpr (by omega)
  have h3 := Int.mul_nonneg (a := x - 1) (b := n / x - 1) (by omega) (by omega)
  have e : (x - 1) * (n / x - 1) = n / x * x - x - n / x + 1 := by grind
  omega

theorem step_is {n x : Int} (hx : 1 ≤ x) (hn : x ≤ n) (hb : n < 4294967295) :
    ((x + (Int.tdiv n x)) % 4294967296) / 2 = (x + n / x) / 2 := by
  have h1 := sum_le hx hn
  have h2 : 0 ≤ n / x := Int.ediv_nonneg (by omega) (by omega)
  rw [Int.tdiv_eq_ediv_of_nonneg (a := n) (b := x) (by omega)]
  omega

theorem loop_is {n s : Int} (hs : 1 ≤ s) (h1 : s * s ≤ n) (h2 : n < (s + 1) * (s + 1)) (hb : n < 4294967295) (d : Nat) :
    ∀ (k : Nat) (x px : Int), s ≤ x → x ≤ n → x - s ≤ d → d < k → (px = 0 ∨ x < px) → (x = s → n = s * s + 2 * s → px = s + 1) →
    mathutil_ISqrt.l0 k n x px = some s := by
  induction d with
  | zero =>
    intro k x px a1 a2 a3 a4 a5 a6
    obtain ⟨k, rfl⟩ : ∃ m, k = m + 1 := ⟨k - 1, by omega⟩
    obtain rfl : x = s := by omega
    simp only [mathutil_ISqrt.l0]
    rw [if_neg (by omega), step_is (by omega) a2 hb]
    rcases Nums.newton_at hs h1 h2 with h | ⟨h, h'⟩
    · rw [if_pos h]
    · rw [if_neg (by omega), if_pos (by rw [h, a6 rfl h'])]
  | succ d ih =>
    intro k x px a1 a2 a3 a4 a5 a6
    by_cases hxs : x = s
    · exact (fun (g : mathutil_ISqrt.l0 k n x px = some s) => g) (by
        obtain ⟨k, rfl⟩ : ∃ m, k = m + 1 := ⟨k - 1, by omega⟩
        obtain rfl := hxs
        simp only [mathutil_ISqrt.l0]
        rw [if_neg (by omega), step_is (by omega) a2 hb]
        rcases Nums.newton_at hs h1 h2 with h | ⟨h, h'⟩
        · rw [if_pos h]
        · rw [if_neg (by omega), if_pos (by rw [h, a6 rfl h'])])
    · obtain ⟨k, rfl⟩ : ∃ m, k = m + 1 := ⟨k - 1, by omega⟩
      simp only [mathutil_ISqrt.l0]
      have g1 := Nums.newton_ge (x := x) (by omega) h1
      have g2 := Nums.newton_lt (x := x) (by omega) (by omega) h2
      rw [if_neg (by omega), step_is (by omega) a2 hb, if_neg (by omega), if_neg (by omega)]
      refine ih k _ x g1 (by omega) (by omega) (by omega) (.inr g2) ?_
      intro e1 e2
      by_cases hx2 : x = s + 1
      · exact hx2
      · have := Nums.newton_far (s := s) (x := x) (by omega) (by omega) e2
        omega

theorem sqrt_is {n s : Int} (hn : 0 ≤ n) (hn' : n < 4294967296) (hs : 0 ≤ s) (h1 : s * s ≤ n) (h2 : n < (s + 1) * (s + 1)) (k : Nat) (hk : n < k) :
    impl_ISqrt.f k n = some s := by
  simp only [impl_ISqrt.f, mathutil_ISqrt.f]
  by_cases hz : n = 0
  · rw [if_pos hz]
    have : s = 0 := by
      rcases Int.lt_or_le 0 s with h | h
      · have := Nums.sq_le (a := 1) (b := s) (by omega) (by omega); omega
      · omega
    subst this; rfl
  · rw [if_neg hz]
    by_cases hb : n ≥ 4294836225
    · rw [if_pos hb]
      have : s = 65535 := by
        rcases Int.lt_trichotomy s 65535 with h | h | h
        · have := Nums.sq_le (a := s + 1) (b := 65535) (by omega) (by omega); omega
        · exact h
        · have := Nums.sq_le (a := 65536) (b := s) (by omega) (by omega); omega
      rw [this]; rfl
    · rw [if_neg hb]
      have hs1 : 1 ≤ s := by
        rcases Int.lt_or_le s 1 with h | h
        · have : s = 0 := by omega
          subst this; omega
        · exact h
      have hle : s ≤ n := by
        have := Int.mul_le_mul (a := s) (b := 1) (c := s) (d := s) (by omega) (by omega) (by omega) (by omega)
        omega
      have h9 : n - s ≤ ((n - s).toNat : Int) := by omega
      rw [loop_is hs1 h1 h2 (by omega) (n - s).toNat k n 0 hle (by omega) h9 (by omega) (.inl rfl) (by
        intro e1 e2
        have := Int.mul_le_mul (a := s) (b := 1) (c := s) (d := s) (by omega) (by omega) (by omega) (by omega)
        omega)]
      rfl

theorem FnRoot32 : laws_FnRoot32.Pure := by
  intro n hn
  obtain ⟨n0, n1⟩ := b_u32 hn
  obtain ⟨s, hs, h1, h2⟩ := Nums.sqrt_ex n n0
  refine ⟨n.toNat + 10, ?_⟩
  have hsb : s ≤ 65535 := by
    rcases Int.lt_or_le 65535 s with h | h
    · have := Nums.sq_le (a := 65536) (b := s) (by omega) (by omega); omega
    · exact h
  simp only [laws_FnRoot32.f]
  rw [sqrt_is (n := 9) (s := 3) (by omega) (by omega) (by omega) (by omega) (by omega) _ (by omega), sqrt_is n0 n1 hs h1 h2 _ (by omega)]
  simp only [Option.bind_some, if_true]
  have hq : 0 ≤ s * s := Nums.sq_nonneg s
  have hx1 : (s + 1) * (s + 1) = s * s + 2 * s + 1 := by grind
  have e0 : IntKind.u64.wrap s = s := by rw [IntKind.wrap_u64]; omega
  have en : IntKind.u64.wrap n = n := by rw [IntKind.wrap_u64]; omega
  have e1 : IntKind.u64.wrap (s * s) = s * s := by rw [IntKind.wrap_u64]; omega
  have e2 : IntKind.u64.wrap (s + 1) = s + 1 := by rw [IntKind.wrap_u64]; omega
  have e3 : IntKind.u64.wrap ((s + 1) * (s + 1)) = (s + 1) * (s + 1) := by rw [IntKind.wrap_u64]; omega
  simp only [spec_IsRoot.f, e0, en, e1, e2, e3]
  rw [if_pos (by omega), if_pos h1, if_neg (by omega), decide_eq_true (by omega)]
  rfl

end Go.Proofs.Ytjfefhjnpokcbaa.Pure
