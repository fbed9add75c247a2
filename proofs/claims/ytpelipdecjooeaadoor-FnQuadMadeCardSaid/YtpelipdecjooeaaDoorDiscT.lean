/- The numbers of the discriminant's law: the package's root, the reference's root, coefficients. -/
import Derived.Test.YtpelipdecjooeaaDoorOFnDiscriminantx1
import Derived.Test.YtpelipdecjooeaaDoorCom
import Derived.Test.YtpelipdecjooeaaDoorNums
import Derived.Test.YtpelipdecjooeaaDoorBl
namespace Go.Proofs.YtpelipdecjooeaaDoor.DiscT
open Go Go.RowKit Go.Proofs.YtpelipdecjooeaaDoor.PFnDiscriminant Go.Proofs.YtpelipdecjooeaaDoorW.PrintWords Go.Com Go.Proofs.YtpelipdecjooeaaDoor.Tab Go.Proofs.YtpelipdecjooeaaDoor.BlN
set_option linter.unusedVariables false

theorem w64in (n : Int) (h : -9223372036854775808 ≤ n ∧ n ≤ 9223372036854775807) : wrap64 n = n := by unfold wrap64; omega
theorem sum_le {n x : Int} (hx : 1 ≤ x) (hn : x ≤ n) : x + n / x ≤ n + 1 := by
  have h1 : n / x * x ≤ n := Int.ediv_mul_le n (by omega)
  have h2 : 1 ≤ n / x := (Int.le_ediv_iff_mul_le (by omega)).mpr (by omega)
  have h3 := Int.mul_nonneg (a := x - 1) (b := n / x - 1) (by omega) (by omega)
  have e : (x - 1) * (n / x - 1) = n / x * x - x - n / x + 1 := by grind
  omega

theorem step_is {n x : Int} (hx : 1 ≤ x) (hn : x ≤ n) (hb : n < 18446744073709551615) :
    IntKind.u64.wrap (Int.tdiv (IntKind.u64.wrap (x + IntKind.u64.wrap (Int.tdiv n x))) 2) = (x + n / x) / 2 := by
  have h1 := sum_le hx hn
  have h2 : 0 ≤ n / x := Int.ediv_nonneg (by omega) (by omega)
  rw [Int.tdiv_eq_ediv_of_nonneg (a := n) (b := x) (by omega), IntKind.wrap_u64, IntKind.wrap_u64, IntKind.wrap_u64]
  have e1 : n / x % 18446744073709551616 = n / x := by omega
  rw [e1]
  have e2 : (x + n / x) % 18446744073709551616 = x + n / x := by omega
  rw [e2, Int.tdiv_eq_ediv_of_nonneg (by omega)]
  omega

theorem loop_is {n s : Int} (hs : 1 ≤ s) (h1 : s * s ≤ n) (h2 : n < (s + 1) * (s + 1)) (hb : n < 18446744073709551615) (d : Nat) :
    ∀ (k : Nat) (x px : Int), s ≤ x → x ≤ n → x - s ≤ d → d < k → (px = 0 ∨ x < px) → (x = s → n = s * s + 2 * s → px = s + 1) →
    mathutil_SqrtUint64.l0 k n x px = some s := by
  induction d with
  | zero =>
    intro k x px a1 a2 a3 a4 a5 a6
    obtain ⟨k, rfl⟩ : ∃ m, k = m + 1 := ⟨k - 1, by omega⟩
    obtain rfl : x = s := by omega
    simp only [mathutil_SqrtUint64.l0]
    rw [if_neg (by omega), step_is (by omega) a2 hb]
    rcases Nums.newton_at hs h1 h2 with h | ⟨h, h'⟩
    · rw [if_pos h]
    · rw [if_neg (by omega), if_pos (by rw [h, a6 rfl h'])]
  | succ d ih =>
    intro k x px a1 a2 a3 a4 a5 a6
    by_cases hxs : x = s
    · exact (fun (g : mathutil_SqrtUint64.l0 k n x px = some s) => g) (by
        obtain ⟨k, rfl⟩ : ∃ m, k = m + 1 := ⟨k - 1, by omega⟩
        obtain rfl := hxs
        simp only [mathutil_SqrtUint64.l0]
        rw [if_neg (by omega), step_is (by omega) a2 hb]
        rcases Nums.newton_at hs h1 h2 with h | ⟨h, h'⟩
        · rw [if_pos h]
        · rw [if_neg (by omega), if_pos (by rw [h, a6 rfl h'])])
    · obtain ⟨k, rfl⟩ : ∃ m, k = m + 1 := ⟨k - 1, by omega⟩
      simp only [mathutil_SqrtUint64.l0]
      have g1 := Nums.newton_ge (x := x) (by omega) h1
      have g2 := Nums.newton_lt (x := x) (by omega) (by omega) h2
      rw [if_neg (by omega), step_is (by omega) a2 hb, if_neg (by omega), if_neg (by omega)]
      refine ih k _ x g1 (by omega) (by omega) (by omega) (.inr g2) ?_
      intro e1 e2
      by_cases hx2 : x = s + 1
      · exact hx2
      · have := Nums.newton_far (s := s) (x := x) (by omega) (by omega) e2
        omega

theorem sqrt_is {n s : Int} (hn : 0 ≤ n) (hn' : n < 18446744073709551616) (hs : 0 ≤ s) (h1 : s * s ≤ n) (h2 : n < (s + 1) * (s + 1)) (k : Nat) (hk : n < k) :
    mathutil_SqrtUint64.f k n = some s := by
  simp only [mathutil_SqrtUint64.f]
  by_cases hz : n = 0
  · rw [if_pos hz]
    have : s = 0 := by
      rcases Int.lt_or_le 0 s with h | h
      · have := Nums.sq_le (a := 1) (b := s) (by omega) (by omega); omega
      · omega
    subst this; first | done | rfl
  · rw [if_neg hz]
    by_cases hb : n ≥ 18446744065119617025
    · rw [if_pos hb]
      have : s = 4294967295 := by
        rcases Int.lt_trichotomy s 4294967295 with h | h | h
        · have := Nums.sq_le (a := s + 1) (b := 4294967295) (by omega) (by omega); omega
        · exact h
        · have := Nums.sq_le (a := 4294967296) (b := s) (by omega) (by omega); omega
      rw [this]
    · rw [if_neg hb]
      have hs1 : 1 ≤ s := by
        rcases Int.lt_or_le s 1 with h | h
        · have : s = 0 := by omega
          subst this; omega
        · exact h
      have hle : s ≤ n := by
        have := Int.mul_le_mul (a := s) (b := 1) (c := s) (d := s) (by omega) (by omega) (by omega) (by omega)
        omega
      have h9 : n - s ≤ ((n - s).toNat : Int) := by omega
      rw [loop_is hs1 h1 h2 (by omega) (n - s).toNat k n 0 hle (by omega) h9 (by omega) (.inl rfl) (by
        intro e1 e2
        have := Int.mul_le_mul (a := s) (b := 1) (c := s) (d := s) (by omega) (by omega) (by omega) (by omega)
        omega)]

/-- the search's end: the least number whose square is not below n -/
theorem root_l {n t : Int} (hn : 0 ≤ n) (ht : ∀ m, 0 ≤ m → (m * m < n ↔ m < t)) : ∀ (k : Nat) (lo hi : Int), 0 ≤ lo → lo ≤ t → t ≤ hi → hi ≤ 4194304 → hi - lo < 2 ^ k →
    spec_Root.l0 (k + 1) n lo hi = some (if t * t = n then t else -1) := by
  intro k
  induction k with
  | zero =>
    intro lo hi h0 h1 h2 h3 h4
    rw [Int.pow_zero] at h4
    obtain rfl : lo = t := by omega
    have hb := Nums.sq_le h0 (show lo ≤ 4194304 by omega)
    have hq := Nums.sq_nonneg lo
    rw [spec_Root.l0, if_neg (by omega), w64in (lo * lo) (by omega)]
    split <;> rfl
  | succ k ih =>
    intro lo hi h0 h1 h2 h3 h4
    rw [spec_Root.l0]
    by_cases hlt : lo < hi
    · rw [if_pos hlt, w64in (lo + hi) (by omega), Int.tdiv_eq_ediv_of_nonneg (by omega), w64in ((lo + hi) / 2) (by omega)]
      have hm0 : lo ≤ (lo + hi) / 2 := by omega
      have hm1 : (lo + hi) / 2 < hi := by omega
      have hpow : (2 : Int) ^ (k + 1) = 2 * 2 ^ k := by rw [Int.pow_succ]; omega
      have hs1 : hi - ((lo + hi) / 2 + 1) < 2 ^ k := by omega
      have hs2 : (lo + hi) / 2 - lo < 2 ^ k := by omega
      generalize (lo + hi) / 2 = m at *
      have hb := Nums.sq_le (show 0 ≤ m by omega) (show m ≤ 4194304 by omega)
      have hq := Nums.sq_nonneg m
      rw [w64in (m * m) (by omega), w64in (m + 1) (by omega)]
      by_cases hc : m * m < n
      · rw [if_pos hc]
        have := (ht m (by omega)).mp hc
        exact ih (m + 1) hi (by omega) (by omega) h2 h3 hs1
      · rw [if_neg hc]
        have : ¬ m < t := fun h => hc ((ht m (by omega)).mpr h)
        exact ih lo m h0 h1 (by omega) (by omega) hs2
    · obtain rfl : lo = t := by omega
      have hb := Nums.sq_le h0 (show lo ≤ 4194304 by omega)
      have hq := Nums.sq_nonneg lo
      rw [if_neg hlt, w64in (lo * lo) (by omega)]
      split <;> rfl

/-- the reference's root, by the square root rounded down -/
theorem root_is {n s : Int} (hn : 0 ≤ n) (hb : n ≤ 17592186044416) (hs : 0 ≤ s) (h1 : s * s ≤ n) (h2 : n < (s + 1) * (s + 1)) :
    spec_Root.f 24 n = some (if s * s = n then s else -1) := by
  have big : ∀ m, 4194304 ≤ m → n ≤ m * m := fun m hm => by
    have := Nums.sq_le (a := 4194304) (b := m) (by omega) hm; omega
  by_cases he : s * s = n
  · rw [if_pos he]
    have ht : ∀ m, 0 ≤ m → (m * m < n ↔ m < s) := fun m hm => by
      constructor
      · intro h
        rcases Int.lt_or_le m s with g | g
        · exact g
        · have := Nums.sq_le hs g; omega
      · intro h
        have := Nums.sq_le (a := m + 1) (b := s) (by omega) (by omega)
        have e : (m + 1) * (m + 1) = m * m + 2 * m + 1 := by grind
        omega
    have hs4 : s ≤ 4194304 := by
      rcases Int.lt_or_le 4194304 s with g | g
      · have := Nums.sq_le (a := 4194305) (b := s) (by omega) (by omega); omega
      · exact g
    have := root_l hn ht 23 0 4194304 (by omega) hs hs4 (by omega) (by decide)
    rw [if_pos he] at this
    exact this
  · rw [if_neg he]
    have ht : ∀ m, 0 ≤ m → (m * m < n ↔ m < s + 1) := fun m hm => by
      constructor
      · intro h
        rcases Int.lt_or_le m (s + 1) with g | g
        · exact g
        · have := Nums.sq_le (a := s + 1) (by omega) g; omega
      · intro h
        have := Nums.sq_le (a := m) (b := s) (by omega) (by omega)
        omega
    have hs4 : s + 1 ≤ 4194304 := by
      rcases Int.lt_or_le 4194304 (s + 1) with g | g
      · have := Nums.sq_le (a := 4194304) (b := s) (by omega) (by omega); omega
      · exact g
    have := root_l hn ht 23 0 4194304 (by omega) (by omega) hs4 (by omega) (by decide)
    rw [if_neg (by omega)] at this
    exact this

theorem cAbs (a : Int) (h0 : -1000000 ≤ a) (h1 : a ≤ 1000000) (w : World) : Calls Tryd.prog 16 #[.int .i64 a] w fun e w' => e = .returned (.int .u64 (if a < 0 then -a else a)) ∧ ∃ m, w' = w.drewN m := by
  refine (mathutil_abs.calls a _ w ?_).mono fun _ _ ⟨h, d⟩ => ⟨h, d.out⟩
  unfold mathutil_abs.f
  by_cases h : a < 0
  · rw [if_neg (by omega), if_pos h, w64in _ (by omega), IntKind.wrap_u64]; congr 1; omega
  · rw [if_pos (by omega), if_neg h, IntKind.wrap_u64]; congr 1; omega
theorem cSqrt (n s : Int) (hn : 0 ≤ n) (hn' : n < 18446744073709551616) (hs : 0 ≤ s) (h1 : s * s ≤ n) (h2 : n < (s + 1) * (s + 1)) (w : World) : Calls Tryd.prog 18 #[.int .u64 n] w fun e w' => e = .returned (.int .u64 s) ∧ ∃ m, w' = w.drewN m :=
  (mathutil_SqrtUint64.calls (n.toNat + 1) n s w (sqrt_is hn hn' hs h1 h2 _ (by omega))).mono fun _ _ ⟨h, d⟩ => ⟨h, d.out⟩
theorem cRoot (n s : Int) (hn : 0 ≤ n) (hb : n ≤ 17592186044416) (hs : 0 ≤ s) (h1 : s * s ≤ n) (h2 : n < (s + 1) * (s + 1)) (w : World) : Calls Tryd.prog 8 #[.int .i64 n] w fun e w' => e = .returned (.int .i64 (if s * s = n then s else -1)) ∧ ∃ m, w' = w.drewN m :=
  (spec_Root.calls 24 n _ w (root_is hn hb hs h1 h2)).mono fun _ _ ⟨h, d⟩ => ⟨h, d.out⟩
theorem cCoef (a : Int) (h0 : -1000000 ≤ a) (h1 : a ≤ 1000000) (w : World) : Calls Tryd.prog 7 #[.int .i64 a] w fun e w' => e = .returned (.bool true) ∧ ∃ m, w' = w.drewN m :=
  (spec_IsCoef.calls a true w (by unfold spec_IsCoef.f; rw [if_pos (by omega), decide_eq_true h1])).mono fun _ _ ⟨h, d⟩ => ⟨h, d.out⟩
theorem cNot (a : Int) (h : ¬ (-1000000 ≤ a ∧ a ≤ 1000000)) (w : World) : Calls Tryd.prog 7 #[.int .i64 a] w fun e w' => e = .returned (.bool false) ∧ ∃ m, w' = w.drewN m :=
  (spec_IsCoef.calls a false w (by
    unfold spec_IsCoef.f
    by_cases h0 : a ≥ -1000000
    · rw [if_pos h0, decide_eq_false (by omega)]
    · rw [if_neg h0])).mono fun _ _ ⟨h, d⟩ => ⟨h, d.out⟩
end Go.Proofs.YtpelipdecjooeaaDoor.DiscT
