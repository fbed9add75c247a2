/- The law of the factors, out of what the functions answer: no walk in sight. -/
import Derived.Test.YtpelipdecjooeaaDoorOFnQuadFactorsx4
import Derived.Test.YtpelipdecjooeaaDoorQuadL
import Derived.Test.YtpelipdecjooeaaDoorQuadM
import Derived.Test.YtpelipdecjooeaaDoorDiscT
namespace Go.Proofs.YtpelipdecjooeaaDoor.QuadN
open Go Go.RowKit Go.Proofs.YtpelipdecjooeaaDoor.PFnQuadFactors Go.Proofs.YtpelipdecjooeaaDoorW.PrintWords Go.Com Go.Proofs.YtpelipdecjooeaaDoor.DiscW Go.Proofs.YtpelipdecjooeaaDoor.QpdC Go.Proofs.YtpelipdecjooeaaDoor.QuadP Go.Proofs.YtpelipdecjooeaaDoor.QuadL Go.Proofs.YtpelipdecjooeaaDoor.QuadM
set_option linter.unusedVariables false
theorem root_same : ∀ (k : Nat) (n x y : Int), PFnQuadFactors.spec_Root.l0 k n x y = PFnDiscriminant.spec_Root.l0 k n x y := by
  intro k
  induction k with
  | zero => intro n x y; rfl
  | succ k ih => intro n x y; rw [PFnQuadFactors.spec_Root.l0, PFnDiscriminant.spec_Root.l0, ih, ih]
theorem root_more {n r : Int} (h : PFnQuadFactors.spec_Root.f 24 n = some r) : ∀ j : Nat, PFnQuadFactors.spec_Root.f (24 + j) n = some r := by
  intro j
  induction j with
  | zero => exact h
  | succ j ih => exact PFnQuadFactors.spec_Root.mono n (24 + j) r ih
theorem root {n : Int} (hn : 0 ≤ n) (hb : n ≤ 17592186044416) {k : Nat} (hk : 24 ≤ k) : PFnQuadFactors.spec_Root.f k n = some (told (rootN n) n) := by
  obtain ⟨j, rfl⟩ : ∃ j, k = 24 + j := ⟨k - 24, by omega⟩
  obtain ⟨g0, g1, g2⟩ := rootN_spec n hn
  refine root_more ?_ j
  have := DiscT.root_is hn hb g0 g1 g2
  unfold PFnDiscriminant.spec_Root.f at this
  unfold PFnQuadFactors.spec_Root.f
  rw [root_same]
  exact this
theorem coef_in {n : Int} (h : -1000000 ≤ n ∧ n ≤ 1000000) : spec_IsCoef.f n = some true := by
  unfold spec_IsCoef.f
  rw [if_pos (by omega), decide_eq_true h.2]
theorem coef_out {n : Int} (h : ¬ (-1000000 ≤ n ∧ n ≤ 1000000)) : spec_IsCoef.f n = some false := by
  unfold spec_IsCoef.f
  by_cases h0 : n ≥ -1000000
  · rw [if_pos h0, decide_eq_false (by omega)]
  · rw [if_neg h0]
theorem prod_le {x y : Int} {m n : Nat} (hx : x.natAbs ≤ m) (hy : y.natAbs ≤ n) : (x * y).natAbs ≤ m * n := by
  rw [Int.natAbs_mul]; exact Nat.mul_le_mul hx hy
theorem fit_of {n : Int} {m : Nat} (h : n.natAbs ≤ m) (hm : m ≤ 9223372036854775807) : fits n := by unfold fits; omega
/-- what the law asks of two factors -/
theorem made {a b c K P1 Q1 P2 Q2 : Int} (k : Nat) (ha : a ≠ 0) (ha1 : -1000000 ≤ a ∧ a ≤ 1000000) (hb : -1000000 ≤ b ∧ b ≤ 1000000) (hc : -1000000 ≤ c ∧ c ≤ 1000000)
    (e1 : K * P1 * P2 = a) (e2 : K * P1 * Q2 + K * Q1 * P2 = b) (e3 : K * Q1 * Q2 = c) (hK : -1000000 ≤ K ∧ K ≤ 1000000) (h1 : -10000000 ≤ P1 ∧ P1 ≤ 10000000) (h2 : -10000000 ≤ Q1 ∧ Q1 ≤ 10000000) (h3 : -10000000 ≤ P2 ∧ P2 ≤ 10000000) (h4 : -10000000 ≤ Q2 ∧ Q2 ≤ 10000000) :
    spec_Multiplied.f (k + 12) K [[P1, Q1], [P2, Q2]] = some [a, b, c] := by
  have b1 : (K * P1).natAbs ≤ 1000000 := by
    have g : (K * P1).natAbs ≤ a.natAbs := by
      rw [← e1, Int.natAbs_mul (K * P1)]
      refine Nat.le_mul_of_pos_right _ (Int.natAbs_pos.mpr ?_)
      rintro rfl
      rw [Int.mul_zero] at e1
      omega
    omega
  have b2 := prod_le (x := K) (y := Q1) (m := 1000000) (n := 10000000) (by omega) (by omega)
  have b3 := prod_le (x := K * P1) (y := Q2) (m := 1000000) (n := 10000000) b1 (by omega)
  have r := mult_two K P1 Q1 P2 Q2 k (fit_of b1 (by omega)) (fit_of b2 (by omega)) (by rw [e1]; unfold fits; omega) (fit_of b3 (by omega)) (by unfold fits; omega) (by rw [e2]; unfold fits; omega) (by rw [e3]; unfold fits; omega)
  rw [e1, e2, e3] at r
  exact r
theorem one_of {K m : Int} (hm : 0 < m) (h : K * m = 1) : K = 1 := by
  rcases Int.lt_or_le K 1 with g | g
  · have := Int.mul_le_mul_of_nonneg_right (show K ≤ 0 by omega) (show 0 ≤ m by omega)
    rw [Int.zero_mul] at this
    omega
  · have := Int.mul_le_mul_of_nonneg_left (show 1 ≤ m by omega) (show 0 ≤ K by omega)
    omega
/-- the package's answer for x*x + 3*x + 2 -/
theorem works (k : Nat) (hk : 2000010 < (k : Int)) : ∃ l, impl_QuadFactors.f k 1 3 2 = some (1, l, true) ∧ ((l.length : Int) == 2) = true := by
  rcases main (a := 1) (b := 3) (c := 2) k (by omega) hk (by omega) (by omega) (by omega) (by omega) with ⟨hn, _⟩ | ⟨K, P1, Q1, P2, Q2, q, _, _, hf, e1, _, _, _, _, _, hp, _⟩
  · exact absurd ⟨1, by omega, by unfold disc; rfl⟩ hn
  · obtain rfl : K = 1 := one_of hp (by rw [← Int.mul_assoc]; exact e1)
    exact ⟨_, hf, rfl⟩
theorem div_one {P Q : Int} (k : Nat) (hk : 10000000 < (k : Int)) (h : Int.gcd P Q = 1) (h1 : -10000000 ≤ P ∧ P ≤ 10000000) (h2 : -10000000 ≤ Q ∧ Q ≤ 10000000) : spec_Divisor.f k P Q = some 1 := by
  unfold spec_Divisor.f
  rw [divisor_l _ k P Q (Nat.le_refl _) (by omega) (by omega) (by omega), h]
  rfl
theorem j2_nil {a b c : Int} (k : Nat) : laws_FnQuadFactors.j2 (k + 1) a b c true 0 [] true true = some true := by
  rw [laws_FnQuadFactors.j2, if_pos rfl, if_pos rfl, if_pos rfl, if_pos rfl]
  rfl
theorem l0_two {a b c K P1 Q1 P2 Q2 : Int} (k : Nat) (hk : 10000000 < (k : Int)) (d1 : Int.gcd P1 Q1 = 1) (d2 : Int.gcd P2 Q2 = 1) (hm : ∀ j, spec_Multiplied.f (j + 12) K [[P1, Q1], [P2, Q2]] = some [a, b, c])
    (h1 : -10000000 ≤ P1 ∧ P1 ≤ 10000000) (h2 : -10000000 ≤ Q1 ∧ Q1 ≤ 10000000) (h3 : -10000000 ≤ P2 ∧ P2 ≤ 10000000) (h4 : -10000000 ≤ Q2 ∧ Q2 ≤ 10000000) :
    laws_FnQuadFactors.l0 (k + 20) a b c true K [[P1, Q1], [P2, Q2]] true [[P1, Q1], [P2, Q2]] 2 0 = some true := by
  have q1 : wrap64 (0 + 1) = 1 := QuadM.w64in _ (by omega)
  have q2 : wrap64 (1 + 1) = 2 := QuadM.w64in _ (by omega)
  have r0 : rd_L2 [[P1, Q1], [P2, Q2]] 0 = [P1, Q1] := rfl
  have r1 : rd_L2 [[P1, Q1], [P2, Q2]] 1 = [P2, Q2] := rfl
  have s0 : rd [P1, Q1] 0 = P1 := rfl
  have s1 : rd [P1, Q1] 1 = Q1 := rfl
  have s2 : rd [P2, Q2] 0 = P2 := rfl
  have s3 : rd [P2, Q2] 1 = Q2 := rfl
  rw [laws_FnQuadFactors.l0, if_pos (by omega), if_pos (by omega), if_pos (by simp), r0, if_pos (by simp), if_pos (by simp), if_pos (by simp), s0, s1, div_one (k + 19) (by omega) d1 h1 h2, Option.bind_some, if_pos rfl, q1]
  rw [laws_FnQuadFactors.l0, if_pos (by omega), if_pos (by omega), if_pos (by simp), r1, if_pos (by simp), if_pos (by simp), if_pos (by simp), s2, s3, div_one (k + 18) (by omega) d2 h3 h4, Option.bind_some, if_pos rfl, q2]
  rw [laws_FnQuadFactors.l0, if_neg (by omega), if_pos rfl, if_pos rfl, if_pos (by simp), hm (k + 5), Option.bind_some, same_three a b c (k + 13), Option.bind_some]
theorem j1_in {a b c : Int} (k : Nat) (hk : a.natAbs + b.natAbs + c.natAbs + 1 < k) (hk2 : 20000010 < (k : Int)) (ha : a ≠ 0) (ha1 : -1000000 ≤ a ∧ a ≤ 1000000) (hb : -1000000 ≤ b ∧ b ≤ 1000000) (hc : -1000000 ≤ c ∧ c ≤ 1000000) :
    laws_FnQuadFactors.j1 (k + 1) a b c true false = some true := by
  have hd := disc_in ha1.1 ha1.2 hb.1 hb.2 hc.1 hc.2
  have hp := prod_in ha1.1 ha1.2 hc.1 hc.2
  have hq := prod_in hb.1 hb.2 hb.1 hb.2
  have ew : wrap64 (wrap64 (b * b) - wrap64 (wrap64 (4 * a) * c)) = disc a b c := by
    have e : 4 * a * c = 4 * (a * c) := Int.mul_assoc _ _ _
    rw [QuadM.w64in (b * b) (by omega), QuadM.w64in (4 * a) (by omega), QuadM.w64in (4 * a * c) (by omega), QuadM.w64in _ (by unfold disc at hd; omega)]
    rfl
  rw [laws_FnQuadFactors.j1, if_neg (by simp), ew]
  rcases main (a := a) (b := b) (c := c) k hk (by omega) ha ha1 hb hc with ⟨hn, hf⟩ | ⟨K, P1, Q1, P2, Q2, q, q0, qe, hf, e1, e2, e3, d1, d2, _, _, hK, h1, h2, h3, h4⟩
  · rw [hf, Option.bind_some]
    obtain ⟨j, rfl⟩ : ∃ j, k = j + 1 := ⟨k - 1, by omega⟩
    by_cases hD : disc a b c < 0
    · rw [if_pos hD]
      exact j2_nil j
    · rw [if_neg hD, root (by omega) (by omega) (by omega), Option.bind_some]
      have : told (rootN (disc a b c)) (disc a b c) < 0 := by
        unfold told
        by_cases he : rootN (disc a b c) * rootN (disc a b c) = disc a b c
        · exact absurd ⟨_, (rootN_spec _ (by omega)).1, he⟩ hn
        · rw [if_neg he]; omega
      rw [decide_eq_true this]
      exact j2_nil j
  · rw [hf, Option.bind_some]
    have hD : 0 ≤ disc a b c := by rw [← qe]; exact Nums.sq_nonneg q
    have ht : told (rootN (disc a b c)) (disc a b c) = q := by
      have := told_sq q0
      rw [qe, mag_of hD] at this
      exact this
    rw [if_neg (by omega), root hD (by omega) (by omega), Option.bind_some, ht, decide_eq_false (by omega)]
    obtain ⟨j, rfl⟩ : ∃ j, k = j + 20 + 1 := ⟨k - 21, by omega⟩
    rw [laws_FnQuadFactors.j2, if_neg (by simp)]
    exact l0_two j (by omega) d1 d2 (fun j => made j ha ha1 hb hc e1 e2 e3 hK h1 h2 h3 h4) h1 h2 h3 h4
theorem FnQuadFactors : laws_FnQuadFactors.Pure := by
  intro a b c _ _ _
  obtain ⟨k, hk, hk2⟩ : ∃ k : Nat, a.natAbs + b.natAbs + c.natAbs + 1 < k ∧ 20000010 < (k : Int) := ⟨(20000011 + (a.natAbs + b.natAbs + c.natAbs : Nat) : Int).toNat, by omega, by omega⟩
  refine ⟨k + 2, ?_⟩
  obtain ⟨l, hl, hl2⟩ := works (k + 2) (by omega)
  rw [laws_FnQuadFactors.f, hl, Option.bind_some, if_pos rfl, if_pos rfl]
  show laws_FnQuadFactors.j0 (k + 1 + 1) a b c ((l.length : Int) == 2) = _
  rw [hl2, laws_FnQuadFactors.j0]
  have out : laws_FnQuadFactors.j1 (k + 1) a b c true true = some true := by rw [laws_FnQuadFactors.j1, if_pos rfl]
  by_cases ha : a = 0
  · rw [if_pos ha, out]
  · rw [if_neg ha]
    by_cases h1 : -1000000 ≤ a ∧ a ≤ 1000000
    · rw [coef_in h1, Option.bind_some, if_pos rfl]
      by_cases h2 : -1000000 ≤ b ∧ b ≤ 1000000
      · rw [coef_in h2, Option.bind_some, if_pos rfl]
        by_cases h3 : -1000000 ≤ c ∧ c ≤ 1000000
        · rw [coef_in h3, Option.bind_some]
          exact j1_in k hk hk2 ha h1 h2 h3
        · rw [coef_out h3, Option.bind_some]
          exact out
      · rw [coef_out h2, Option.bind_some, if_neg (by simp), out]
    · rw [coef_out h1, Option.bind_some, if_neg (by simp), out]
end Go.Proofs.YtpelipdecjooeaaDoor.QuadN
