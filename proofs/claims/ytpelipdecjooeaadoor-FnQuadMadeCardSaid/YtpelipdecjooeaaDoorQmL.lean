/- What impl.QuadFactors answers, by the discriminant. -/
import Derived.Test.YtpelipdecjooeaaDoorQmP
namespace Go.Proofs.YtpelipdecjooeaaDoor.QmL
open Go Go.RowKit Go.Proofs.YtpelipdecjooeaaDoor.PFnQuadMade Go.Proofs.YtpelipdecjooeaaDoorW.PrintWords Go.Com Go.Proofs.YtpelipdecjooeaaDoor.DiscW Go.Proofs.YtpelipdecjooeaaDoor.QpdC Go.Proofs.YtpelipdecjooeaaDoor.QmP
set_option linter.unusedVariables false

theorem mag_of {n : Int} (h : 0 ≤ n) : mag n = n := by unfold mag; rw [if_neg (by omega)]
theorem told_sq {q : Int} (h : 0 ≤ q) : told (rootN (mag (q * q))) (mag (q * q)) = q := by
  have hq := Nums.sq_nonneg q
  rw [mag_of hq]
  obtain ⟨g0, g1, g2⟩ := rootN_spec (q * q) hq
  have e : (q + 1) * (q + 1) = q * q + 2 * q + 1 := by grind
  have := Nums.root_unique g0 h g1 g2 (Int.le_refl _) (by omega)
  rw [this]
  unfold told
  rw [if_pos rfl]
theorem told_some {D : Int} (hD : 0 ≤ D) (h : 0 ≤ told (rootN (mag D)) (mag D)) : ∃ q, 0 ≤ q ∧ q * q = D ∧ told (rootN (mag D)) (mag D) = q := by
  rw [mag_of hD] at h ⊢
  obtain ⟨g0, g1, g2⟩ := rootN_spec D hD
  unfold told at h ⊢
  by_cases he : rootN D * rootN D = D
  · rw [if_pos he]; exact ⟨_, g0, he, rfl⟩
  · rw [if_neg he] at h; omega
theorem disc_scale (A B C K : Int) : disc (A * K) (B * K) (C * K) = K * K * disc A B C := by unfold disc; grind

theorem bd {x g y : Int} (hg : 0 < g) (h : y * g = x) (h1 : -10000000 ≤ x) (h2 : x ≤ 10000000) : -10000000 ≤ y ∧ y ≤ 10000000 := by
  constructor
  · rcases Int.lt_or_le y (-10000000) with h | h
    · have := Int.mul_le_mul_of_nonneg_right (show y ≤ -10000001 by omega) (show 0 ≤ g by omega)
      omega
    · exact h
  · rcases Int.lt_or_le 10000000 y with h | h
    · have := Int.mul_le_mul_of_nonneg_right (show 10000001 ≤ y by omega) (show 0 ≤ g by omega)
      omega
    · exact h
theorem main {a b c : Int} (k : Nat) (hk : a.natAbs + b.natAbs + c.natAbs + 1 < k) (hk2 : 2000010 < (k : Int)) (ha : a ≠ 0) (ha1 : -1000000 ≤ a ∧ a ≤ 1000000) (hb : -1000000 ≤ b ∧ b ≤ 1000000) (hc : -1000000 ≤ c ∧ c ≤ 1000000) :
    ((¬ ∃ q, 0 ≤ q ∧ q * q = disc a b c) ∧ impl_QuadFactors.f k a b c = some (0, [], true)) ∨
    ∃ K P1 Q1 P2 Q2 q : Int, 0 ≤ q ∧ q * q = disc a b c ∧ impl_QuadFactors.f k a b c = some (K, [[P1, Q1], [P2, Q2]], true) ∧ K * P1 * P2 = a ∧ K * P1 * Q2 + K * Q1 * P2 = b ∧ K * Q1 * Q2 = c ∧ Int.gcd P1 Q1 = 1 ∧ Int.gcd P2 Q2 = 1 ∧ K ≠ 0 ∧ 0 < P1 * P2 ∧ (-1000000 ≤ K ∧ K ≤ 1000000) ∧ (-10000000 ≤ P1 ∧ P1 ≤ 10000000) ∧ (-10000000 ≤ Q1 ∧ Q1 ≤ 10000000) ∧ (-10000000 ≤ P2 ∧ P2 ≤ 10000000) ∧ (-10000000 ≤ Q2 ∧ Q2 ≤ 10000000) := by
  obtain ⟨K, A, B, C, hK, ea, eb, ec, hA, hA1, hB, hC, hp, ef⟩ := qpf_is k hk ha ha1 hb hc
  have hs : disc a b c = K * K * disc A B C := by rw [ea, eb, ec]; exact disc_scale A B C K
  have hKK : 0 < K * K := by
    have := Nums.sq_nonneg K
    have h0 : K * K ≠ 0 := Int.mul_ne_zero hK hK
    omega
  rcases j0_is k (by omega) hK ea eb ec hA hA1 hB hC with ⟨hn, hj⟩ | ⟨⟨hD, ht⟩, hj⟩
  · refine .inl ⟨?_, impl_nil k (by omega) (by rw [ef, hj])⟩
    rintro ⟨q, hq0, hq⟩
    rw [hs] at hq
    obtain ⟨t, t0, te⟩ := QuadSq.sq_quot hK hq
    rw [← te, told_sq t0] at hn
    have := Nums.sq_nonneg t
    omega
  · obtain ⟨q, q0, qe, qt⟩ := told_some hD ht
    rw [qt] at hj
    have hd := disc_in (a := A) (b := B) (c := C) (by omega) hA1 hB.1 hB.2 hC.1 hC.2
    have hq3 : q ≤ 3000000 := by
      rcases Int.lt_or_le 3000000 q with g | g
      · have := Nums.sq_le (a := 3000000) (b := q) (by omega) (by omega); omega
      · exact g
    obtain ⟨P1, Q1, P2, Q2, g1, g2, hj2, hg1, hg2, p1, q1, p2, q2, c1, c2⟩ := j2_is (A := A) (B := B) (K := K) (d := q) (k - 1) (by omega) hA hA1 hB ⟨q0, hq3⟩
    obtain ⟨f1, f2, f3⟩ := Quad.factors hA hp (by rw [qe]; rfl) hg1 hg2 p1 q1 p2 q2 c1 c2
    refine .inr ⟨K, P1, Q1, P2, Q2, K.natAbs * q, ?_, ?_, impl_two k (by omega) (by rw [ef, hj, hj2]), ?_, ?_, ?_, c1, c2, hK, by rw [f1]; exact hA, ?_, bd hg1 p1 (by omega) (by omega), bd hg1 q1 (by omega) (by omega), bd hg2 p2 (by omega) (by omega), bd hg2 q2 (by omega) (by omega)⟩
    · exact Int.mul_nonneg (by omega) q0
    · have e : (K.natAbs : Int) * q * ((K.natAbs : Int) * q) = (K.natAbs : Int) * K.natAbs * (q * q) := by grind
      have e3 : (K.natAbs : Int) * K.natAbs = K * K := by rw [← Int.natCast_mul]; exact Int.natAbs_mul_self
      rw [e, qe, hs, e3]
    · rw [ea, ← f1]; grind
    · rw [eb, ← f2]; grind
    · rw [ec, ← f3]; grind
    · exact part_le (x := a) (K := A) (X := K) (by omega) (by rw [ea]; exact Int.mul_comm A K) ha1
end Go.Proofs.YtpelipdecjooeaaDoor.QmL
