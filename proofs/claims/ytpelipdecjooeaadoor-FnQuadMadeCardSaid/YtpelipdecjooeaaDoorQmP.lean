/- What the package's factors come to: no walk in sight. -/
import Derived.Test.YtpelipdecjooeaaDoorOFnQuadMadex2
import Derived.Test.YtpelipdecjooeaaDoorCom
import Derived.Test.YtpelipdecjooeaaDoorQuad
import Derived.Test.YtpelipdecjooeaaDoorQuadSq
namespace Go.Proofs.YtpelipdecjooeaaDoor.QmP
open Go Go.RowKit Go.Proofs.YtpelipdecjooeaaDoor.PFnQuadMade Go.Proofs.YtpelipdecjooeaaDoorW.PrintWords Go.Com Go.Proofs.YtpelipdecjooeaaDoor.DiscW Go.Proofs.YtpelipdecjooeaaDoor.QpdC
set_option linter.unusedVariables false

theorem w64in (n : Int) (h : -9223372036854775808 ≤ n ∧ n ≤ 9223372036854775807) : wrap64 n = n := by unfold wrap64; omega
theorem abs_is (n : Int) (h : -1000000000 ≤ n ∧ n ≤ 1000000000) : mathutil_abs.f n = some ((n.natAbs : Nat) : Int) := by
  unfold mathutil_abs.f
  by_cases g : n ≥ 0
  · rw [if_pos g, IntKind.wrap_u64]; congr 1; omega
  · rw [if_neg g, w64in _ (by omega), IntKind.wrap_u64]; congr 1; omega
theorem gcd_is (k m n : Nat) (h : n < k) : mathutil_GCDUint64.f k (m : Int) (n : Int) = some ((Nat.gcd m n : Nat) : Int) := gcd_loop mathutil_GCDUint64.l0 (fun _ _ _ => rfl) n m k h

/-- the end of the way: two factors out of the primitive part -/
theorem j2_is {A B K d : Int} (k : Nat) (hk : (2 * A).natAbs + 1 < k) (hA : 0 < A) (hA1 : A ≤ 1000000) (hB : -1000000 ≤ B ∧ B ≤ 1000000) (hd : 0 ≤ d ∧ d ≤ 3000000) :
    ∃ P1 Q1 P2 Q2 g1 g2 : Int, mathutil_QuadPolyFactors.j2 k A B K d false = some (K, [⟨P1, Q1⟩, ⟨P2, Q2⟩], none) ∧ 0 < g1 ∧ 0 < g2 ∧ P1 * g1 = 2 * A ∧ Q1 * g1 = B - d ∧ P2 * g2 = 2 * A ∧ Q2 * g2 = B + d ∧ Int.gcd P1 Q1 = 1 ∧ Int.gcd P2 Q2 = 1 := by
  obtain ⟨k, rfl⟩ : ∃ j, k = j + 1 := ⟨k - 1, by omega⟩
  obtain ⟨hg1, N1, M1, n1, m1, M1p, c1⟩ := QuadSq.struck (n := -B + d) (m := 2 * A) (by omega) rfl
  obtain ⟨hg2, N2, M2, n2, m2, M2p, c2⟩ := QuadSq.struck (n := -B - d) (m := 2 * A) (by omega) rfl
  have l1 : ((Int.gcd (-B + d) (2 * A) : Nat) : Int) ≤ 2 * A := Int.le_of_dvd (by omega) (Int.gcd_dvd_right _ _)
  have l2 : ((Int.gcd (-B - d) (2 * A) : Nat) : Int) ≤ 2 * A := Int.le_of_dvd (by omega) (Int.gcd_dvd_right _ _)
  have a1 := abs_is (-B + d) (by omega)
  have a2 := abs_is (2 * A) (by omega)
  have a3 := abs_is (-B - d) (by omega)
  have g1 := gcd_is k (-B + d).natAbs (2 * A).natAbs (by omega)
  have g2 := gcd_is k (-B - d).natAbs (2 * A).natAbs (by omega)
  rw [show Nat.gcd (-B + d).natAbs (2 * A).natAbs = Int.gcd (-B + d) (2 * A) from rfl] at g1
  rw [show Nat.gcd (-B - d).natAbs (2 * A).natAbs = Int.gcd (-B - d) (2 * A) from rfl] at g2
  generalize ((Int.gcd (-B + d) (2 * A) : Nat) : Int) = G1 at *
  generalize ((Int.gcd (-B - d) (2 * A) : Nat) : Int) = G2 at *
  refine ⟨M1, -N1, M2, -N2, G1, G2, ?_, hg1, hg2, m1.symm, by rw [Int.neg_mul]; omega, m2.symm, by rw [Int.neg_mul]; omega, by rw [Int.gcd_neg]; exact c1, by rw [Int.gcd_neg]; exact c2⟩
  have t1 : Int.tdiv (2 * A) G1 = M1 := by rw [m1]; exact Int.mul_tdiv_cancel _ (by omega)
  have t2 : Int.tdiv (-B + d) G1 = N1 := by rw [n1]; exact Int.mul_tdiv_cancel _ (by omega)
  have t3 : Int.tdiv (2 * A) G2 = M2 := by rw [m2]; exact Int.mul_tdiv_cancel _ (by omega)
  have t4 : Int.tdiv (-B - d) G2 = N2 := by rw [n2]; exact Int.mul_tdiv_cancel _ (by omega)
  have bd : ∀ x g y : Int, 0 < g → x = y * g → -10000000 ≤ x → x ≤ 10000000 → -10000000 ≤ y ∧ y ≤ 10000000 := by
    intro x g y hg hx h1 h2
    constructor
    · rcases Int.lt_or_le y (-10000000) with h | h
      · have := Int.mul_le_mul_of_nonneg_right (show y ≤ -10000001 by omega) (show 0 ≤ g by omega)
        omega
      · exact h
    · rcases Int.lt_or_le 10000000 y with h | h
      · have := Int.mul_le_mul_of_nonneg_right (show 10000001 ≤ y by omega) (show 0 ≤ g by omega)
        omega
      · exact h
  have b1 := bd _ _ _ hg1 m1 (by omega) (by omega)
  have b2 := bd _ _ _ hg1 n1 (by omega) (by omega)
  have b3 := bd _ _ _ hg2 m2 (by omega) (by omega)
  have b4 := bd _ _ _ hg2 n2 (by omega) (by omega)
  clear n1 m1 n2 m2 bd
  simp only [mathutil_QuadPolyFactors.j2]
  rw [if_neg (by simp), w64in (-B) (by omega), w64in (-B + d) (by omega), w64in (2 * A) (by omega), w64in (-B - d) (by omega), a1, a2, a3]
  rw [Option.bind_some, Option.bind_some, g1, Option.bind_some, w64in G1 (by omega), if_neg (by omega)]
  rw [Option.bind_some, Option.bind_some, g2, Option.bind_some, w64in G2 (by omega), if_neg (by omega), t1, t2, t3, t4, w64in M1 (by omega), w64in N1 (by omega), w64in M2 (by omega), w64in N2 (by omega), w64in (-N1) (by omega), w64in (-N2) (by omega)]
/-- the way behind the content, for a primitive part -/
theorem j0_is {a b c K A B C : Int} (k : Nat) (hk : (2 * A).natAbs + 2 < k) (hK : K ≠ 0) (ea : a = A * K) (eb : b = B * K) (ec : c = C * K) (hA : 0 < A) (hA1 : A ≤ 1000000) (hB : -1000000 ≤ B ∧ B ≤ 1000000) (hC : -1000000 ≤ C ∧ C ≤ 1000000) :
    (disc A B C < 0 ∨ told (rootN (mag (disc A B C))) (mag (disc A B C)) < 0) ∧ mathutil_QuadPolyFactors.j0 k a b c K = some (0, [], none) ∨
    (0 ≤ disc A B C ∧ 0 ≤ told (rootN (mag (disc A B C))) (mag (disc A B C))) ∧ mathutil_QuadPolyFactors.j0 k a b c K = mathutil_QuadPolyFactors.j2 (k - 1) A B K (told (rootN (mag (disc A B C))) (mag (disc A B C))) false := by
  obtain ⟨k, rfl⟩ : ∃ j, k = j + 1 := ⟨k - 1, by omega⟩
  obtain ⟨k, rfl⟩ : ∃ j, k = j + 1 := ⟨k - 1, by omega⟩
  have t1 : Int.tdiv a K = A := by rw [ea]; exact Int.mul_tdiv_cancel _ hK
  have t2 : Int.tdiv b K = B := by rw [eb]; exact Int.mul_tdiv_cancel _ hK
  have t3 : Int.tdiv c K = C := by rw [ec]; exact Int.mul_tdiv_cancel _ hK
  have hq : mathutil_QuadPolyDiscriminant.f A B C = some (disc A B C, told (rootN (mag (disc A B C))) (mag (disc A B C)), none) := by
    unfold mathutil_QuadPolyDiscriminant.f qpdF
    rw [if_pos (by unfold inR; omega)]
  clear ea eb ec
  generalize told (rootN (mag (disc A B C))) (mag (disc A B C)) = d at *
  generalize disc A B C = D at *
  have e : mathutil_QuadPolyFactors.j0 (k + 1 + 1) a b c K = (if D < 0 then mathutil_QuadPolyFactors.j2 (k + 1) A B K d true else mathutil_QuadPolyFactors.j2 (k + 1) A B K d (decide (d < 0))) := by
    rw [mathutil_QuadPolyFactors.j0, if_neg hK, t1, t2, t3, w64in A (by omega), w64in B (by omega), w64in C (by omega), if_neg (by omega), hq, Option.bind_some, if_pos (by rfl)]
  rw [e]
  have j : mathutil_QuadPolyFactors.j2 (k + 1) A B K d true = some (0, [], none) := by rw [mathutil_QuadPolyFactors.j2, if_pos rfl]
  by_cases hD : D < 0
  · exact .inl ⟨.inl hD, by rw [if_pos hD, j]⟩
  · rw [if_neg hD]
    by_cases hd : d < 0
    · exact .inl ⟨.inr hd, by rw [decide_eq_true hd, j]⟩
    · exact .inr ⟨⟨by omega, by omega⟩, by rw [decide_eq_false hd]; rfl⟩
theorem part_le {x K X : Int} (hK : K ≠ 0) (h : x = X * K) (hx : -1000000 ≤ x ∧ x ≤ 1000000) : -1000000 ≤ X ∧ X ≤ 1000000 := by
  have h1 : X.natAbs ≤ x.natAbs := by
    rw [h, Int.natAbs_mul]
    exact Nat.le_mul_of_pos_right _ (Int.natAbs_pos.mpr hK)
  omega
/-- the content is struck -/
theorem qpf_is {a b c : Int} (k : Nat) (hk : a.natAbs + b.natAbs + c.natAbs + 1 < k) (ha : a ≠ 0) (ha1 : -1000000 ≤ a ∧ a ≤ 1000000) (hb : -1000000 ≤ b ∧ b ≤ 1000000) (hc : -1000000 ≤ c ∧ c ≤ 1000000) :
    ∃ K A B C : Int, K ≠ 0 ∧ a = A * K ∧ b = B * K ∧ c = C * K ∧ 0 < A ∧ A ≤ 1000000 ∧ (-1000000 ≤ B ∧ B ≤ 1000000) ∧ (-1000000 ≤ C ∧ C ≤ 1000000) ∧ Int.gcd A (Int.gcd B C) = 1 ∧ mathutil_QuadPolyFactors.f k a b c = mathutil_QuadPolyFactors.j0 k a b c K := by
  have hG : 0 < ((Int.gcd a (Int.gcd b c) : Nat) : Int) := by
    have := Int.gcd_pos_of_ne_zero_left (Int.gcd b c : Int) ha
    omega
  obtain ⟨A, B, C, ea, eb, ec, hp⟩ := QuadSq.primitive hG rfl
  have g1 := gcd_is k b.natAbs c.natAbs (by omega)
  have hle : Nat.gcd b.natAbs c.natAbs ≤ b.natAbs + c.natAbs := by
    rcases Nat.eq_zero_or_pos b.natAbs with h | h
    · rw [h, Nat.gcd_zero_left]; omega
    · have := Nat.gcd_le_left c.natAbs h; omega
  have g2 := gcd_is k a.natAbs (Nat.gcd b.natAbs c.natAbs) (by omega)
  have eG : ((Nat.gcd a.natAbs (Nat.gcd b.natAbs c.natAbs) : Nat) : Int) = ((Int.gcd a (Int.gcd b c) : Nat) : Int) := rfl
  have hGa : ((Int.gcd a (Int.gcd b c) : Nat) : Int) ≤ 1000000 := by
    have h1 : Int.gcd a (Int.gcd b c) ≤ a.natAbs := Nat.gcd_le_left _ (Int.natAbs_pos.mpr ha)
    omega
  rw [eG] at g2
  generalize ((Int.gcd a (Int.gcd b c) : Nat) : Int) = G at *
  have a1 := abs_is a (by omega)
  have a2 := abs_is b (by omega)
  have a3 := abs_is c (by omega)
  have e : mathutil_QuadPolyFactors.f k a b c = (if a < 0 then mathutil_QuadPolyFactors.j0 k a b c (-G) else mathutil_QuadPolyFactors.j0 k a b c G) := by
    rw [mathutil_QuadPolyFactors.f, a1, Option.bind_some, a2, Option.bind_some, a3, Option.bind_some, g1, Option.bind_some, g2, Option.bind_some, w64in G (by omega), if_neg (by omega), if_pos (by omega), w64in (-G) (by omega)]
    by_cases h : a < 0
    · rw [if_pos h, if_pos h]
    · rw [if_neg h, if_neg h, if_neg ha]
  by_cases h : a < 0
  · rw [if_pos h] at e
    have e1 : a = -A * -G := by rw [Int.neg_mul_neg, Int.mul_comm]; exact ea
    have e2 : b = -B * -G := by rw [Int.neg_mul_neg, Int.mul_comm]; exact eb
    have e3 : c = -C * -G := by rw [Int.neg_mul_neg, Int.mul_comm]; exact ec
    refine ⟨-G, -A, -B, -C, by omega, e1, e2, e3, ?_, (part_le (by omega) e1 ha1).2, part_le (by omega) e2 hb, part_le (by omega) e3 hc, ?_, e⟩
    · rcases Int.lt_or_le A 0 with g | g
      · omega
      · have := Int.mul_nonneg (a := G) (b := A) (by omega) g; omega
    · rw [Int.neg_gcd, Int.neg_gcd, Int.gcd_neg]; exact hp
  · rw [if_neg h] at e
    have e1 : a = A * G := by rw [Int.mul_comm]; exact ea
    have e2 : b = B * G := by rw [Int.mul_comm]; exact eb
    have e3 : c = C * G := by rw [Int.mul_comm]; exact ec
    refine ⟨G, A, B, C, by omega, e1, e2, e3, ?_, (part_le (by omega) e1 ha1).2, part_le (by omega) e2 hb, part_le (by omega) e3 hc, hp, e⟩
    rcases Int.lt_or_le 0 A with g | g
    · exact g
    · have := Int.mul_nonneg (a := G) (b := -A) (by omega) (by omega)
      rw [Int.mul_neg] at this; omega
theorem impl_nil {a b c : Int} (k : Nat) (hk : 1 ≤ k) (h : mathutil_QuadPolyFactors.f k a b c = some (0, [], none)) : impl_QuadFactors.f k a b c = some (0, [], true) := by
  obtain ⟨k, rfl⟩ : ∃ j, k = j + 1 := ⟨k - 1, by omega⟩
  rw [impl_QuadFactors.f, h, Option.bind_some, if_pos (by rfl), impl_QuadFactors.l0, if_neg (by simp)]
theorem impl_two {a b c K P1 Q1 P2 Q2 : Int} (k : Nat) (hk : 3 ≤ k) (h : mathutil_QuadPolyFactors.f k a b c = some (K, [⟨P1, Q1⟩, ⟨P2, Q2⟩], none)) :
    impl_QuadFactors.f k a b c = some (K, [[P1, Q1], [P2, Q2]], true) := by
  obtain ⟨k, rfl⟩ : ∃ j, k = j + 1 := ⟨k - 1, by omega⟩
  obtain ⟨k, rfl⟩ : ∃ j, k = j + 1 := ⟨k - 1, by omega⟩
  obtain ⟨k, rfl⟩ : ∃ j, k = j + 1 := ⟨k - 1, by omega⟩
  rw [impl_QuadFactors.f, h, Option.bind_some, if_pos (by rfl)]
  have l : ((([⟨P1, Q1⟩, ⟨P2, Q2⟩] : List S43).length : Nat) : Int) = 2 := rfl
  show impl_QuadFactors.l0 (k + 1 + 1 + 1) K [] [⟨P1, Q1⟩, ⟨P2, Q2⟩] _ 0 = _
  rw [l, impl_QuadFactors.l0, if_pos (by omega), if_pos (by omega), if_pos (by rw [l]; omega), if_pos (by simp), show wrap64 (0 + 1) = 1 from w64in _ (by omega), impl_QuadFactors.l0, if_pos (by omega), if_pos (by omega), if_pos (by rw [l]; omega), if_pos (by simp), show wrap64 (1 + 1) = 2 from w64in _ (by omega), impl_QuadFactors.l0, if_neg (by omega)]
  rfl
end Go.Proofs.YtpelipdecjooeaaDoor.QmP
