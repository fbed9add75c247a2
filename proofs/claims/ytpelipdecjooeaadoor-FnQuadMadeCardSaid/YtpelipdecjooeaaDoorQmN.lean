/- The law of the made factors, out of what the functions answer: no walk in sight. -/
import Derived.Test.YtpelipdecjooeaaDoorOFnQuadMadex4
import Derived.Test.YtpelipdecjooeaaDoorQmL
import Derived.Test.YtpelipdecjooeaaDoorQmM
namespace Go.Proofs.YtpelipdecjooeaaDoor.QmN
open Go Go.RowKit Go.Proofs.YtpelipdecjooeaaDoor.PFnQuadMade Go.Proofs.YtpelipdecjooeaaDoorW.PrintWords Go.Com Go.Proofs.YtpelipdecjooeaaDoor.DiscW Go.Proofs.YtpelipdecjooeaaDoor.QpdC Go.Proofs.YtpelipdecjooeaaDoor.QmP Go.Proofs.YtpelipdecjooeaaDoor.QmL Go.Proofs.YtpelipdecjooeaaDoor.QmM
set_option linter.unusedVariables false
theorem prod_le {x y : Int} {m n : Nat} (hx : x.natAbs ≤ m) (hy : y.natAbs ≤ n) : (x * y).natAbs ≤ m * n := by
  rw [Int.natAbs_mul]; exact Nat.mul_le_mul hx hy
theorem fit_of {n : Int} {m : Nat} (h : n.natAbs ≤ m) (hm : m ≤ 9223372036854775807) : fits n := by unfold fits; omega
/-- what the law asks of two factors -/
theorem made {a b c K P1 Q1 P2 Q2 : Int} (k : Nat) (ha : a ≠ 0) (ha1 : -1000000 ≤ a ∧ a ≤ 1000000) (hb : -1000000 ≤ b ∧ b ≤ 1000000) (hc : -1000000 ≤ c ∧ c ≤ 1000000)
    (e1 : K * P1 * P2 = a) (e2 : K * P1 * Q2 + K * Q1 * P2 = b) (e3 : K * Q1 * Q2 = c) (hK : -1000000 ≤ K ∧ K ≤ 1000000) (h1 : -10000000 ≤ P1 ∧ P1 ≤ 10000000) (h2 : -10000000 ≤ Q1 ∧ Q1 ≤ 10000000) (h3 : -10000000 ≤ P2 ∧ P2 ≤ 10000000) (h4 : -10000000 ≤ Q2 ∧ Q2 ≤ 10000000) :
    spec_Multiplied.f (k + 12) K [[P1, Q1], [P2, Q2]] = some [a, b, c] := by
  have b1 : (K * P1).natAbs ≤ 1000000 := by
    have g : (K * P1).natAbs ≤ a.natAbs := by
      rw [← e1, Int.natAbs_mul (K * P1)]
      refine Nat.le_mul_of_pos_right _ (Int.natAbs_pos.mpr ?_)
      rintro rfl
      rw [Int.mul_zero] at e1
      omega
    omega
  have b2 := prod_le (x := K) (y := Q1) (m := 1000000) (n := 10000000) (by omega) (by omega)
  have b3 := prod_le (x := K * P1) (y := Q2) (m := 1000000) (n := 10000000) b1 (by omega)
  have r := mult_two K P1 Q1 P2 Q2 k (fit_of b1 (by omega)) (fit_of b2 (by omega)) (by rw [e1]; unfold fits; omega) (fit_of b3 (by omega)) (by unfold fits; omega) (by rw [e2]; unfold fits; omega) (by rw [e3]; unfold fits; omega)
  rw [e1, e2, e3] at r
  exact r
theorem one_of {K m : Int} (hm : 0 < m) (h : K * m = 1) : K = 1 := by
  rcases Int.lt_or_le K 1 with g | g
  · have := Int.mul_le_mul_of_nonneg_right (show K ≤ 0 by omega) (show 0 ≤ m by omega)
    rw [Int.zero_mul] at this
    omega
  · have := Int.mul_le_mul_of_nonneg_left (show 1 ≤ m by omega) (show 0 ≤ K by omega)
    omega
/-- the package's answer for x*x + 3*x + 2 -/
theorem works (k : Nat) (hk : 2000010 < (k : Int)) : ∃ l, impl_QuadFactors.f k 1 3 2 = some (1, l, true) ∧ ((l.length : Int) == 2) = true := by
  rcases main (a := 1) (b := 3) (c := 2) k (by omega) hk (by omega) (by omega) (by omega) (by omega) with ⟨hn, _⟩ | ⟨K, P1, Q1, P2, Q2, q, _, _, hf, e1, _, _, _, _, _, hp, _⟩
  · exact absurd ⟨1, by omega, by unfold disc; rfl⟩ hn
  · obtain rfl : K = 1 := one_of hp (by rw [← Int.mul_assoc]; exact e1)
    exact ⟨_, hf, rfl⟩
theorem j3_out {x y z : Int} (k : Nat) : laws_FnQuadMade.j3 (k + 1) [x, y, z] true true = some true := by rw [laws_FnQuadMade.j3, if_pos rfl]
theorem step {t : List Int} {b : Bool} {p q r s v : Int} (k : Nat) (i : Int) (h0 : 0 ≤ i) (h1 : i < 4) (hv : rd [p, q, r, s] i = v) :
    laws_FnQuadMade.l0 (k + 1) t true b [p, q, r, s] 4 i = laws_FnQuadMade.l0 k t true (b && (decide (v ≥ -100) && decide (v ≤ 100))) [p, q, r, s] 4 (i + 1) := by
  have l : ((([p, q, r, s] : List Int).length : Nat) : Int) = 4 := rfl
  rw [laws_FnQuadMade.l0, if_pos h1, if_pos h0, l, if_pos h1, hv, QmM.w64in (i + 1) (by omega)]
  cases b with
  | false => rw [if_neg (by simp), Bool.false_and]
  | true =>
    rw [if_pos rfl, Bool.true_and]
    by_cases h : v ≥ -100
    · rw [if_pos h, decide_eq_true h, Bool.true_and]
    · rw [if_neg h, decide_eq_false h, Bool.false_and]
theorem loop {x y z p q r s : Int} {b : Bool} (k : Nat) :
    laws_FnQuadMade.l0 (k + 5) [x, y, z] true b [p, q, r, s] 4 0 = (if (b = true ∧ (-100 ≤ p ∧ p ≤ 100) ∧ (-100 ≤ q ∧ q ≤ 100) ∧ (-100 ≤ r ∧ r ≤ 100) ∧ (-100 ≤ s ∧ s ≤ 100)) then laws_FnQuadMade.j3 k [x, y, z] true (x == 0) else laws_FnQuadMade.j3 k [x, y, z] true true) := by
  rw [step (k + 4) 0 (by omega) (by omega) (v := p) rfl, show (0 : Int) + 1 = 1 from rfl, step (k + 3) 1 (by omega) (by omega) (v := q) rfl, show (1 : Int) + 1 = 2 from rfl, step (k + 2) 2 (by omega) (by omega) (v := r) rfl, show (2 : Int) + 1 = 3 from rfl, step (k + 1) 3 (by omega) (by omega) (v := s) rfl, show (3 : Int) + 1 = 4 from rfl]
  rw [laws_FnQuadMade.l0, if_neg (by omega)]
  have e : ((((b && (decide (p ≥ -100) && decide (p ≤ 100))) && (decide (q ≥ -100) && decide (q ≤ 100))) && (decide (r ≥ -100) && decide (r ≤ 100))) && (decide (s ≥ -100) && decide (s ≤ 100))) = true ↔ (b = true ∧ (-100 ≤ p ∧ p ≤ 100) ∧ (-100 ≤ q ∧ q ≤ 100) ∧ (-100 ≤ r ∧ r ≤ 100) ∧ (-100 ≤ s ∧ s ≤ 100)) := by
    simp only [Bool.and_eq_true, decide_eq_true_eq, ge_iff_le]
    constructor
    · rintro ⟨⟨⟨⟨h0, h1⟩, h2⟩, h3⟩, h4⟩; exact ⟨h0, h1, h2, h3, h4⟩
    · rintro ⟨h0, h1, h2, h3, h4⟩; exact ⟨⟨⟨⟨h0, h1⟩, h2⟩, h3⟩, h4⟩
  have r0 : rd [x, y, z] 0 = x := rfl
  rw [if_pos (show (0 : Int) < (([x, y, z] : List Int).length : Int) by simp), r0]
  by_cases h : (b = true ∧ (-100 ≤ p ∧ p ≤ 100) ∧ (-100 ≤ q ∧ q ≤ 100) ∧ (-100 ≤ r ∧ r ≤ 100) ∧ (-100 ≤ s ∧ s ≤ 100))
  · rw [if_pos h, if_pos (e.mpr h)]
  · rw [if_neg h, if_neg (fun g => h (e.mp g))]
theorem j3_in {x y z : Int} (k : Nat) (hk : 5000000 < (k : Int)) (hx : x ≠ 0) (h1 : -1000000 ≤ x ∧ x ≤ 1000000) (h2 : -1000000 ≤ y ∧ y ≤ 1000000) (h3 : -1000000 ≤ z ∧ z ≤ 1000000) (hs : ∃ q, 0 ≤ q ∧ q * q = disc x y z) :
    laws_FnQuadMade.j3 (k + 1) [x, y, z] true false = some true := by
  have r0 : rd [x, y, z] 0 = x := rfl
  have r1 : rd [x, y, z] 1 = y := rfl
  have r2 : rd [x, y, z] 2 = z := rfl
  rw [laws_FnQuadMade.j3, if_neg (by simp), if_pos (by simp), if_pos (by simp), if_pos (by simp), r0, r1, r2]
  rcases main (a := x) (b := y) (c := z) k (by omega) (by omega) hx h1 h2 h3 with ⟨hn, _⟩ | ⟨K, P1, Q1, P2, Q2, q, _, _, hf, e1, e2, e3, _, _, _, _, hK, g1, g2, g3, g4⟩
  · exact absurd hs hn
  · rw [hf, Option.bind_some, if_pos rfl, if_pos rfl]
    obtain ⟨j, rfl⟩ : ∃ j, k = j + 12 := ⟨k - 12, by omega⟩
    rw [made j hx h1 h2 h3 e1 e2 e3 hK g1 g2 g3 g4, Option.bind_some, same_three x y z (j + 8), Option.bind_some]
theorem FnQuadMade : laws_FnQuadMade.Pure := by
  intro n p q r s _ _ _ _ _
  obtain ⟨k, hk⟩ : ∃ k : Nat, 20000010 < (k : Int) := ⟨(20000011 : Int).toNat, by omega⟩
  refine ⟨k + 1 + 5 + 2 + 12, ?_⟩
  obtain ⟨l, hl, hl2⟩ := works (k + 1 + 5 + 2 + 12) (by omega)
  obtain ⟨x, y, z, ht⟩ := mult_any n p q r s (k + 1 + 5 + 2)
  rw [laws_FnQuadMade.f, ht, Option.bind_some, hl, Option.bind_some, if_pos rfl, if_pos rfl]
  show laws_FnQuadMade.j0 (k + 1 + 5 + 2 + 12) n p q r s [x, y, z] ((l.length : Int) == 2) = _
  rw [hl2, laws_FnQuadMade.j0]
  have go : ∀ b : Bool, (b = true → -30 ≤ n ∧ n ≤ 30) → laws_FnQuadMade.j1 (k + 1 + 5 + 13) p q r s [x, y, z] true b = some true := by
    intro b hb
    rw [laws_FnQuadMade.j1, Option.bind_some]
    show laws_FnQuadMade.l0 (k + 13 + 5) [x, y, z] true b [p, q, r, s] 4 0 = _
    rw [loop]
    split
    · rename_i h
      obtain ⟨h0, h1, h2, h3, h4⟩ := h
      have hn := hb h0
      by_cases hx : x = 0
      · rw [show (x == 0) = true from beq_iff_eq.mpr hx]; exact j3_out (k + 12)
      · rw [show (x == 0) = false from beq_eq_false_iff_ne.mpr hx]
        have b1 := prod_le (x := n) (y := p) (m := 30) (n := 100) (by omega) (by omega)
        have b2 := prod_le (x := n) (y := q) (m := 30) (n := 100) (by omega) (by omega)
        have b3 := prod_le (x := n * p) (y := r) (m := 3000) (n := 100) b1 (by omega)
        have b4 := prod_le (x := n * p) (y := s) (m := 3000) (n := 100) b1 (by omega)
        have b5 := prod_le (x := n * q) (y := r) (m := 3000) (n := 100) b2 (by omega)
        have b6 := prod_le (x := n * q) (y := s) (m := 3000) (n := 100) b2 (by omega)
        have e := mult_two n p q r s (k + 1 + 5 + 2) (fit_of b1 (by omega)) (fit_of b2 (by omega)) (fit_of b3 (by omega)) (fit_of b4 (by omega)) (fit_of b5 (by omega)) (by unfold fits; omega) (fit_of b6 (by omega))
        have e9 := ht.symm.trans e
        simp only [Option.some.injEq, List.cons.injEq, and_true] at e9
        obtain ⟨rfl, rfl, rfl⟩ := e9
        refine j3_in (k + 12) (by omega) hx (by omega) (by omega) (by omega) ⟨((n * p * s - n * q * r).natAbs : Int), by omega, ?_⟩
        rw [← Int.natCast_mul, Int.natAbs_mul_self]
        unfold disc
        grind
    · exact j3_out (k + 12)
  by_cases h0 : n ≥ -30
  · rw [if_pos h0]
    by_cases h1 : n ≤ 30
    · rw [decide_eq_true h1]; exact go true (fun _ => ⟨by omega, h1⟩)
    · rw [decide_eq_false h1]; exact go false (fun h => by cases h)
  · rw [if_neg h0]; exact go false (fun h => by cases h)
end Go.Proofs.YtpelipdecjooeaaDoor.QmN
