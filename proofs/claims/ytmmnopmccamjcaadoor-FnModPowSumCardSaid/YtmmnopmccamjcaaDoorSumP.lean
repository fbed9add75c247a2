/- Proved (walk): the law of the sum of two exponents holds at all numbers of 64 bits. -/
import Derived.Test.YtmmnopmccamjcaaDoorWalkP
namespace Go.Proofs.YtmmnopmccamjcaaDoor.SumP
open Go Go.Proofs Go.RowKit Go.Proofs.YtmmnopmccamjcaaDoor.PMp Go.Proofs.YtmmnopmccamjcaaDoorW.PrintWords Go.Proofs.YtmmnopmccamjcaaDoorW.PrintMore Go.Proofs.YtmmnopmccamjcaaDoor.WalkP
set_option linter.unusedVariables false
set_option linter.unusedSimpArgs false
theorem sum_is (b e f m : Nat) : b ^ e % m * (b ^ f % m) % m = b ^ (e + f) % m := by rw [← Nat.mul_mod, Nat.pow_add]
theorem times (a b m : Nat) (hm : 0 < m) (hm2 : m < 18446744073709551616) (w : World) :
    Calls Tryd.prog 9 #[.int .u64 a, .int .u64 b, .int .u64 m] w fun e w' => e = .returned (.int .u64 ((a * b % m : Nat) : Int)) ∧ Below w.heap.size w w' :=
  (spec_TimesMod.calls 71 a b m _ w (MpN.times_is a b m hm hm2 71 (by omega))).mono fun _ _ ⟨h, d⟩ => ⟨h, d.below⟩
set_option maxHeartbeats 4000000 in
set_option maxRecDepth 100000 in
theorem skip (b e f m : Nat) (hg : m = 0 ∨ m ≠ 0 ∧ b = 0 ∨ m ≠ 0 ∧ b ≠ 0 ∧ 4611686018427387904 < e ∨ m ≠ 0 ∧ b ≠ 0 ∧ ¬ 4611686018427387904 < e ∧ 4611686018427387904 < f) (w : World) :
    Calls Tryd.prog 4 #[.int .u64 b, .int .u64 e, .int .u64 f, .int .u64 m] w fun ee w' => ee = .returned (.bool true) ∧ Below w.heap.size w w' := by
  have hp := powers
  have hg : ((m : Int) == 0) = true ∨ ((m : Int) == 0) = false ∧ ((b : Int) == 0) = true ∨ ((m : Int) == 0) = false ∧ ((b : Int) == 0) = false ∧ decide (4611686018427387904 < (e : Int)) = true ∨ ((m : Int) == 0) = false ∧ ((b : Int) == 0) = false ∧ decide (4611686018427387904 < (e : Int)) = false ∧ decide (4611686018427387904 < (f : Int)) = true := by
    simp only [beq_iff_eq, beq_eq_false_iff_ne, decide_eq_true_eq, decide_eq_false_iff_not]
    omega
  rcases hg with h1 | ⟨h1, h2⟩ | ⟨h1, h2, h3⟩ | ⟨h1, h2, h3, h4⟩
  all_goals go_enter Tryd.func4, Tryd.ntmps4
  all_goals go_wp2_with (go_at_call 7; refine (hp _).mono ?_; rintro ee w1 ⟨rfl, hB⟩; have KB := Aside0.mk hB; clear hB)
  all_goals go_ret
  all_goals exact ⟨rfl, KB.out⟩
set_option maxHeartbeats 4000000 in
set_option maxRecDepth 100000 in
theorem main (b e f m : Nat) (hb : 0 < b ∧ b < 18446744073709551616) (he : e ≤ 4611686018427387904) (hf : f ≤ 4611686018427387904) (hm : 1 ≤ m ∧ m < 18446744073709551616) (w : World) :
    Calls Tryd.prog 4 #[.int .u64 b, .int .u64 e, .int .u64 f, .int .u64 m] w fun ee w' => ee = .returned (.bool true) ∧ Below w.heap.size w w' := by
  have hp := powers
  have x1 := fun w => impl64 (b := b) (e := e) (m := m) hb.2 (by omega) hm (by omega) w
  have x2 := fun w => impl64 (b := b) (e := f) (m := m) hb.2 (by omega) hm (by omega) w
  have x3 := fun w => impl64 (b := b) (e := e + f) (m := m) hb.2 (by omega) hm (by omega) w
  have ht := fun w => times (b ^ e % m) (b ^ f % m) m (by omega) hm.2 w
  simp only [sum_is] at ht
  have wa : IntKind.u64.wrap ((e : Int) + (f : Int)) = ((e + f : Nat) : Int) := by rw [IntKind.wrap_u64]; omega
  have h1 : ((m : Int) == 0) = false := beq_eq_false_iff_ne.mpr (by omega)
  have h2 : ((b : Int) == 0) = false := beq_eq_false_iff_ne.mpr (by omega)
  have h3 : decide (4611686018427387904 < (e : Int)) = false := decide_eq_false (by omega)
  have h4 : decide (4611686018427387904 < (f : Int)) = false := decide_eq_false (by omega)
  generalize b ^ e % m = p1 at *
  generalize b ^ f % m = p2 at *
  generalize b ^ (e + f) % m = p3 at *
  have X1 := Aside0.mk x1
  have X2 := Aside0.mk x2
  have X3 := Aside0.mk x3
  have HT := Aside0.mk ht
  have HP := Aside0.mk hp
  have G1 : True := trivial
  have G2 : True := trivial
  clear x1 x2 x3 ht hp hb he hf hm
  go_enter Tryd.func4, Tryd.ntmps4
  go_wp2_with (first
    | (go_at_call 8; clear G1; refine (X1.out _).mono ?_; rintro ee w1 ⟨rfl, hB⟩; have K1 := Aside0.mk hB; clear hB)
    | (go_at_call 8; clear G2; refine (X2.out _).mono ?_; rintro ee w2 ⟨rfl, hB⟩; have K2 := Aside0.mk (below_trans K1.out hB); clear hB)
    | (go_at_call 8; refine (X3.out _).mono ?_; rintro ee w3 ⟨rfl, hB⟩; have K3 := Aside0.mk (below_trans K2.out hB); clear hB)
    | (go_at_call 7; refine (HP.out _).mono ?_; rintro ee w4 ⟨rfl, hB⟩; have K4 := Aside0.mk (below_trans K3.out hB); clear hB)
    | (go_at_call 9; refine (HT.out _).mono ?_; rintro ee w5 ⟨rfl, hB⟩; have K5 := Aside0.mk (below_trans K4.out hB); clear hB))
  go_ret
  exact ⟨by simp, K5.out⟩
theorem walk (a0 a1 a2 a3 : Int) (w : World) (w0 : (Lit.int .u64 a0).wf = true) (w1 : (Lit.int .u64 a1).wf = true) (w2 : (Lit.int .u64 a2).wf = true) (w3 : (Lit.int .u64 a3).wf = true) :
    Calls Tryd.prog 4 #[.int .u64 a0, .int .u64 a1, .int .u64 a2, .int .u64 a3] w fun e w' => e = .returned (.bool true) ∧ Below w.heap.size w w' := by
  obtain ⟨p0, q0⟩ := Go.Com.b_u64 w0
  obtain ⟨p1, q1⟩ := Go.Com.b_u64 w1
  obtain ⟨p2, q2⟩ := Go.Com.b_u64 w2
  obtain ⟨p3, q3⟩ := Go.Com.b_u64 w3
  obtain ⟨b, rfl⟩ := Int.eq_ofNat_of_zero_le p0
  obtain ⟨e, rfl⟩ := Int.eq_ofNat_of_zero_le p1
  obtain ⟨f, rfl⟩ := Int.eq_ofNat_of_zero_le p2
  obtain ⟨m, rfl⟩ := Int.eq_ofNat_of_zero_le p3
  by_cases h : m = 0 ∨ m ≠ 0 ∧ b = 0 ∨ m ≠ 0 ∧ b ≠ 0 ∧ 4611686018427387904 < e ∨ m ≠ 0 ∧ b ≠ 0 ∧ ¬ 4611686018427387904 < e ∧ 4611686018427387904 < f
  · exact skip b e f m h w
  · exact main b e f m (by omega) (by omega) (by omega) (by omega) w
end Go.Proofs.YtmmnopmccamjcaaDoor.SumP
