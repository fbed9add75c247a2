/- Proved (walk): the law of the strong test of numbers of 64 bits holds at all numbers. -/
import Derived.Test.YtmmnopmccamjcaaDoorStrongP
namespace Go.Proofs.YtmmnopmccamjcaaDoor.ProbP
open Go Go.Proofs Go.RowKit Go.Proofs.YtmmnopmccamjcaaDoor.PMp Go.Proofs.YtmmnopmccamjcaaDoorW.PrintWords Go.Proofs.YtmmnopmccamjcaaDoorW.PrintMore Go.Proofs.YtmmnopmccamjcaaDoor.WalkP Go.Proofs.YtmmnopmccamjcaaDoor.ProbN Go.Proofs.YtmmnopmccamjcaaDoor.StrongP
set_option linter.unusedVariables false
set_option linter.unusedSimpArgs false
set_option maxHeartbeats 4000000 in
theorem impl {n a d s : Nat} (hn : 5 ≤ n ∧ n < 18446744073709551616) (ha : 0 < a ∧ a < 4294967296) (hd : n - 1 = d * 2 ^ s) (ho : d % 2 = 1) (hs : s ≤ 64) (w : World) :
    Calls Tryd.prog 5 #[.int .u64 n, .int .u32 a] w fun e w' => e = .returned (.bool (res n (a ^ d % n) s)) ∧ Below w.heap.size w w' := by
  have h := fun w => strong hn ha hd ho hs w
  generalize res n (a ^ d % n) s = r at *
  have H := Aside0.mk h
  clear h hn ha hd ho hs
  go_enter Tryd.func5, Tryd.ntmps5
  go_wp2_with (go_at_call 10; refine (H.out _).mono ?_; rintro e w1 ⟨rfl, hB⟩; have KB := Aside0.mk hB; clear hB)
  go_ret
  exact ⟨rfl, KB.out⟩
theorem seven (w : World) : Calls Tryd.prog 5 #[.int .u64 7, .int .u32 2] w fun e w' => e = .returned (.bool true) ∧ Below w.heap.size w w' :=
  impl (n := 7) (a := 2) (d := 3) (s := 1) (by decide) (by decide) (by decide) (by decide) (by decide) w
theorem both (n a : Nat) (hn : 5 ≤ n ∧ n < 18446744073709551616) (ho : n % 2 = 1) (ha : 0 < a ∧ a < 4294967296) :
    ∃ r : Bool, (∀ w, Calls Tryd.prog 5 #[.int .u64 n, .int .u32 a] w fun e w' => e = .returned (.bool r) ∧ Below w.heap.size w w') ∧ (∀ w, Calls Tryd.prog 6 #[.int .u64 n, .int .u64 a] w fun e w' => e = .returned (.bool r) ∧ Below w.heap.size w w') := by
  obtain ⟨d, s, hd, hod, hs⟩ := split64 (n - 1) (by omega) (by omega)
  refine ⟨res n (a ^ d % n) s, fun w => impl hn ha hd hod hs w, fun w => ?_⟩
  exact (spec_IsStrong.calls 400 n a _ w (spec_strong n a d s hn.1 hn.2 hd hod hs)).mono fun _ _ ⟨h, d⟩ => ⟨h, d.below⟩
set_option maxHeartbeats 4000000 in
set_option maxRecDepth 100000 in
theorem skip (n a : Nat) (hn : n < 18446744073709551616) (ha : a < 4294967296) (hg : n < 5 ∨ ¬ n < 5 ∧ n % 2 = 0 ∨ ¬ n < 5 ∧ n % 2 = 1 ∧ a < 2 ∨ ¬ n < 5 ∧ n % 2 = 1 ∧ ¬ a < 2 ∧ n - 2 < a) (w : World) :
    Calls Tryd.prog 3 #[.int .u64 n, .int .u32 a] w fun ee w' => ee = .returned (.bool true) ∧ Below w.heap.size w w' := by
  have h5 := Aside0.mk seven
  have wa : IntKind.u64.wrap (a : Int) = (a : Int) := by rw [IntKind.wrap_u64]; omega
  have hg : decide ((n : Int) < 5) = true ∨ decide ((n : Int) < 5) = false ∧ ((n : Int) % 2 == 0) = true ∨ decide ((n : Int) < 5) = false ∧ ((n : Int) % 2 == 0) = false ∧ decide ((a : Int) < 2) = true ∨
      decide ((n : Int) < 5) = false ∧ ((n : Int) % 2 == 0) = false ∧ decide ((a : Int) < 2) = false ∧ IntKind.u64.wrap ((n : Int) - 2) = ((n - 2 : Nat) : Int) ∧ n - 2 < a := by
    simp only [beq_iff_eq, beq_eq_false_iff_ne, decide_eq_true_eq, decide_eq_false_iff_not, IntKind.wrap_u64]
    omega
  rcases hg with h1 | ⟨h1, h2⟩ | ⟨h1, h2, h3⟩ | ⟨h1, h2, h3, h4, h6⟩
  all_goals go_enter Tryd.func3, Tryd.ntmps3
  all_goals go_wp2_with (go_at_call 5; refine (h5.out _).mono ?_; rintro ee w1 ⟨rfl, hB⟩; have KB := Aside0.mk hB; clear hB)
  all_goals go_ret
  all_goals exact ⟨rfl, KB.out⟩
set_option maxHeartbeats 4000000 in
set_option maxRecDepth 100000 in
theorem main (n a : Nat) (hn : 5 ≤ n ∧ n < 18446744073709551616) (ho : n % 2 = 1) (ha : 2 ≤ a ∧ a < 4294967296) (han : a ≤ n - 2) (w : World) :
    Calls Tryd.prog 3 #[.int .u64 n, .int .u32 a] w fun ee w' => ee = .returned (.bool true) ∧ Below w.heap.size w w' := by
  have h5 := Aside0.mk seven
  obtain ⟨r, hp, hq⟩ := both n a hn ho (by omega)
  have HP := Aside0.mk hp
  have HQ := Aside0.mk hq
  have wa : IntKind.u64.wrap (a : Int) = (a : Int) := by rw [IntKind.wrap_u64]; omega
  have h1 : decide ((n : Int) < 5) = false := decide_eq_false (by omega)
  have h2 : ((n : Int) % 2 == 0) = false := beq_eq_false_iff_ne.mpr (by omega)
  have h3 : decide ((a : Int) < 2) = false := decide_eq_false (by omega)
  have h4 : IntKind.u64.wrap ((n : Int) - 2) = ((n - 2 : Nat) : Int) := by rw [IntKind.wrap_u64]; omega
  have h6 : ¬ (n - 2 < a) := by omega
  have G1 : True := trivial
  clear hp hq hn ho ha han
  go_enter Tryd.func3, Tryd.ntmps3
  go_wp2_with (first
    | (go_at_call 5; clear G1; refine (h5.out _).mono ?_; rintro ee w1 ⟨rfl, hB⟩; have K1 := Aside0.mk hB; clear hB)
    | (go_at_call 5; refine (HP.out _).mono ?_; rintro ee w2 ⟨rfl, hB⟩; have K2 := Aside0.mk (below_trans K1.out hB); clear hB)
    | (go_at_call 6; refine (HQ.out _).mono ?_; rintro ee w3 ⟨rfl, hB⟩; have K3 := Aside0.mk (below_trans K2.out hB); clear hB))
  go_ret
  exact ⟨by simp, K3.out⟩
theorem walk (a0 a1 : Int) (w : World) (w0 : (Lit.int .u64 a0).wf = true) (w1 : (Lit.int .u32 a1).wf = true) :
    Calls Tryd.prog 3 #[.int .u64 a0, .int .u32 a1] w fun e w' => e = .returned (.bool true) ∧ Below w.heap.size w w' := by
  obtain ⟨p0, q0⟩ := Go.Com.b_u64 w0
  obtain ⟨p1, q1⟩ := Go.Com.b_u32 w1
  obtain ⟨n, rfl⟩ := Int.eq_ofNat_of_zero_le p0
  obtain ⟨a, rfl⟩ := Int.eq_ofNat_of_zero_le p1
  by_cases h : n < 5 ∨ ¬ n < 5 ∧ n % 2 = 0 ∨ ¬ n < 5 ∧ n % 2 = 1 ∧ a < 2 ∨ ¬ n < 5 ∧ n % 2 = 1 ∧ ¬ a < 2 ∧ n - 2 < a
  · exact skip n a (by omega) (by omega) h w
  · exact main n a (by omega) (by omega) (by omega) (by omega) w
end Go.Proofs.YtmmnopmccamjcaaDoor.ProbP
