/- Proved (walk): the law of the power by a modulus of all widths holds at every width and all numbers of 64 bits. -/
import Derived.Test.YtmmnopmccamjcaaGreatDoorWalkP
import Derived.Test.YtmmnopmccamjcaaGreatDoorLowP
namespace Go.Proofs.YtmmnopmccamjcaaGreatDoor.PowL
open Go Go.Proofs Go.RowKit Go.Proofs.YtmmnopmccamjcaaGreatDoor.PMp Go.Proofs.YtmmnopmccamjcaaGreatDoor.PLow Go.Proofs.YtmmnopmccamjcaaGreatDoorW.PrintWords Go.Proofs.YtmmnopmccamjcaaGreatDoorW.PrintMore Go.Proofs.YtmmnopmccamjcaaGreatDoor.WalkP
set_option linter.unusedVariables false
set_option linter.unusedSimpArgs false
set_option maxHeartbeats 4000000 in
set_option maxRecDepth 100000 in
theorem none (j b e m : Int) (hw : spec_IsWidth.f j = some false) (w : World) :
    Calls Tryz.prog 3 #[.int .i64 j, .int .u64 b, .int .u64 e, .int .u64 m] w fun ee w' => ee = .returned (.bool true) ∧ Below w.heap.size w w' := by
  have h4 := fun w => spec_IsWidth.calls j _ w hw
  have hp := powers
  go_enter Tryz.func3, Tryz.ntmps3
  go_wp2_with (first
    | (go_at_call 4; refine (h4 _).mono ?_; rintro ee w1 ⟨rfl, hD⟩; have KD := Aside0.mk hD.below; clear hD)
    | (go_at_call 5; refine (hp _).mono ?_; rintro ee w2 ⟨rfl, hB⟩; have KB := Aside0.mk (below_trans KD.out hB); clear hB))
  go_ret
  exact ⟨rfl, KB.out⟩
set_option maxHeartbeats 4000000 in
set_option maxRecDepth 100000 in
theorem skip (j : Int) (b e m b' e' m' : Nat) (hw : spec_IsWidth.f j = some true) (lb : spec_Low.f j b = some (b' : Int)) (le : spec_Low.f j e = some (e' : Int)) (lm : spec_Low.f j m = some (m' : Int)) (hg : m' = 0 ∨ m' ≠ 0 ∧ b' = 0 ∧ e' = 0) (w : World) :
    Calls Tryz.prog 3 #[.int .i64 j, .int .u64 b, .int .u64 e, .int .u64 m] w fun ee w' => ee = .returned (.bool true) ∧ Below w.heap.size w w' := by
  have h4 := Aside0.mk (fun w => spec_IsWidth.calls j _ w hw)
  have hp := Aside0.mk powers
  have x1 := Aside0.mk (fun w => spec_Low.calls j b _ w lb)
  have x2 := Aside0.mk (fun w => spec_Low.calls j e _ w le)
  have x3 := Aside0.mk (fun w => spec_Low.calls j m _ w lm)
  have G1 : True := trivial
  have G2 : True := trivial
  have hg : ((m' : Int) == 0) = true ∨ ((m' : Int) == 0) = false ∧ ((b' : Int) == 0) = true ∧ ((e' : Int) == 0) = true := by
    simp only [beq_iff_eq, beq_eq_false_iff_ne]
    omega
  clear hw lb le lm
  rcases hg with h1 | ⟨h1, h2, h3⟩
  all_goals go_enter Tryz.func3, Tryz.ntmps3
  all_goals go_wp2_with (first
    | (go_at_call 4; refine (h4.out _).mono ?_; rintro ee w1 ⟨rfl, hD⟩; have KD := Aside0.mk hD.below; clear hD)
    | (go_at_call 6; clear G1; refine (x1.out _).mono ?_; rintro ee w2 ⟨rfl, hD⟩; have K2 := Aside0.mk (below_trans KD.out hD.below); clear hD)
    | (go_at_call 6; clear G2; refine (x2.out _).mono ?_; rintro ee w3 ⟨rfl, hD⟩; have K3 := Aside0.mk (below_trans K2.out hD.below); clear hD)
    | (go_at_call 6; refine (x3.out _).mono ?_; rintro ee w4 ⟨rfl, hD⟩; have K4 := Aside0.mk (below_trans K3.out hD.below); clear hD)
    | (go_at_call 5; refine (hp.out _).mono ?_; rintro ee w5 ⟨rfl, hB⟩; have KB := Aside0.mk (below_trans K4.out hB); clear hB))
  all_goals go_ret
  all_goals exact ⟨rfl, KB.out⟩
set_option maxHeartbeats 4000000 in
set_option maxRecDepth 100000 in
theorem main (j : Int) (b e m b' e' m' : Nat) (hw : spec_IsWidth.f j = some true) (lb : spec_Low.f j b = some (b' : Int)) (le : spec_Low.f j e = some (e' : Int)) (lm : spec_Low.f j m = some (m' : Int))
    (hm : 1 ≤ m' ∧ m' < 18446744073709551616) (hbe : ¬ (b' = 0 ∧ e' = 0)) (he : e' < 18446744073709551616)
    (hi : ∀ w, Calls Tryz.prog 7 #[.int .i64 j, .int .u64 b', .int .u64 e', .int .u64 m'] w fun ee w' => ee = .returned (.tuple #[.int .u64 ((b' ^ e' % m' : Nat) : Int), .bool true]) ∧ Below w.heap.size w w') (w : World) :
    Calls Tryz.prog 3 #[.int .i64 j, .int .u64 b, .int .u64 e, .int .u64 m] w fun ee w' => ee = .returned (.bool true) ∧ Below w.heap.size w w' := by
  have h4 := Aside0.mk (fun w => spec_IsWidth.calls j _ w hw)
  have hp := Aside0.mk powers
  have x1 := Aside0.mk (fun w => spec_Low.calls j b _ w lb)
  have x2 := Aside0.mk (fun w => spec_Low.calls j e _ w le)
  have x3 := Aside0.mk (fun w => spec_Low.calls j m _ w lm)
  have h8 := Aside0.mk (fun w => spec_PowerMod.calls 141 b' e' m' _ w (MpN.power_is b' e' m' (by omega) hm.2 he 141 (by omega)))
  have h7 := Aside0.mk hi
  have G1 : True := trivial
  have G2 : True := trivial
  have h1 : ((m' : Int) == 0) = false := beq_eq_false_iff_ne.mpr (by omega)
  have hg : ((b' : Int) == 0) = false ∨ ((b' : Int) == 0) = true ∧ ((e' : Int) == 0) = false := by
    simp only [beq_iff_eq, beq_eq_false_iff_ne]
    omega
  clear hw lb le lm hi hbe hm he
  generalize b' ^ e' % m' = p at *
  rcases hg with h2 | ⟨h2, h3⟩
  all_goals go_enter Tryz.func3, Tryz.ntmps3
  all_goals go_wp2_with (first
    | (go_at_call 4; refine (h4.out _).mono ?_; rintro ee w1 ⟨rfl, hD⟩; have KD := Aside0.mk hD.below; clear hD)
    | (go_at_call 6; clear G1; refine (x1.out _).mono ?_; rintro ee w2 ⟨rfl, hD⟩; have K2 := Aside0.mk (below_trans KD.out hD.below); clear hD)
    | (go_at_call 6; clear G2; refine (x2.out _).mono ?_; rintro ee w3 ⟨rfl, hD⟩; have K3 := Aside0.mk (below_trans K2.out hD.below); clear hD)
    | (go_at_call 6; refine (x3.out _).mono ?_; rintro ee w4 ⟨rfl, hD⟩; have K4 := Aside0.mk (below_trans K3.out hD.below); clear hD)
    | (go_at_call 7; refine (h7.out _).mono ?_; rintro ee w5 ⟨rfl, hB⟩; have K5 := Aside0.mk (below_trans K4.out hB); clear hB)
    | (go_at_call 5; refine (hp.out _).mono ?_; rintro ee w6 ⟨rfl, hB⟩; have K6 := Aside0.mk (below_trans K5.out hB); clear hB)
    | (go_at_call 8; refine (h8.out _).mono ?_; rintro ee w7 ⟨rfl, hD⟩; have K7 := Aside0.mk (below_trans K6.out hD.below); clear hD))
  all_goals go_ret
  all_goals exact ⟨by simp, K7.out⟩
theorem at_width (j : Int) (b e m b' e' m' : Nat) (hw : spec_IsWidth.f j = some true) (lb : spec_Low.f j b = some (b' : Int)) (le : spec_Low.f j e = some (e' : Int)) (lm : spec_Low.f j m = some (m' : Int))
    (hm : m' < 18446744073709551616) (he : e' < 18446744073709551616)
    (hi : 1 ≤ m' → ¬ (b' = 0 ∧ e' = 0) → ∀ w, Calls Tryz.prog 7 #[.int .i64 j, .int .u64 b', .int .u64 e', .int .u64 m'] w fun ee w' => ee = .returned (.tuple #[.int .u64 ((b' ^ e' % m' : Nat) : Int), .bool true]) ∧ Below w.heap.size w w') (w : World) :
    Calls Tryz.prog 3 #[.int .i64 j, .int .u64 b, .int .u64 e, .int .u64 m] w fun ee w' => ee = .returned (.bool true) ∧ Below w.heap.size w w' := by
  by_cases h : m' = 0 ∨ m' ≠ 0 ∧ b' = 0 ∧ e' = 0
  · exact skip j b e m b' e' m' hw lb le lm h w
  · have h1 : 1 ≤ m' := by omega
    have h2 : ¬ (b' = 0 ∧ e' = 0) := by omega
    exact main j b e m b' e' m' hw lb le lm ⟨h1, hm⟩ h2 he (hi h1 h2) w
theorem walk (a0 a1 a2 a3 : Int) (w : World) (w0 : (Lit.int .i64 a0).wf = true) (w1 : (Lit.int .u64 a1).wf = true) (w2 : (Lit.int .u64 a2).wf = true) (w3 : (Lit.int .u64 a3).wf = true) :
    Calls Tryz.prog 3 #[.int .i64 a0, .int .u64 a1, .int .u64 a2, .int .u64 a3] w fun e w' => e = .returned (.bool true) ∧ Below w.heap.size w w' := by
  obtain ⟨p1, q1⟩ := Go.Com.b_u64 w1
  obtain ⟨p2, q2⟩ := Go.Com.b_u64 w2
  obtain ⟨p3, q3⟩ := Go.Com.b_u64 w3
  obtain ⟨b, rfl⟩ := Int.eq_ofNat_of_zero_le p1
  obtain ⟨e, rfl⟩ := Int.eq_ofNat_of_zero_le p2
  obtain ⟨m, rfl⟩ := Int.eq_ofNat_of_zero_le p3
  have l8 := fun n : Nat => Nat.mod_lt n (show 0 < 256 by decide)
  have l16 := fun n : Nat => Nat.mod_lt n (show 0 < 65536 by decide)
  have l32 := fun n : Nat => Nat.mod_lt n (show 0 < 4294967296 by decide)
  by_cases h : a0 = 8 ∨ a0 = 16 ∨ a0 = 32 ∨ a0 = 64
  · have hw := width a0 h
    rcases h with rfl | rfl | rfl | rfl
    · exact at_width 8 b e m _ _ _ hw (low8 b) (low8 e) (low8 m) (by have := l8 m; omega) (by have := l8 e; omega) (fun h1 h2 w => impl8 (l8 b) (l8 e) ⟨h1, l8 m⟩ h2 w) w
    · exact at_width 16 b e m _ _ _ hw (low16 b) (low16 e) (low16 m) (by have := l16 m; omega) (by have := l16 e; omega) (fun h1 h2 w => impl16 (l16 b) (l16 e) ⟨h1, l16 m⟩ h2 w) w
    · exact at_width 32 b e m _ _ _ hw (low32 b) (low32 e) (low32 m) (by have := l32 m; omega) (by have := l32 e; omega) (fun h1 h2 w => impl32 (l32 b) (l32 e) ⟨h1, l32 m⟩ h2 w) w
    · exact at_width 64 b e m _ _ _ hw (low64 b (by omega)) (low64 e (by omega)) (low64 m (by omega)) (by omega) (by omega) (fun h1 h2 w => impl64 (by omega) (by omega) ⟨h1, by omega⟩ h2 w) w
  · exact none a0 b e m (no_width a0 h) w
end Go.Proofs.YtmmnopmccamjcaaGreatDoor.PowL
