/- The functions that the law 'FnMulOverflow' reaches, each with its contract. -/
import Derived.Test.YtfnimhjabbnldaaOFnMulOverflowx0
import Derived.Test.YtfnimhjabbnldaaOFnMulOverflowx1
import Derived.Test.YtfnimhjabbnldaaOFnMulOverflowx2
import Derived.Test.YtfnimhjabbnldaaOFnMulOverflowx3
import Derived.Test.YtfnimhjabbnldaaWide
namespace Go.Proofs.Ytfnimhjabbnldaa.PFnMulOverflow
open Go.RowKit Go.Proofs.YtfnimhjabbnldaaW.PrintWords Go.Proofs.YtfnimhjabbnldaaW.PrintLast Go.Proofs.YtfnimhjabbnldaaW.PrintMore
attribute [local go_sem] max2_int min2_int max_two min_two max_three min_three max_four min_four   -- for this text's walks alone
set_option linter.unusedVariables false
set_option linter.unusedSimpArgs false

attribute [local go_sem high] eqA26
/-! ### laws_adds: function 24 -/
def laws_adds.f (k : Nat)  : Option (Bool) := (impl_AddOverflow.f k 8 3 4).bind fun bt126 => ((impl_SubOverflow.f k 8 9 4).bind fun bt128 => ((impl_MulOverflow.f k 8 3 4).bind fun bt130 => (if bt126.1 = 7 then (if bt126.2 = true then (some false) else (if bt128.1 = 5 then (if bt128.2 = true then (some false) else (if bt130.1 = 12 then (some (!bt130.2)) else (some false))) else (some false))) else (some false))))
theorem laws_adds.mono : ∀ k, LeO (laws_adds.f k ) (laws_adds.f (k + 1) ) := by
  intro  k
  unfold laws_adds.f
  repeat' first
      | (with_reducible exact impl_AddOverflow.mono _ _ _ _)
      | (with_reducible exact impl_MulOverflow.mono _ _ _ _)
      | (with_reducible exact impl_SubOverflow.mono _ _ _ _)
      | (with_reducible exact LeO.refl _)
      | (with_reducible exact LeO.none _)
      | (with_reducible refine LeO.ite ?_ ?_)
      | (with_reducible refine LeO.bind ?_ (fun _ => ?_))
      | exact impl_AddOverflow.mono _ _ _ _
      | exact impl_MulOverflow.mono _ _ _ _
      | exact impl_SubOverflow.mono _ _ _ _
      | exact LeO.none _
      | refine LeO.ite ?_ ?_
      | refine LeO.bind ?_ (fun _ => ?_)
set_option maxHeartbeats 8000000 in
set_option maxRecDepth 100000 in
theorem laws_adds.calls (k : Nat)  (r : Bool) (w : World) (h : laws_adds.f k  = some r) :
    Calls Try.prog 24 #[] w fun e w' => e = .returned (.bool r) ∧ Drawn0 w w' := by
  have H : ((impl_AddOverflow.f k 8 3 4).bind fun bt126 => ((impl_SubOverflow.f k 8 9 4).bind fun bt128 => ((impl_MulOverflow.f k 8 3 4).bind fun bt130 => (if bt126.1 = 7 then (if bt126.2 = true then (some false) else (if bt128.1 = 5 then (if bt128.2 = true then (some false) else (if bt130.1 = 12 then (some (!bt130.2)) else (some false))) else (some false))) else (some false))))) = some r := h
  clear h
  replace H := Option.bind_eq_some_iff.mp H
  obtain ⟨⟨t126, t127⟩, A10, H⟩ := H
  replace H : ((impl_SubOverflow.f k 8 9 4).bind fun bt128 => ((impl_MulOverflow.f k 8 3 4).bind fun bt130 => (if t126 = 7 then (if t127 = true then (some false) else (if bt128.1 = 5 then (if bt128.2 = true then (some false) else (if bt130.1 = 12 then (some (!bt130.2)) else (some false))) else (some false))) else (some false)))) = some r := H
  have A1 := Aside0.mk A10
  clear A10
  replace H := Option.bind_eq_some_iff.mp H
  obtain ⟨⟨t128, t129⟩, A20, H⟩ := H
  replace H : ((impl_MulOverflow.f k 8 3 4).bind fun bt130 => (if t126 = 7 then (if t127 = true then (some false) else (if t128 = 5 then (if t129 = true then (some false) else (if bt130.1 = 12 then (some (!bt130.2)) else (some false))) else (some false))) else (some false))) = some r := H
  have A2 := Aside0.mk A20
  clear A20
  replace H := Option.bind_eq_some_iff.mp H
  obtain ⟨⟨t130, t131⟩, A30, H⟩ := H
  replace H : (if t126 = 7 then (if t127 = true then (some false) else (if t128 = 5 then (if t129 = true then (some false) else (if t130 = 12 then (some (!t131)) else (some false))) else (some false))) else (some false)) = some r := H
  have A3 := Aside0.mk A30
  clear A30
  by_cases c4 : t126 = 7
  · rw [if_pos c4] at H
    have c4b0 : (t126 == 7) = true := beq_iff_eq.mpr c4
    have c4b1 : (t126 != 7) = false := bne_eq_false_iff_eq.mpr c4
    clear c4
    by_cases c5 : t127 = true
    · subst c5
      have H1 : (some false) = some r := by rw [if_pos rfl] at H; exact H
      clear H
      have H := H1
      clear H1
      obtain rfl := Option.some.inj H
      go_enter Try.func24, Try.ntmps24
      go_wp2_with (first | ((with_reducible refine gate_callee (f := 26) rfl ?_); refine goesL_ (some 8) rfl rfl Try.func26 (by kernel_rfl) rfl #[.int .i64 8, .int .i64 3, .int .i64 4] rfl (by (try simp only [List.map_toArray, List.map_cons, List.map_nil]); first | done | rfl | (simp only [List.length_drop, List.length_take]; rfl)) ?_; (with_reducible refine (impl_AddOverflow.calls k 8 3 4 t126 true _ A1.out).mono ?_); rintro e w' ⟨rfl, ⟨nd, rfl⟩⟩; refine ⟨_, rfl, ?_⟩) | ((with_reducible refine gate_callee (f := 30) rfl ?_); refine goesL_ (some 12) rfl rfl Try.func30 (by kernel_rfl) rfl #[.int .i64 8, .int .i64 9, .int .i64 4] rfl (by (try simp only [List.map_toArray, List.map_cons, List.map_nil]); first | done | rfl | (simp only [List.length_drop, List.length_take]; rfl)) ?_; (with_reducible refine (impl_SubOverflow.calls k 8 9 4 t128 t129 _ A2.out).mono ?_); rintro e w' ⟨rfl, ⟨nd, rfl⟩⟩; refine ⟨_, rfl, ?_⟩) | ((with_reducible refine gate_callee (f := 28) rfl ?_); refine goesL_ (some 16) rfl rfl Try.func28 (by kernel_rfl) rfl #[.int .i64 8, .int .i64 3, .int .i64 4] rfl (by (try simp only [List.map_toArray, List.map_cons, List.map_nil]); first | done | rfl | (simp only [List.length_drop, List.length_take]; rfl)) ?_; (with_reducible refine (impl_MulOverflow.calls k 8 3 4 t130 t131 _ A3.out).mono ?_); rintro e w' ⟨rfl, ⟨nd, rfl⟩⟩; refine ⟨_, rfl, ?_⟩))
      go_ret
      exact ⟨by first | rfl | (simp; done) | (simp [*]; done), by repeat (first | exact Drawn0.refl _ | apply Drawn0.step)⟩
    · replace c5 := Bool.eq_false_iff.mpr c5
      subst c5
      have H1 : (if t128 = 5 then (if t129 = true then (some false) else (if t130 = 12 then (some (!t131)) else (some false))) else (some false)) = some r := by rw [if_neg (show ¬ (false = true) by decide)] at H; exact H
      clear H
      have H := H1
      clear H1
      by_cases c6 : t128 = 5
      · rw [if_pos c6] at H
        have c6b0 : (t128 == 5) = true := beq_iff_eq.mpr c6
        have c6b1 : (t128 != 5) = false := bne_eq_false_iff_eq.mpr c6
        clear c6
        by_cases c7 : t129 = true
        · subst c7
          have H1 : (some false) = some r := by rw [if_pos rfl] at H; exact H
          clear H
          have H := H1
          clear H1
          obtain rfl := Option.some.inj H
          go_enter Try.func24, Try.ntmps24
          go_wp2_with (first | ((with_reducible refine gate_callee (f := 26) rfl ?_); refine goesL_ (some 8) rfl rfl Try.func26 (by kernel_rfl) rfl #[.int .i64 8, .int .i64 3, .int .i64 4] rfl (by (try simp only [List.map_toArray, List.map_cons, List.map_nil]); first | done | rfl | (simp only [List.length_drop, List.length_take]; rfl)) ?_; (with_reducible refine (impl_AddOverflow.calls k 8 3 4 t126 false _ A1.out).mono ?_); rintro e w' ⟨rfl, ⟨nd, rfl⟩⟩; refine ⟨_, rfl, ?_⟩) | ((with_reducible refine gate_callee (f := 30) rfl ?_); refine goesL_ (some 12) rfl rfl Try.func30 (by kernel_rfl) rfl #[.int .i64 8, .int .i64 9, .int .i64 4] rfl (by (try simp only [List.map_toArray, List.map_cons, List.map_nil]); first | done | rfl | (simp only [List.length_drop, List.length_take]; rfl)) ?_; (with_reducible refine (impl_SubOverflow.calls k 8 9 4 t128 true _ A2.out).mono ?_); rintro e w' ⟨rfl, ⟨nd, rfl⟩⟩; refine ⟨_, rfl, ?_⟩) | ((with_reducible refine gate_callee (f := 28) rfl ?_); refine goesL_ (some 16) rfl rfl Try.func28 (by kernel_rfl) rfl #[.int .i64 8, .int .i64 3, .int .i64 4] rfl (by (try simp only [List.map_toArray, List.map_cons, List.map_nil]); first | done | rfl | (simp only [List.length_drop, List.length_take]; rfl)) ?_; (with_reducible refine (impl_MulOverflow.calls k 8 3 4 t130 t131 _ A3.out).mono ?_); rintro e w' ⟨rfl, ⟨nd, rfl⟩⟩; refine ⟨_, rfl, ?_⟩))
          go_ret
          exact ⟨by first | rfl | (simp; done) | (simp [*]; done), by repeat (first | exact Drawn0.refl _ | apply Drawn0.step)⟩
        · replace c7 := Bool.eq_false_iff.mpr c7
          subst c7
          have H1 : (if t130 = 12 then (some (!t131)) else (some false)) = some r := by rw [if_neg (show ¬ (false = true) by decide)] at H; exact H
          clear H
          have H := H1
          clear H1
          by_cases c8 : t130 = 12
          · rw [if_pos c8] at H
            have c8b0 : (t130 == 12) = true := beq_iff_eq.mpr c8
            have c8b1 : (t130 != 12) = false := bne_eq_false_iff_eq.mpr c8
            clear c8
            obtain rfl := Option.some.inj H
            go_enter Try.func24, Try.ntmps24
            go_wp2_with (first | ((with_reducible refine gate_callee (f := 26) rfl ?_); refine goesL_ (some 8) rfl rfl Try.func26 (by kernel_rfl) rfl #[.int .i64 8, .int .i64 3, .int .i64 4] rfl (by (try simp only [List.map_toArray, List.map_cons, List.map_nil]); first | done | rfl | (simp only [List.length_drop, List.length_take]; rfl)) ?_; (with_reducible refine (impl_AddOverflow.calls k 8 3 4 t126 false _ A1.out).mono ?_); rintro e w' ⟨rfl, ⟨nd, rfl⟩⟩; refine ⟨_, rfl, ?_⟩) | ((with_reducible refine gate_callee (f := 30) rfl ?_); refine goesL_ (some 12) rfl rfl Try.func30 (by kernel_rfl) rfl #[.int .i64 8, .int .i64 9, .int .i64 4] rfl (by (try simp only [List.map_toArray, List.map_cons, List.map_nil]); first | done | rfl | (simp only [List.length_drop, List.length_take]; rfl)) ?_; (with_reducible refine (impl_SubOverflow.calls k 8 9 4 t128 false _ A2.out).mono ?_); rintro e w' ⟨rfl, ⟨nd, rfl⟩⟩; refine ⟨_, rfl, ?_⟩) | ((with_reducible refine gate_callee (f := 28) rfl ?_); refine goesL_ (some 16) rfl rfl Try.func28 (by kernel_rfl) rfl #[.int .i64 8, .int .i64 3, .int .i64 4] rfl (by (try simp only [List.map_toArray, List.map_cons, List.map_nil]); first | done | rfl | (simp only [List.length_drop, List.length_take]; rfl)) ?_; (with_reducible refine (impl_MulOverflow.calls k 8 3 4 t130 t131 _ A3.out).mono ?_); rintro e w' ⟨rfl, ⟨nd, rfl⟩⟩; refine ⟨_, rfl, ?_⟩))
            go_ret
            exact ⟨by first | rfl | (simp; done) | (simp [*]; done), by repeat (first | exact Drawn0.refl _ | apply Drawn0.step)⟩
          · rw [if_neg c8] at H
            have c8b0 : (t130 == 12) = false := beq_eq_false_iff_ne.mpr c8
            have c8b1 : (t130 != 12) = true := bne_iff_ne.mpr c8
            obtain rfl := Option.some.inj H
            go_enter Try.func24, Try.ntmps24
            go_wp2_with (first | ((with_reducible refine gate_callee (f := 26) rfl ?_); refine goesL_ (some 8) rfl rfl Try.func26 (by kernel_rfl) rfl #[.int .i64 8, .int .i64 3, .int .i64 4] rfl (by (try simp only [List.map_toArray, List.map_cons, List.map_nil]); first | done | rfl | (simp only [List.length_drop, List.length_take]; rfl)) ?_; (with_reducible refine (impl_AddOverflow.calls k 8 3 4 t126 false _ A1.out).mono ?_); rintro e w' ⟨rfl, ⟨nd, rfl⟩⟩; refine ⟨_, rfl, ?_⟩) | ((with_reducible refine gate_callee (f := 30) rfl ?_); refine goesL_ (some 12) rfl rfl Try.func30 (by kernel_rfl) rfl #[.int .i64 8, .int .i64 9, .int .i64 4] rfl (by (try simp only [List.map_toArray, List.map_cons, List.map_nil]); first | done | rfl | (simp only [List.length_drop, List.length_take]; rfl)) ?_; (with_reducible refine (impl_SubOverflow.calls k 8 9 4 t128 false _ A2.out).mono ?_); rintro e w' ⟨rfl, ⟨nd, rfl⟩⟩; refine ⟨_, rfl, ?_⟩) | ((with_reducible refine gate_callee (f := 28) rfl ?_); refine goesL_ (some 16) rfl rfl Try.func28 (by kernel_rfl) rfl #[.int .i64 8, .int .i64 3, .int .i64 4] rfl (by (try simp only [List.map_toArray, List.map_cons, List.map_nil]); first | done | rfl | (simp only [List.length_drop, List.length_take]; rfl)) ?_; (with_reducible refine (impl_MulOverflow.calls k 8 3 4 t130 t131 _ A3.out).mono ?_); rintro e w' ⟨rfl, ⟨nd, rfl⟩⟩; refine ⟨_, rfl, ?_⟩))
            go_ret
            exact ⟨by first | rfl | (simp; done) | (simp [*]; done), by repeat (first | exact Drawn0.refl _ | apply Drawn0.step)⟩
      · rw [if_neg c6] at H
        have c6b0 : (t128 == 5) = false := beq_eq_false_iff_ne.mpr c6
        have c6b1 : (t128 != 5) = true := bne_iff_ne.mpr c6
        obtain rfl := Option.some.inj H
        go_enter Try.func24, Try.ntmps24
        go_wp2_with (first | ((with_reducible refine gate_callee (f := 26) rfl ?_); refine goesL_ (some 8) rfl rfl Try.func26 (by kernel_rfl) rfl #[.int .i64 8, .int .i64 3, .int .i64 4] rfl (by (try simp only [List.map_toArray, List.map_cons, List.map_nil]); first | done | rfl | (simp only [List.length_drop, List.length_take]; rfl)) ?_; (with_reducible refine (impl_AddOverflow.calls k 8 3 4 t126 false _ A1.out).mono ?_); rintro e w' ⟨rfl, ⟨nd, rfl⟩⟩; refine ⟨_, rfl, ?_⟩) | ((with_reducible refine gate_callee (f := 30) rfl ?_); refine goesL_ (some 12) rfl rfl Try.func30 (by kernel_rfl) rfl #[.int .i64 8, .int .i64 9, .int .i64 4] rfl (by (try simp only [List.map_toArray, List.map_cons, List.map_nil]); first | done | rfl | (simp only [List.length_drop, List.length_take]; rfl)) ?_; (with_reducible refine (impl_SubOverflow.calls k 8 9 4 t128 t129 _ A2.out).mono ?_); rintro e w' ⟨rfl, ⟨nd, rfl⟩⟩; refine ⟨_, rfl, ?_⟩) | ((with_reducible refine gate_callee (f := 28) rfl ?_); refine goesL_ (some 16) rfl rfl Try.func28 (by kernel_rfl) rfl #[.int .i64 8, .int .i64 3, .int .i64 4] rfl (by (try simp only [List.map_toArray, List.map_cons, List.map_nil]); first | done | rfl | (simp only [List.length_drop, List.length_take]; rfl)) ?_; (with_reducible refine (impl_MulOverflow.calls k 8 3 4 t130 t131 _ A3.out).mono ?_); rintro e w' ⟨rfl, ⟨nd, rfl⟩⟩; refine ⟨_, rfl, ?_⟩))
        go_ret
        exact ⟨by first | rfl | (simp; done) | (simp [*]; done), by repeat (first | exact Drawn0.refl _ | apply Drawn0.step)⟩
  · rw [if_neg c4] at H
    have c4b0 : (t126 == 7) = false := beq_eq_false_iff_ne.mpr c4
    have c4b1 : (t126 != 7) = true := bne_iff_ne.mpr c4
    obtain rfl := Option.some.inj H
    go_enter Try.func24, Try.ntmps24
    go_wp2_with (first | ((with_reducible refine gate_callee (f := 26) rfl ?_); refine goesL_ (some 8) rfl rfl Try.func26 (by kernel_rfl) rfl #[.int .i64 8, .int .i64 3, .int .i64 4] rfl (by (try simp only [List.map_toArray, List.map_cons, List.map_nil]); first | done | rfl | (simp only [List.length_drop, List.length_take]; rfl)) ?_; (with_reducible refine (impl_AddOverflow.calls k 8 3 4 t126 t127 _ A1.out).mono ?_); rintro e w' ⟨rfl, ⟨nd, rfl⟩⟩; refine ⟨_, rfl, ?_⟩) | ((with_reducible refine gate_callee (f := 30) rfl ?_); refine goesL_ (some 12) rfl rfl Try.func30 (by kernel_rfl) rfl #[.int .i64 8, .int .i64 9, .int .i64 4] rfl (by (try simp only [List.map_toArray, List.map_cons, List.map_nil]); first | done | rfl | (simp only [List.length_drop, List.length_take]; rfl)) ?_; (with_reducible refine (impl_SubOverflow.calls k 8 9 4 t128 t129 _ A2.out).mono ?_); rintro e w' ⟨rfl, ⟨nd, rfl⟩⟩; refine ⟨_, rfl, ?_⟩) | ((with_reducible refine gate_callee (f := 28) rfl ?_); refine goesL_ (some 16) rfl rfl Try.func28 (by kernel_rfl) rfl #[.int .i64 8, .int .i64 3, .int .i64 4] rfl (by (try simp only [List.map_toArray, List.map_cons, List.map_nil]); first | done | rfl | (simp only [List.length_drop, List.length_take]; rfl)) ?_; (with_reducible refine (impl_MulOverflow.calls k 8 3 4 t130 t131 _ A3.out).mono ?_); rintro e w' ⟨rfl, ⟨nd, rfl⟩⟩; refine ⟨_, rfl, ?_⟩))
    go_ret
    exact ⟨by first | rfl | (simp; done) | (simp [*]; done), by repeat (first | exact Drawn0.refl _ | apply Drawn0.step)⟩

/-! ### spec_Signed: function 25 -/
def spec_Signed.f (a0 : Int) (a1 : Int) : Option (Int) := if 0 ≤ (wrap64 (64 - a0)) then (some (shr .i64 (shl .i64 a1 (wrap64 (64 - a0))) (wrap64 (64 - a0)))) else (none)
set_option maxHeartbeats 8000000 in
set_option maxRecDepth 100000 in
theorem spec_Signed.calls (a0 : Int) (a1 : Int) (r : Int) (w : World) (h : spec_Signed.f a0 a1 = some r) :
    Calls Try.prog 25 #[.int .i64 a0, .int .i64 a1] w fun e w' => e = .returned (.int .i64 r) ∧ Drawn0 w w' := by
  have H : (if 0 ≤ (wrap64 (64 - a0)) then (some (shr .i64 (shl .i64 a1 (wrap64 (64 - a0))) (wrap64 (64 - a0)))) else (none)) = some r := h
  clear h
  obtain ⟨ji3, hji3⟩ : ∃ j_ : Int, (wrap64 (64 - a0)) = j_ := ⟨_, rfl⟩
  replace H : (if 0 ≤ (ji3) then (some (shr .i64 (shl .i64 a1 (ji3)) (ji3))) else (none)) = some r := by first | (rw [hji3] at H; exact H) | (simp only [hji3] at H ⊢; exact H)
  have hji3w : (IntKind.i64.wrap (64 - a0)) = ji3 := (i64_w _).trans hji3
  by_cases c4 : 0 ≤ (ji3)
  · rw [if_pos c4] at H
    have c4b0 := eq_true c4
    have c4b1 : decide (0 ≤ (ji3)) = true := decide_eq_true c4
    clear c4
    obtain ⟨ji5, hji5⟩ : ∃ j_ : Int, (shl .i64 a1 (ji3)) = j_ := ⟨_, rfl⟩
    replace H : (some (shr .i64 (ji5) (ji3))) = some r := by first | (rw [hji5] at H; exact H) | (simp only [hji5] at H ⊢; exact H)
    have hji5_ : (IntKind.i64.wrap (a1 * 2 ^ min (ji3).toNat 64)) = ji5 := hji5
    have hji5z : (ji3) ≤ 64 → (IntKind.i64.wrap (a1 * 2 ^ (ji3).toNat)) = ji5 := shl_small hji5
    have hji5y : (wrap64 (a1 * 2 ^ min (ji3).toNat 64)) = ji5 := (i64_w _).symm.trans hji5_
    have hji5x : (ji3) ≤ 64 → (wrap64 (a1 * 2 ^ (ji3).toNat)) = ji5 := fun h_ => (i64_w _).symm.trans (hji5z h_)
    have c6b0 := eq_true (of_decide_eq_true (by first | (with_reducible assumption) | assumption) : 0 ≤ (ji3))
    obtain ⟨ji7, hji7⟩ : ∃ j_ : Int, (shr .i64 (ji5) (ji3)) = j_ := ⟨_, rfl⟩
    replace H : (some ji7) = some r := by first | (rw [hji7] at H; exact H) | (simp only [hji7] at H ⊢; exact H)
    have hji7_ : ((ji5) / 2 ^ min (ji3).toNat 64) = ji7 := hji7
    have hji7z : (ji3) ≤ 64 → ((ji5) / 2 ^ (ji3).toNat) = ji7 := shr_small hji7
    obtain rfl := Option.some.inj H
    go_enter Try.func25, Try.ntmps25
    go_wp2
    go_ret
    exact ⟨by first | rfl | (simp; done) | (simp only [← hji3, ← hji5, ← hji7] <;> (first | rfl | simp)) | (simp [*]; done), by repeat (first | exact Drawn0.refl _ | apply Drawn0.step)⟩
  · rw [if_neg c4] at H
    exact absurd H (by simp)

/-! ### spec_Fits: function 27 -/
def spec_Fits.f (a0 : Int) (a1_0 : Int) (a1_1 : Int) : Option (Bool) := (spec_WideOf.f (wrap64 (a1_1))).bind fun bt133 => (if (a1_0 == bt133.1 && (a1_1 == bt133.2)) = true then ((spec_Signed.f a0 (wrap64 (a1_1))).bind fun t135 => (some (t135 == (wrap64 (a1_1))))) else (some false))
def spec_Fits.T1 : Bool × List (List Nat × List Nat) := (true, [([], []), ([], []), ([1], [1]), ([2], [2]), ([3], [3]), ([0, 4], [0, 4]), ([5, 4], [5]), ([6], [6]), ([6], [6]), ([8, 6], [6, 8]), ([9, 6], [6, 9]), ([7, 10, 6, 6], [6, 7, 10]), ([6], [6]), ([12, 6], [6, 12]), ([13, 6], [6, 13]), ([11, 14, 6], [6, 11, 14]), ([6, 15], [6, 15]), ([16, 11, 0, 1, 2, 3, 4, 5, 6, 7, 8, 9, 10, 11, 12, 13, 14, 15, 16], [16])])
def spec_Fits.B1 : List Nat := [0, 0, 2, 6, 14, 31, 63, 127, 127, 383, 895, 2047, 127, 4223, 12415, 32767, 65535, 131071]
theorem spec_Fits.tab1 : rtab .any (opsOf Try.f27 1) = spec_Fits.T1 := by kernel_rfl
theorem spec_Fits.bits1 : waitsOk spec_Fits.T1.2 spec_Fits.B1 = true := by kernel_rfl
set_option maxHeartbeats 8000000 in
set_option maxRecDepth 100000 in
theorem spec_Fits.calls (a0 : Int) (a1_0 : Int) (a1_1 : Int) (r : Bool) (w : World) (h : spec_Fits.f a0 a1_0 a1_1 = some r) :
    Calls Try.prog 27 #[.int .i64 a0, .agg #[.int .i64 a1_0, .int .u64 a1_1]] w fun e w' => e = .returned (.bool r) ∧ Below w.heap.size w w' := by
  have hu26 := Try.underlying26
  have HB := Aside0.mk (Below.refl w.heap.size w)
  have H : ((spec_WideOf.f (wrap64 (a1_1))).bind fun bt133 => (if (a1_0 == bt133.1 && (a1_1 == bt133.2)) = true then ((spec_Signed.f a0 (wrap64 (a1_1))).bind fun t135 => (some (t135 == (wrap64 (a1_1))))) else (some false))) = some r := h
  clear h
  replace H := Option.bind_eq_some_iff.mp H
  obtain ⟨⟨t133, t134⟩, A30, H⟩ := H
  replace H : (if (a1_0 == t133 && (a1_1 == t134)) = true then ((spec_Signed.f a0 (wrap64 (a1_1))).bind fun t135 => (some (t135 == (wrap64 (a1_1))))) else (some false)) = some r := H
  have A3 := Aside0.mk A30
  clear A30
  by_cases c4 : (a1_0 == t133 && (a1_1 == t134)) = true
  · rw [if_pos c4] at H
    have c4b0 : (a1_0 == t133 && (a1_1 == t134)) = true := c4
    (try (have c4b1 : decide (a1_0 = t133 && (a1_1 == t134)) = true := by simpa using c4))
    (try (have c4b2 : (a1_0 == t133 && (a1_1 == t134)) = true := by simpa using c4))
    clear c4
    replace H := Option.bind_eq_some_iff.mp H
    obtain ⟨t135, A50, H⟩ := H
    replace H : (some (t135 == (wrap64 (a1_1)))) = some r := H
    have A5 := Aside0.mk A50
    clear A50
    obtain rfl := Option.some.inj H
    go_enter Try.func27, Try.ntmps27
    try go_wp2_with (first | ((with_reducible refine gate_dst (N := 3) rfl ?_); refine box_event ?hg (N := 3) ?hd (cs := #[.int .i64 a1_0, .int .u64 a1_1]) (t := 26) ?hr ?_; (case hd => rfl); (case hg => rfl); (case hr => first | (go_simp; done) | (go_simp; rfl)); intro gb132 hg w6 hbox hb; have n0_ := Aside0.mk (below_step (by repeat (first | (with_reducible first | exact HB.out | apply below_alloc | apply pw_below_drewN | apply below_drew1) | exact HB.out)) hb); have n1_ := Aside0.mk (hbox); have n2_ := Aside0.mk ((by rw [hg]; exact (below_size (by repeat (first | (with_reducible first | exact HB.out | apply below_alloc | apply pw_below_drewN | apply below_drew1) | exact HB.out))) : w.heap.size ≤ gb132)); have n3_ := Aside0.mk ((by rw [hg]; exact (below_size (by repeat (first | (with_reducible first | exact HB.out | apply below_alloc | apply pw_below_drewN | apply below_drew1) | exact HB.out))) : w.heap.size ≤ gb132)); clear HB; have HB := n0_; have BK132 := n1_; have GW132 := n2_; have GE132 := n3_; clear n0_ n1_ n2_ n3_; clear hb hbox hg))
    have n0_ := Aside0.mk (blk_drew BK132.out)
    have n1_ := Aside0.mk (below_drew1 HB.out)
    clear BK132
    clear HB
    have BK132 := n0_
    have HB := n1_
    clear n0_ n1_
    refine start_ (n := 18) (S := fun w' => w'.cell? ⟨gb132, 0, none⟩ = some (.int .i64 a1_0) ∧ w'.cell? ⟨gb132, 1, none⟩ = some (.int .u64 a1_1)) (ds := []) #[false, false, false, false, false, false, false, false, false, false, false, false, false, false, false, false, false, false] (by kernel_rfl) rfl rfl ⟨(blk_cell BK132.out 0).trans rfl, (blk_cell BK132.out 1).trans rfl⟩ (fun hHeld => ?_); refine with_tabW spec_Fits.tab1 spec_Fits.bits1 (fun HT_ HW_ => ?_)
    generalize w6.drew = w7 at BK132 HB hHeld ⊢
    refine pure_ (i := 1) (N := some 6) (v := ?_) (a' := ?_) #[false, true, false, false, false, false, false, false, false, false, false, false, false, false, false, false, false, false] rfl rfl (any_of HT_.out (by kernel_rfl)) (fun _ _ _ h => h) (Or.inl ⟨by rfl, ?_⟩) ?_ ?_
    rotate_left
    · intro w'
      go_simp
      with_reducible rfl
    rotate_left
    · simp only [Act.put, List.setIfInBounds_toArray, List.set_cons_zero, List.set_cons_succ, i64_w, i32_w]
      rfl
    refine take_ (i := 0) (N := some 5) (v := ?_) (a' := ?_) #[true, true, false, false, false, false, false, false, false, false, false, false, false, false, false, false, false, false] rfl rfl (take_ofW HT_.out HW_.out (by kernel_rfl)) (fun _ _ _ h => h) (Or.inl ⟨by rfl, ?_⟩) hHeld ?_ ?_
    rotate_left
    · rintro w' ⟨s0, s1⟩
      go_simp
      with_reducible rfl
    rotate_left
    · simp only [Act.put, List.setIfInBounds_toArray, List.set_cons_zero, List.set_cons_succ, i64_w, i32_w]
      rfl
    refine take_ (i := 2) (N := some 7) (v := ?_) (a' := ?_) #[true, true, true, false, false, false, false, false, false, false, false, false, false, false, false, false, false, false] rfl rfl (take_ofW HT_.out HW_.out (by kernel_rfl)) (fun _ _ _ h => h) (Or.inl ⟨by rfl, ?_⟩) hHeld ?_ ?_
    rotate_left
    · rintro w' ⟨s0, s1⟩
      go_simp
      with_reducible rfl
    rotate_left
    · simp only [Act.put, List.setIfInBounds_toArray, List.set_cons_zero, List.set_cons_succ, i64_w, i32_w]
      rfl
    refine pure_ (i := 3) (N := some 8) (v := ?_) (a' := ?_) #[true, true, true, true, false, false, false, false, false, false, false, false, false, false, false, false, false, false] rfl rfl (any_of HT_.out (by kernel_rfl)) (fun _ _ _ h => h) (Or.inl ⟨by rfl, ?_⟩) ?_ ?_
    rotate_left
    · intro w'
      go_simp
      with_reducible rfl
    rotate_left
    · simp only [Act.put, List.setIfInBounds_toArray, List.set_cons_zero, List.set_cons_succ, i64_w, i32_w]
      rfl
    refine one_ (i := 4) (N := some 9) #[true, true, true, true, true, false, false, false, false, false, false, false, false, false, false, false, false, false] rfl rfl (one_of HT_.out (by kernel_rfl)) (by decide) (fun K hK => ?_)
    refine goes_ Try.func22 (by kernel_rfl) rfl #[.int .i64 (wrap64 (a1_1))] (by rfl) rfl rfl (by (try simp only [List.map_toArray, List.map_cons, List.map_nil]); first | done | rfl | (simp only [List.length_drop, List.length_take]; rfl)) ?_
    with_reducible refine (spec_WideOf.calls (wrap64 (a1_1)) t133 t134 _ A3.out).mono ?_
    rintro e w8 ⟨rfl, hb⟩
    refine ⟨_, rfl, ?_⟩
    have n0_ := Aside0.mk (blk_below (g := gb132) (o := .cells #[.int .i64 a1_0, .int .u64 a1_1] 26 (0, 0)) (by (with_reducible repeat (first | refine blk_drewN ?_ _ | refine blk_drew ?_ | refine blk_alloc ?_ _)); exact BK132.out) hb)
    have n1_ := Aside0.mk (below_step (by repeat (first | (with_reducible first | exact HB.out | apply below_alloc | apply pw_below_drewN | apply below_drew1 | refine below_set ?_ GE132.out) | exact HB.out)) hb)
    clear BK132
    clear HB
    have BK132 := n0_
    have HB := n1_
    clear n0_ n1_
    (try clear hb)
    (try clear hb2)
    (try clear hk)
    (try clear hi)
    refine hK.out _ _ ⟨(blk_cell BK132.out 0).trans rfl, (blk_cell BK132.out 1).trans rfl⟩ (fun hHeld => ?_)
    clear hK K
    refine norm_ (a' := ?_) ?_ ?_
    rotate_left
    · show Act.put _ (some 9) _ = _
      simp only [Act.put, List.setIfInBounds_toArray, List.set_cons_zero, List.set_cons_succ, i64_w, i32_w]
      rfl
    refine pure_ (i := 5) (N := some 10) (v := ?_) (a' := ?_) #[true, true, true, true, true, true, false, false, false, false, false, false, false, false, false, false, false, false] rfl rfl (any_of HT_.out (by kernel_rfl)) (fun _ _ _ h => h) (Or.inl ⟨by rfl, ?_⟩) ?_ ?_
    rotate_left
    · intro w'
      go_simp
      with_reducible rfl
    rotate_left
    · simp only [Act.put, List.setIfInBounds_toArray, List.set_cons_zero, List.set_cons_succ, i64_w, i32_w]
      rfl
    refine pure_ (i := 6) (N := some 11) (v := ?_) (a' := ?_) #[true, true, true, true, true, true, true, false, false, false, false, false, false, false, false, false, false, false] rfl rfl (any_of HT_.out (by kernel_rfl)) (fun _ _ _ h => h) (Or.inl ⟨by rfl, ?_⟩) ?_ ?_
    rotate_left
    · intro w'
      go_simp
      with_reducible rfl
    rotate_left
    · simp only [Act.put, List.setIfInBounds_toArray, List.set_cons_zero, List.set_cons_succ, i64_w, i32_w]
      rfl
    refine pure_ (i := 7) (N := some 12) (v := ?_) (a' := ?_) #[true, true, true, true, true, true, true, true, false, false, false, false, false, false, false, false, false, false] rfl rfl (any_of HT_.out (by kernel_rfl)) (fun _ _ _ h => h) (Or.inl ⟨by rfl, ?_⟩) ?_ ?_
    rotate_left
    · intro w'
      go_simp
      with_reducible rfl
    rotate_left
    · simp only [Act.put, List.setIfInBounds_toArray, List.set_cons_zero, List.set_cons_succ, i64_w, i32_w]
      rfl
    refine pure_ (i := 8) (N := some 13) (v := ?_) (a' := ?_) #[true, true, true, true, true, true, true, true, true, false, false, false, false, false, false, false, false, false] rfl rfl (any_of HT_.out (by kernel_rfl)) (fun _ _ _ h => h) (Or.inl ⟨by rfl, ?_⟩) ?_ ?_
    rotate_left
    · intro w'
      go_simp
      with_reducible rfl
    rotate_left
    · simp only [Act.put, List.setIfInBounds_toArray, List.set_cons_zero, List.set_cons_succ, i64_w, i32_w]
      rfl
    refine pure_ (i := 12) (N := some 17) (v := ?_) (a' := ?_) #[true, true, true, true, true, true, true, true, true, false, false, false, true, false, false, false, false, false] rfl rfl (any_of HT_.out (by kernel_rfl)) (fun _ _ _ h => h) (Or.inl ⟨by rfl, ?_⟩) ?_ ?_
    rotate_left
    · intro w'
      go_simp
      with_reducible rfl
    rotate_left
    · simp only [Act.put, List.setIfInBounds_toArray, List.set_cons_zero, List.set_cons_succ, i64_w, i32_w]
      rfl
    refine take_ (i := 9) (N := some 14) (v := ?_) (a' := ?_) #[true, true, true, true, true, true, true, true, true, true, false, false, true, false, false, false, false, false] rfl rfl (take_ofW HT_.out HW_.out (by kernel_rfl)) (fun _ _ _ h => h) (Or.inl ⟨by rfl, ?_⟩) hHeld ?_ ?_
    rotate_left
    · rintro w' ⟨s0, s1⟩
      go_simp
      with_reducible rfl
    rotate_left
    · simp only [Act.put, List.setIfInBounds_toArray, List.set_cons_zero, List.set_cons_succ, i64_w, i32_w]
      rfl
    refine pure_ (i := 10) (N := some 15) (v := ?_) (a' := ?_) #[true, true, true, true, true, true, true, true, true, true, true, false, true, false, false, false, false, false] rfl rfl (any_of HT_.out (by kernel_rfl)) (fun _ _ _ h => h) (Or.inl ⟨by rfl, ?_⟩) ?_ ?_
    rotate_left
    · intro w'
      go_simp
      with_reducible rfl
    rotate_left
    · simp only [Act.put, List.setIfInBounds_toArray, List.set_cons_zero, List.set_cons_succ, i64_w, i32_w]
      rfl
    refine take_ (i := 13) (N := some 18) (v := ?_) (a' := ?_) #[true, true, true, true, true, true, true, true, true, true, true, false, true, true, false, false, false, false] rfl rfl (take_ofW HT_.out HW_.out (by kernel_rfl)) (fun _ _ _ h => h) (Or.inl ⟨by rfl, ?_⟩) hHeld ?_ ?_
    rotate_left
    · rintro w' ⟨s0, s1⟩
      go_simp
      with_reducible rfl
    rotate_left
    · simp only [Act.put, List.setIfInBounds_toArray, List.set_cons_zero, List.set_cons_succ, i64_w, i32_w]
      rfl
    refine pure_ (i := 14) (N := some 19) (v := ?_) (a' := ?_) #[true, true, true, true, true, true, true, true, true, true, true, false, true, true, true, false, false, false] rfl rfl (any_of HT_.out (by kernel_rfl)) (fun _ _ _ h => h) (Or.inl ⟨by rfl, ?_⟩) ?_ ?_
    rotate_left
    · intro w'
      go_simp
      with_reducible rfl
    rotate_left
    · simp only [Act.put, List.setIfInBounds_toArray, List.set_cons_zero, List.set_cons_succ, i64_w, i32_w]
      rfl
    refine one_ (i := 11) (N := some 16) #[true, true, true, true, true, true, true, true, true, true, true, true, true, true, true, false, false, false] rfl rfl (one_of HT_.out (by kernel_rfl)) (by decide) (fun K hK => ?_)
    refine goes_ Try.func25 (by kernel_rfl) rfl #[.int .i64 a0, .int .i64 (wrap64 (a1_1))] (by rfl) rfl rfl (by (try simp only [List.map_toArray, List.map_cons, List.map_nil]); first | done | rfl | (simp only [List.length_drop, List.length_take]; rfl)) ?_
    with_reducible refine (spec_Signed.calls a0 (wrap64 (a1_1)) t135 _ A5.out).mono ?_
    rintro e w' ⟨rfl, ⟨nd, rfl⟩⟩
    refine ⟨_, rfl, ?_⟩
    refine hK.out _ _ ⟨(blk_cell BK132.out 0).trans rfl, (blk_cell BK132.out 1).trans rfl⟩ (fun hHeld => ?_)
    clear hK K
    refine norm_ (a' := ?_) ?_ ?_
    rotate_left
    · show Act.put _ (some 16) _ = _
      simp only [Act.put, List.setIfInBounds_toArray, List.set_cons_zero, List.set_cons_succ, i64_w, i32_w]
      rfl
    refine pure_ (i := 15) (N := some 20) (v := ?_) (a' := ?_) #[true, true, true, true, true, true, true, true, true, true, true, true, true, true, true, true, false, false] rfl rfl (any_of HT_.out (by kernel_rfl)) (fun _ _ _ h => h) (Or.inl ⟨by rfl, ?_⟩) ?_ ?_
    rotate_left
    · intro w'
      go_simp
      with_reducible rfl
    rotate_left
    · simp only [Act.put, List.setIfInBounds_toArray, List.set_cons_zero, List.set_cons_succ, i64_w, i32_w]
      rfl
    refine pure_ (i := 16) (N := some 21) (v := ?_) (a' := ?_) #[true, true, true, true, true, true, true, true, true, true, true, true, true, true, true, true, true, false] rfl rfl (any_of HT_.out (by kernel_rfl)) (fun _ _ _ h => h) (Or.inl ⟨by rfl, ?_⟩) ?_ ?_
    rotate_left
    · intro w'
      go_simp
      with_reducible rfl
    rotate_left
    · simp only [Act.put, List.setIfInBounds_toArray, List.set_cons_zero, List.set_cons_succ, i64_w, i32_w]
      rfl
    refine pure_ (i := 17) (N := some 4) (v := ?_) (a' := ?_) #[true, true, true, true, true, true, true, true, true, true, true, true, true, true, true, true, true, true] rfl rfl (any_of HT_.out (by kernel_rfl)) (fun _ _ _ h => h) (Or.inl ⟨by rfl, ?_⟩) ?_ ?_
    rotate_left
    · intro w'
      go_simp
      with_reducible rfl
    rotate_left
    · simp only [Act.put, List.setIfInBounds_toArray, List.set_cons_zero, List.set_cons_succ, i64_w, i32_w]
      rfl
    refine done_ (done_of HT_.out (by kernel_rfl)) ?_
    try go_wp2
    go_ret
    exact ⟨by first | rfl | (simp [errW_none, errW_some] <;> rfl) | (simp [*, errW_none, errW_some] <;> rfl), by repeat (first | (with_reducible first | exact HB.out | apply below_alloc | apply pw_below_drewN | apply below_drew1 | refine below_set ?_ GE132.out) | exact HB.out)⟩
  · rw [if_neg c4] at H
    have c4b0 : (a1_0 == t133 && (a1_1 == t134)) = false := by simpa using c4
    (try (have c4b1 : decide (a1_0 = t133 && (a1_1 == t134)) = false := by simpa using c4))
    (try (have c4b2 : (a1_0 == t133 && (a1_1 == t134)) = false := by simpa using c4))
    (try (have c4b3 : ¬ (a1_0 = t133 && (a1_1 == t134)) := by simpa using c4))
    clear c4
    obtain rfl := Option.some.inj H
    go_enter Try.func27, Try.ntmps27
    try go_wp2_with (first | ((with_reducible refine gate_dst (N := 3) rfl ?_); refine box_event ?hg (N := 3) ?hd (cs := #[.int .i64 a1_0, .int .u64 a1_1]) (t := 26) ?hr ?_; (case hd => rfl); (case hg => rfl); (case hr => first | (go_simp; done) | (go_simp; rfl)); intro gb132 hg w9 hbox hb; have n0_ := Aside0.mk (below_step (by repeat (first | (with_reducible first | exact HB.out | apply below_alloc | apply pw_below_drewN | apply below_drew1) | exact HB.out)) hb); have n1_ := Aside0.mk (hbox); have n2_ := Aside0.mk ((by rw [hg]; exact (below_size (by repeat (first | (with_reducible first | exact HB.out | apply below_alloc | apply pw_below_drewN | apply below_drew1) | exact HB.out))) : w.heap.size ≤ gb132)); have n3_ := Aside0.mk ((by rw [hg]; exact (below_size (by repeat (first | (with_reducible first | exact HB.out | apply below_alloc | apply pw_below_drewN | apply below_drew1) | exact HB.out))) : w.heap.size ≤ gb132)); clear HB; have HB := n0_; have BK132 := n1_; have GW132 := n2_; have GE132 := n3_; clear n0_ n1_ n2_ n3_; clear hb hbox hg))
    have n0_ := Aside0.mk (blk_drew BK132.out)
    have n1_ := Aside0.mk (below_drew1 HB.out)
    clear BK132
    clear HB
    have BK132 := n0_
    have HB := n1_
    clear n0_ n1_
    refine start_ (n := 18) (S := fun w' => w'.cell? ⟨gb132, 0, none⟩ = some (.int .i64 a1_0) ∧ w'.cell? ⟨gb132, 1, none⟩ = some (.int .u64 a1_1)) (ds := []) #[false, false, false, false, false, false, false, false, false, false, false, false, false, false, false, false, false, false] (by kernel_rfl) rfl rfl ⟨(blk_cell BK132.out 0).trans rfl, (blk_cell BK132.out 1).trans rfl⟩ (fun hHeld => ?_); refine with_tabW spec_Fits.tab1 spec_Fits.bits1 (fun HT_ HW_ => ?_)
    generalize w9.drew = w10 at BK132 HB hHeld ⊢
    refine pure_ (i := 1) (N := some 6) (v := ?_) (a' := ?_) #[false, true, false, false, false, false, false, false, false, false, false, false, false, false, false, false, false, false] rfl rfl (any_of HT_.out (by kernel_rfl)) (fun _ _ _ h => h) (Or.inl ⟨by rfl, ?_⟩) ?_ ?_
    rotate_left
    · intro w'
      go_simp
      with_reducible rfl
    rotate_left
    · simp only [Act.put, List.setIfInBounds_toArray, List.set_cons_zero, List.set_cons_succ, i64_w, i32_w]
      rfl
    refine take_ (i := 0) (N := some 5) (v := ?_) (a' := ?_) #[true, true, false, false, false, false, false, false, false, false, false, false, false, false, false, false, false, false] rfl rfl (take_ofW HT_.out HW_.out (by kernel_rfl)) (fun _ _ _ h => h) (Or.inl ⟨by rfl, ?_⟩) hHeld ?_ ?_
    rotate_left
    · rintro w' ⟨s0, s1⟩
      go_simp
      with_reducible rfl
    rotate_left
    · simp only [Act.put, List.setIfInBounds_toArray, List.set_cons_zero, List.set_cons_succ, i64_w, i32_w]
      rfl
    refine take_ (i := 2) (N := some 7) (v := ?_) (a' := ?_) #[true, true, true, false, false, false, false, false, false, false, false, false, false, false, false, false, false, false] rfl rfl (take_ofW HT_.out HW_.out (by kernel_rfl)) (fun _ _ _ h => h) (Or.inl ⟨by rfl, ?_⟩) hHeld ?_ ?_
    rotate_left
    · rintro w' ⟨s0, s1⟩
      go_simp
      with_reducible rfl
    rotate_left
    · simp only [Act.put, List.setIfInBounds_toArray, List.set_cons_zero, List.set_cons_succ, i64_w, i32_w]
      rfl
    refine pure_ (i := 3) (N := some 8) (v := ?_) (a' := ?_) #[true, true, true, true, false, false, false, false, false, false, false, false, false, false, false, false, false, false] rfl rfl (any_of HT_.out (by kernel_rfl)) (fun _ _ _ h => h) (Or.inl ⟨by rfl, ?_⟩) ?_ ?_
    rotate_left
    · intro w'
      go_simp
      with_reducible rfl
    rotate_left
    · simp only [Act.put, List.setIfInBounds_toArray, List.set_cons_zero, List.set_cons_succ, i64_w, i32_w]
      rfl
    refine one_ (i := 4) (N := some 9) #[true, true, true, true, true, false, false, false, false, false, false, false, false, false, false, false, false, false] rfl rfl (one_of HT_.out (by kernel_rfl)) (by decide) (fun K hK => ?_)
    refine goes_ Try.func22 (by kernel_rfl) rfl #[.int .i64 (wrap64 (a1_1))] (by rfl) rfl rfl (by (try simp only [List.map_toArray, List.map_cons, List.map_nil]); first | done | rfl | (simp only [List.length_drop, List.length_take]; rfl)) ?_
    with_reducible refine (spec_WideOf.calls (wrap64 (a1_1)) t133 t134 _ A3.out).mono ?_
    rintro e w11 ⟨rfl, hb⟩
    refine ⟨_, rfl, ?_⟩
    have n0_ := Aside0.mk (blk_below (g := gb132) (o := .cells #[.int .i64 a1_0, .int .u64 a1_1] 26 (0, 0)) (by (with_reducible repeat (first | refine blk_drewN ?_ _ | refine blk_drew ?_ | refine blk_alloc ?_ _)); exact BK132.out) hb)
    have n1_ := Aside0.mk (below_step (by repeat (first | (with_reducible first | exact HB.out | apply below_alloc | apply pw_below_drewN | apply below_drew1 | refine below_set ?_ GE132.out) | exact HB.out)) hb)
    clear BK132
    clear HB
    have BK132 := n0_
    have HB := n1_
    clear n0_ n1_
    (try clear hb)
    (try clear hb2)
    (try clear hk)
    (try clear hi)
    refine hK.out _ _ ⟨(blk_cell BK132.out 0).trans rfl, (blk_cell BK132.out 1).trans rfl⟩ (fun hHeld => ?_)
    clear hK K
    refine norm_ (a' := ?_) ?_ ?_
    rotate_left
    · show Act.put _ (some 9) _ = _
      simp only [Act.put, List.setIfInBounds_toArray, List.set_cons_zero, List.set_cons_succ, i64_w, i32_w]
      rfl
    refine pure_ (i := 5) (N := some 10) (v := ?_) (a' := ?_) #[true, true, true, true, true, true, false, false, false, false, false, false, false, false, false, false, false, false] rfl rfl (any_of HT_.out (by kernel_rfl)) (fun _ _ _ h => h) (Or.inl ⟨by rfl, ?_⟩) ?_ ?_
    rotate_left
    · intro w'
      go_simp
      with_reducible rfl
    rotate_left
    · simp only [Act.put, List.setIfInBounds_toArray, List.set_cons_zero, List.set_cons_succ, i64_w, i32_w]
      rfl
    refine pure_ (i := 6) (N := some 11) (v := ?_) (a' := ?_) #[true, true, true, true, true, true, true, false, false, false, false, false, false, false, false, false, false, false] rfl rfl (any_of HT_.out (by kernel_rfl)) (fun _ _ _ h => h) (Or.inl ⟨by rfl, ?_⟩) ?_ ?_
    rotate_left
    · intro w'
      go_simp
      with_reducible rfl
    rotate_left
    · simp only [Act.put, List.setIfInBounds_toArray, List.set_cons_zero, List.set_cons_succ, i64_w, i32_w]
      rfl
    refine pure_ (i := 7) (N := some 12) (v := undef) (a' := ?_) #[true, true, true, true, true, true, true, true, false, false, false, false, false, false, false, false, false, false] rfl rfl (any_of HT_.out (by kernel_rfl)) (fun _ _ _ h => h) (Or.inr ⟨by rfl, rfl⟩) ?_ ?_
    rotate_left
    · simp only [Act.put, List.setIfInBounds_toArray, List.set_cons_zero, List.set_cons_succ, i64_w, i32_w]
      rfl
    refine pure_ (i := 8) (N := some 13) (v := undef) (a' := ?_) #[true, true, true, true, true, true, true, true, true, false, false, false, false, false, false, false, false, false] rfl rfl (any_of HT_.out (by kernel_rfl)) (fun _ _ _ h => h) (Or.inr ⟨by rfl, rfl⟩) ?_ ?_
    rotate_left
    · simp only [Act.put, List.setIfInBounds_toArray, List.set_cons_zero, List.set_cons_succ, i64_w, i32_w]
      rfl
    refine pure_ (i := 9) (N := some 14) (v := undef) (a' := ?_) #[true, true, true, true, true, true, true, true, true, true, false, false, false, false, false, false, false, false] rfl rfl (any_of HT_.out (by kernel_rfl)) (fun _ _ _ h => h) (Or.inr ⟨by rfl, rfl⟩) ?_ ?_
    rotate_left
    · simp only [Act.put, List.setIfInBounds_toArray, List.set_cons_zero, List.set_cons_succ, i64_w, i32_w]
      rfl
    refine pure_ (i := 10) (N := some 15) (v := undef) (a' := ?_) #[true, true, true, true, true, true, true, true, true, true, true, false, false, false, false, false, false, false] rfl rfl (any_of HT_.out (by kernel_rfl)) (fun _ _ _ h => h) (Or.inr ⟨by rfl, rfl⟩) ?_ ?_
    rotate_left
    · simp only [Act.put, List.setIfInBounds_toArray, List.set_cons_zero, List.set_cons_succ, i64_w, i32_w]
      rfl
    refine pure_ (i := 11) (N := some 16) (v := undef) (a' := ?_) #[true, true, true, true, true, true, true, true, true, true, true, true, false, false, false, false, false, false] rfl rfl (any_of HT_.out (by kernel_rfl)) (fun _ _ _ h => h) (Or.inr ⟨by rfl, rfl⟩) ?_ ?_
    rotate_left
    · simp only [Act.put, List.setIfInBounds_toArray, List.set_cons_zero, List.set_cons_succ, i64_w, i32_w]
      rfl
    refine pure_ (i := 12) (N := some 17) (v := undef) (a' := ?_) #[true, true, true, true, true, true, true, true, true, true, true, true, true, false, false, false, false, false] rfl rfl (any_of HT_.out (by kernel_rfl)) (fun _ _ _ h => h) (Or.inr ⟨by rfl, rfl⟩) ?_ ?_
    rotate_left
    · simp only [Act.put, List.setIfInBounds_toArray, List.set_cons_zero, List.set_cons_succ, i64_w, i32_w]
      rfl
    refine pure_ (i := 13) (N := some 18) (v := undef) (a' := ?_) #[true, true, true, true, true, true, true, true, true, true, true, true, true, true, false, false, false, false] rfl rfl (any_of HT_.out (by kernel_rfl)) (fun _ _ _ h => h) (Or.inr ⟨by rfl, rfl⟩) ?_ ?_
    rotate_left
    · simp only [Act.put, List.setIfInBounds_toArray, List.set_cons_zero, List.set_cons_succ, i64_w, i32_w]
      rfl
    refine pure_ (i := 14) (N := some 19) (v := undef) (a' := ?_) #[true, true, true, true, true, true, true, true, true, true, true, true, true, true, true, false, false, false] rfl rfl (any_of HT_.out (by kernel_rfl)) (fun _ _ _ h => h) (Or.inr ⟨by rfl, rfl⟩) ?_ ?_
    rotate_left
    · simp only [Act.put, List.setIfInBounds_toArray, List.set_cons_zero, List.set_cons_succ, i64_w, i32_w]
      rfl
    refine pure_ (i := 15) (N := some 20) (v := undef) (a' := ?_) #[true, true, true, true, true, true, true, true, true, true, true, true, true, true, true, true, false, false] rfl rfl (any_of HT_.out (by kernel_rfl)) (fun _ _ _ h => h) (Or.inr ⟨by rfl, rfl⟩) ?_ ?_
    rotate_left
    · simp only [Act.put, List.setIfInBounds_toArray, List.set_cons_zero, List.set_cons_succ, i64_w, i32_w]
      rfl
    refine pure_ (i := 16) (N := some 21) (v := ?_) (a' := ?_) #[true, true, true, true, true, true, true, true, true, true, true, true, true, true, true, true, true, false] rfl rfl (any_of HT_.out (by kernel_rfl)) (fun _ _ _ h => h) (Or.inl ⟨by rfl, ?_⟩) ?_ ?_
    rotate_left
    · intro w'
      go_simp
      with_reducible rfl
    rotate_left
    · simp only [Act.put, List.setIfInBounds_toArray, List.set_cons_zero, List.set_cons_succ, i64_w, i32_w]
      rfl
    refine pure_ (i := 17) (N := some 4) (v := ?_) (a' := ?_) #[true, true, true, true, true, true, true, true, true, true, true, true, true, true, true, true, true, true] rfl rfl (any_of HT_.out (by kernel_rfl)) (fun _ _ _ h => h) (Or.inl ⟨by rfl, ?_⟩) ?_ ?_
    rotate_left
    · intro w'
      go_simp
      with_reducible rfl
    rotate_left
    · simp only [Act.put, List.setIfInBounds_toArray, List.set_cons_zero, List.set_cons_succ, i64_w, i32_w]
      rfl
    refine done_ (done_of HT_.out (by kernel_rfl)) ?_
    try go_wp2
    go_ret
    exact ⟨by first | rfl | (simp [errW_none, errW_some] <;> rfl) | (simp [*, errW_none, errW_some] <;> rfl), by repeat (first | (with_reducible first | exact HB.out | apply below_alloc | apply pw_below_drewN | apply below_drew1 | refine below_set ?_ GE132.out) | exact HB.out)⟩

/-! ### spec_Sum: function 13 -/
def spec_Sum.f (a0_0 : Int) (a0_1 : Int) (a1_0 : Int) (a1_1 : Int) : Option (Int × Int × Bool) := if (IntKind.u64.wrap (a0_1 + a1_1)) < a0_1 then (if (IntKind.u64.wrap ((IntKind.u64.wrap (a0_0)) + (IntKind.u64.wrap (a1_0)))) < (IntKind.u64.wrap (a0_0)) then (some (wrap64 (IntKind.u64.wrap ((IntKind.u64.wrap ((IntKind.u64.wrap (a0_0)) + (IntKind.u64.wrap (a1_0)))) + 1)), IntKind.u64.wrap (a0_1 + a1_1), true)) else (some (wrap64 (IntKind.u64.wrap ((IntKind.u64.wrap ((IntKind.u64.wrap (a0_0)) + (IntKind.u64.wrap (a1_0)))) + 1)), IntKind.u64.wrap (a0_1 + a1_1), decide ((IntKind.u64.wrap ((IntKind.u64.wrap ((IntKind.u64.wrap (a0_0)) + (IntKind.u64.wrap (a1_0)))) + 1)) < 1)))) else (if (IntKind.u64.wrap ((IntKind.u64.wrap (a0_0)) + (IntKind.u64.wrap (a1_0)))) < (IntKind.u64.wrap (a0_0)) then (some (wrap64 (IntKind.u64.wrap ((IntKind.u64.wrap ((IntKind.u64.wrap (a0_0)) + (IntKind.u64.wrap (a1_0)))) + 0)), IntKind.u64.wrap (a0_1 + a1_1), true)) else (some (wrap64 (IntKind.u64.wrap ((IntKind.u64.wrap ((IntKind.u64.wrap (a0_0)) + (IntKind.u64.wrap (a1_0)))) + 0)), IntKind.u64.wrap (a0_1 + a1_1), decide ((IntKind.u64.wrap ((IntKind.u64.wrap ((IntKind.u64.wrap (a0_0)) + (IntKind.u64.wrap (a1_0)))) + 0)) < 0))))
set_option maxHeartbeats 8000000 in
set_option maxRecDepth 100000 in
theorem spec_Sum.calls (a0_0 : Int) (a0_1 : Int) (a1_0 : Int) (a1_1 : Int) (r1 : Int) (r2 : Int) (r3 : Bool) (w : World) (h : spec_Sum.f a0_0 a0_1 a1_0 a1_1 = some (r1, r2, r3)) :
    Calls Try.prog 13 #[.agg #[.int .i64 a0_0, .int .u64 a0_1], .agg #[.int .i64 a1_0, .int .u64 a1_1]] w fun e w' => e = .returned (.tuple #[.agg #[.int .i64 r1, .int .u64 r2], .bool r3]) ∧ Below w.heap.size w w' := by
  refine (Wide.sum_raw a0_0 a0_1 a1_0 a1_1 w).mono ?_
  rintro e w' ⟨rfl, hb⟩
  refine ⟨?_, hb⟩
  unfold spec_Sum.f at h
  unfold Wide.rawHi Wide.rawOv
  split at h <;> split at h <;> simp only [Option.some.injEq, Prod.mk.injEq] at h <;> obtain ⟨rfl, rfl, rfl⟩ := h <;> simp [*]

/-! ### spec_Negative: function 19 -/
def spec_Negative.f (a0_0 : Int) (a0_1 : Int) : Option (Int × Int) := (spec_Sum.f (Go.bits .xor .i64 (-1) a0_0) (Go.bits .xor .u64 IntKind.u64.max a0_1) 0 1).bind fun bt141 => (some (bt141.1, bt141.2.1))
set_option maxHeartbeats 8000000 in
set_option maxRecDepth 100000 in
theorem spec_Negative.calls (a0_0 : Int) (a0_1 : Int) (r1 : Int) (r2 : Int) (w : World) (h : spec_Negative.f a0_0 a0_1 = some (r1, r2)) :
    Calls Try.prog 19 #[.agg #[.int .i64 a0_0, .int .u64 a0_1]] w fun e w' => e = .returned (.agg #[.int .i64 r1, .int .u64 r2]) ∧ Below w.heap.size w w' := by
  have hu26 := Try.underlying26
  have HB := Aside0.mk (Below.refl w.heap.size w)
  have H : ((spec_Sum.f (Go.bits .xor .i64 (-1) a0_0) (Go.bits .xor .u64 IntKind.u64.max a0_1) 0 1).bind fun bt141 => (some (bt141.1, bt141.2.1))) = some (r1, r2) := h
  clear h
  replace H := Option.bind_eq_some_iff.mp H
  obtain ⟨⟨t141, t142, t143⟩, A20, H⟩ := H
  replace H : (some (t141, t142)) = some (r1, r2) := H
  have A2 := Aside0.mk A20
  clear A20
  simp only [Option.some.injEq, Prod.mk.injEq] at H
  obtain ⟨rfl, rfl⟩ := H
  go_enter Try.func19, Try.ntmps19
  go_wp2_with (first | ((with_reducible refine gate_dst (N := 1) rfl ?_); refine box_event ?hg (N := 1) ?hd (cs := #[.int .i64 a0_0, .int .u64 a0_1]) (t := 26) ?hr ?_; (case hd => rfl); (case hg => rfl); (case hr => first | (go_simp; done) | (go_simp; rfl)); intro gb139 hg w3 hbox hb; have n0_ := Aside0.mk (below_step (by repeat (first | (with_reducible first | exact HB.out | apply below_alloc | apply pw_below_drewN | apply below_drew1) | exact HB.out)) hb); have n1_ := Aside0.mk (hbox); have n2_ := Aside0.mk ((by rw [hg]; exact (below_size (by repeat (first | (with_reducible first | exact HB.out | apply below_alloc | apply pw_below_drewN | apply below_drew1) | exact HB.out))) : w.heap.size ≤ gb139)); have n3_ := Aside0.mk ((by rw [hg]; exact (below_size (by repeat (first | (with_reducible first | exact HB.out | apply below_alloc | apply pw_below_drewN | apply below_drew1) | exact HB.out))) : w.heap.size ≤ gb139)); clear HB; have HB := n0_; have BK139 := n1_; have GW139 := n2_; have GE139 := n3_; clear n0_ n1_ n2_ n3_; clear hb hbox hg) | ((with_reducible refine gate_dst (N := 2) rfl ?_); refine box_event ?hg (N := 2) ?hd (cs := #[.int .i64 0, .int .u64 0]) (t := 26) ?hr ?_; (case hd => rfl); (case hg => rfl); (case hr => first | (go_simp; done) | (go_simp; rfl)); intro gb140 hg w4 hbox hb; have n0_ := Aside0.mk (blk_below (g := gb139) (o := .cells #[.int .i64 a0_0, .int .u64 a0_1] 26 (0, 0)) (by (with_reducible repeat (first | refine blk_drewN ?_ _ | refine blk_drew ?_ | refine blk_alloc ?_ _)); exact BK139.out) hb); have n1_ := Aside0.mk (below_step (by repeat (first | (with_reducible first | exact HB.out | apply below_alloc | apply pw_below_drewN | apply below_drew1 | refine below_set ?_ GE139.out) | exact HB.out)) hb); have n2_ := Aside0.mk (hbox); have n3_ := Aside0.mk ((by rw [hg]; exact (below_size (by repeat (first | (with_reducible first | exact HB.out | apply below_alloc | apply pw_below_drewN | apply below_drew1 | refine below_set ?_ GE139.out) | exact HB.out))) : w.heap.size ≤ gb140)); have n4_ := Aside0.mk ((by rw [hg]; exact (below_size (by repeat (first | (with_reducible first | exact HB.out | apply below_alloc | apply pw_below_drewN | apply below_drew1 | refine below_set ?_ GE139.out) | exact HB.out))) : w.heap.size ≤ gb140)); have n5_ := Aside0.mk ((by rw [hg]; exact Nat.ne_of_lt (blk_lt (g := gb139) (o := .cells #[.int .i64 a0_0, .int .u64 a0_1] 26 (0, 0)) (by (with_reducible repeat (first | refine blk_drewN ?_ _ | refine blk_drew ?_ | refine blk_alloc ?_ _)); exact BK139.out)) : gb139 ≠ gb140)); have n6_ := Aside0.mk ((by rw [hg]; exact Nat.ne_of_gt (blk_lt (g := gb139) (o := .cells #[.int .i64 a0_0, .int .u64 a0_1] 26 (0, 0)) (by (with_reducible repeat (first | refine blk_drewN ?_ _ | refine blk_drew ?_ | refine blk_alloc ?_ _)); exact BK139.out)) : gb140 ≠ gb139)); clear BK139; clear HB; have BK139 := n0_; have HB := n1_; have BK140 := n2_; have GW140 := n3_; have GE140 := n4_; have NB139_140 := n5_; have NB140_139 := n6_; clear n0_ n1_ n2_ n3_ n4_ n5_ n6_; clear hb hbox hg; have hnb5 := NB139_140.out; have hnc5 := NB140_139.out; have hcz6_0 : w4.cell? ⟨gb139, 0, none⟩ = some (.int .i64 a0_0) := (blk_cell BK139.out 0).trans rfl; have hcz6_1 : w4.cell? ⟨gb139, 1, none⟩ = some (.int .u64 a0_1) := (blk_cell BK139.out 1).trans rfl; have hfz6_0 := blk_frozen BK139.out 0; have hfz6_1 := blk_frozen BK139.out 1) | ((with_reducible refine gate_callee (f := 13) rfl ?_); refine goesL_ (some 14) rfl rfl Try.func13 (by kernel_rfl) rfl #[.agg #[.int .i64 (Go.bits .xor .i64 (-1) a0_0), .int .u64 (Go.bits .xor .u64 IntKind.u64.max a0_1)], .agg #[.int .i64 0, .int .u64 1]] rfl (by (try simp only [List.map_toArray, List.map_cons, List.map_nil]); first | done | rfl | (simp only [List.length_drop, List.length_take]; rfl)) ?_; (with_reducible refine (spec_Sum.calls (Go.bits .xor .i64 (-1) a0_0) (Go.bits .xor .u64 IntKind.u64.max a0_1) 0 1 t141 t142 t143 _ A2.out).mono ?_); rintro e w7 ⟨rfl, hb⟩; refine ⟨_, rfl, ?_⟩; have n0_ := Aside0.mk (blk_below (g := gb139) (o := .cells #[.int .i64 a0_0, .int .u64 a0_1] 26 (0, 0)) (by (with_reducible repeat (first | refine blk_drewN ?_ _ | refine blk_drew ?_ | refine blk_alloc ?_ _)); exact BK139.out) hb); have n1_ := Aside0.mk (blk_below (g := gb140) (o := .cells #[.int .i64 0, .int .u64 0] 26 (0, 0)) (by (with_reducible repeat (first | refine blk_drewN ?_ _ | refine blk_drew ?_ | refine blk_alloc ?_ _)); exact BK140.out) hb); have n2_ := Aside0.mk (below_step (by repeat (first | (with_reducible first | exact HB.out | apply below_alloc | apply pw_below_drewN | apply below_drew1 | refine below_set ?_ GE139.out | refine below_set ?_ GE140.out) | exact HB.out)) hb); clear BK139; clear BK140; clear HB; have BK139 := n0_; have BK140 := n1_; have HB := n2_; clear n0_ n1_ n2_; (try clear hb); (try clear hb2); (try clear hk); (try clear hi)) | ((with_reducible refine gate_dst (N := 3) rfl ?_); refine box_event ?hg (N := 3) ?hd (cs := #[.int .i64 0, .int .u64 0]) (t := 26) ?hr ?_; (case hd => rfl); (case hg => rfl); (case hr => first | (go_simp; done) | (go_simp; rfl)); intro gb144 hg w8 hbox hb; have n0_ := Aside0.mk (blk_below (g := gb139) (o := .cells #[.int .i64 a0_0, .int .u64 a0_1] 26 (0, 0)) (by (with_reducible repeat (first | refine blk_drewN ?_ _ | refine blk_drew ?_ | refine blk_alloc ?_ _)); exact BK139.out) hb); have n1_ := Aside0.mk (blk_below (g := gb140) (o := .cells #[.int .i64 0, .int .u64 0] 26 (0, 0)) (by (with_reducible repeat (first | refine blk_drewN ?_ _ | refine blk_drew ?_ | refine blk_alloc ?_ _)); exact BK140.out) hb); have n2_ := Aside0.mk (below_step (by repeat (first | (with_reducible first | exact HB.out | apply below_alloc | apply pw_below_drewN | apply below_drew1 | refine below_set ?_ GE139.out | refine below_set ?_ GE140.out) | exact HB.out)) hb); have n3_ := Aside0.mk (hbox); have n4_ := Aside0.mk ((by rw [hg]; exact (below_size (by repeat (first | (with_reducible first | exact HB.out | apply below_alloc | apply pw_below_drewN | apply below_drew1 | refine below_set ?_ GE139.out | refine below_set ?_ GE140.out) | exact HB.out))) : w.heap.size ≤ gb144)); have n5_ := Aside0.mk ((by rw [hg]; exact (below_size (by repeat (first | (with_reducible first | exact HB.out | apply below_alloc | apply pw_below_drewN | apply below_drew1 | refine below_set ?_ GE139.out | refine below_set ?_ GE140.out) | exact HB.out))) : w.heap.size ≤ gb144)); have n6_ := Aside0.mk ((by rw [hg]; exact Nat.ne_of_lt (blk_lt (g := gb139) (o := .cells #[.int .i64 a0_0, .int .u64 a0_1] 26 (0, 0)) (by (with_reducible repeat (first | refine blk_drewN ?_ _ | refine blk_drew ?_ | refine blk_alloc ?_ _)); exact BK139.out)) : gb139 ≠ gb144)); have n7_ := Aside0.mk ((by rw [hg]; exact Nat.ne_of_gt (blk_lt (g := gb139) (o := .cells #[.int .i64 a0_0, .int .u64 a0_1] 26 (0, 0)) (by (with_reducible repeat (first | refine blk_drewN ?_ _ | refine blk_drew ?_ | refine blk_alloc ?_ _)); exact BK139.out)) : gb144 ≠ gb139)); have n8_ := Aside0.mk ((by rw [hg]; exact Nat.ne_of_lt (blk_lt (g := gb140) (o := .cells #[.int .i64 0, .int .u64 0] 26 (0, 0)) (by (with_reducible repeat (first | refine blk_drewN ?_ _ | refine blk_drew ?_ | refine blk_alloc ?_ _)); exact BK140.out)) : gb140 ≠ gb144)); have n9_ := Aside0.mk ((by rw [hg]; exact Nat.ne_of_gt (blk_lt (g := gb140) (o := .cells #[.int .i64 0, .int .u64 0] 26 (0, 0)) (by (with_reducible repeat (first | refine blk_drewN ?_ _ | refine blk_drew ?_ | refine blk_alloc ?_ _)); exact BK140.out)) : gb144 ≠ gb140)); clear BK139; clear BK140; clear HB; have BK139 := n0_; have BK140 := n1_; have HB := n2_; have BK144 := n3_; have GW144 := n4_; have GE144 := n5_; have NB139_144 := n6_; have NB144_139 := n7_; have NB140_144 := n8_; have NB144_140 := n9_; clear n0_ n1_ n2_ n3_ n4_ n5_ n6_ n7_ n8_ n9_; clear hb hbox hg; have hnb9 := NB144_139.out; have hnc9 := NB139_144.out; have hnb10 := NB144_140.out; have hnc10 := NB140_144.out; have hcz11_0 : w8.cell? ⟨gb144, 0, none⟩ = some (.int .i64 0) := (blk_cell BK144.out 0).trans rfl; have hcz11_1 : w8.cell? ⟨gb144, 1, none⟩ = some (.int .u64 0) := (blk_cell BK144.out 1).trans rfl; have hfz11_0 := blk_frozen BK144.out 0; have hfz11_1 := blk_frozen BK144.out 1; have hcz12_0 : w8.cell? ⟨gb140, 0, none⟩ = some (.int .i64 0) := (blk_cell BK140.out 0).trans rfl; have hcz12_1 : w8.cell? ⟨gb140, 1, none⟩ = some (.int .u64 0) := (blk_cell BK140.out 1).trans rfl; have hfz12_0 := blk_frozen BK140.out 0; have hfz12_1 := blk_frozen BK140.out 1))
  refine bodyPost_ret (results_cell_row rfl _ _ gb140 26 #[.int .i64 t141, .int .u64 t142] (0, 0) _ rfl (by (with_reducible repeat (first | refine blk_drewN ?_ _ | refine blk_drew ?_ | refine blk_alloc ?_ _)); refine blk_put (cs := #[.int .i64 t141, .int .u64 0]) ?_ 1 _ rfl; (with_reducible repeat (first | refine blk_drewN ?_ _ | refine blk_drew ?_ | refine blk_alloc ?_ _)); refine blk_put (cs := #[.int .i64 0, .int .u64 0]) ?_ 0 _ rfl; (with_reducible repeat (first | refine blk_drewN ?_ _ | refine blk_drew ?_ | refine blk_alloc ?_ _)); refine blk_far ?_ NB140_144.out _; (with_reducible repeat (first | refine blk_drewN ?_ _ | refine blk_drew ?_ | refine blk_alloc ?_ _)); refine blk_far ?_ NB140_144.out _; (with_reducible repeat (first | refine blk_drewN ?_ _ | refine blk_drew ?_ | refine blk_alloc ?_ _)); exact BK140.out) Try.underlying26 rfl (by kernel_rfl)) rfl ?_
  exact ⟨by first | rfl | (simp [errW_none, errW_some] <;> rfl) | (simp [*, errW_none, errW_some] <;> rfl), by repeat (first | (with_reducible first | exact HB.out | apply below_alloc | apply pw_below_drewN | apply below_drew1 | refine below_set ?_ GE139.out | refine below_set ?_ GE140.out | refine below_set ?_ GE144.out) | exact HB.out)⟩

end Go.Proofs.Ytfnimhjabbnldaa.PFnMulOverflow
