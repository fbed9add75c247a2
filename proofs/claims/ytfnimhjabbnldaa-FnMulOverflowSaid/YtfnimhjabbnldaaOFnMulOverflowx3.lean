/- The functions that the law 'FnMulOverflow' reaches, each with its contract. -/
import Derived.Test.YtfnimhjabbnldaaOFnMulOverflowx0
import Derived.Test.YtfnimhjabbnldaaOFnMulOverflowx2
namespace Go.Proofs.Ytfnimhjabbnldaa.PFnMulOverflow
open Go.RowKit Go.Proofs.YtfnimhjabbnldaaW.PrintWords Go.Proofs.YtfnimhjabbnldaaW.PrintLast Go.Proofs.YtfnimhjabbnldaaW.PrintMore
attribute [local go_sem] max2_int min2_int max_two min_two max_three min_three max_four min_four   -- for this text's walks alone
set_option linter.unusedVariables false
set_option linter.unusedSimpArgs false

/-! ### mathutil_MulOverflowInt64: function 44 -/
def mathutil_MulOverflowInt64.j0 : Nat → Int → Int → Int → Bool → Option (Int × Bool)
  | 0, _, _, _, _ => none
  | k + 1, x0, x1, x4, x22 => if x22 = true then (some (x4, false)) else (if x0 = (-9223372036854775808) then (some (x4, true)) else (if x1 = (-9223372036854775808) then (some (x4, true)) else (if x1 = 0 then (none) else (some (x4, ((wrap64 (Int.tdiv x4 x1)) != x0))))))
def mathutil_MulOverflowInt64.f (k : Nat) (a0 : Int) (a1 : Int) : Option (Int × Bool) := if a0 = 0 then (mathutil_MulOverflowInt64.j0 k a0 a1 (wrap64 (a0 * a1)) true) else (if a1 = 0 then (mathutil_MulOverflowInt64.j0 k a0 a1 (wrap64 (a0 * a1)) true) else (if a0 = 1 then (mathutil_MulOverflowInt64.j0 k a0 a1 (wrap64 (a0 * a1)) true) else (mathutil_MulOverflowInt64.j0 k a0 a1 (wrap64 (a0 * a1)) (a1 == 1))))
theorem mathutil_MulOverflowInt64.mono_l : ∀ k, (∀ y0 y1 y2 y3, LeO (mathutil_MulOverflowInt64.j0 k y0 y1 y2 y3) (mathutil_MulOverflowInt64.j0 (k + 1) y0 y1 y2 y3))
  | 0 => fun _ _ _ _ r h => by simp [mathutil_MulOverflowInt64.j0] at h
  | k + 1 => by
    have ih0 := mathutil_MulOverflowInt64.mono_l k
    · intro y0 y1 y2 y3
      unfold mathutil_MulOverflowInt64.j0
      repeat' first
      | (with_reducible exact ih0 _ _ _ _)
      | (with_reducible exact LeO.refl _)
      | (with_reducible exact LeO.none _)
      | (with_reducible refine LeO.ite ?_ ?_)
      | (with_reducible refine LeO.bind ?_ (fun _ => ?_))
      | exact ih0 _ _ _ _
      | exact LeO.none _
      | refine LeO.ite ?_ ?_
      | refine LeO.bind ?_ (fun _ => ?_)
theorem mathutil_MulOverflowInt64.mono : ∀ a0 a1 k, LeO (mathutil_MulOverflowInt64.f k a0 a1) (mathutil_MulOverflowInt64.f (k + 1) a0 a1) := by
  intro a0 a1 k
  have ih0 := mathutil_MulOverflowInt64.mono_l k
  unfold mathutil_MulOverflowInt64.f
  repeat' first
      | (with_reducible exact ih0 _ _ _ _)
      | (with_reducible exact LeO.refl _)
      | (with_reducible exact LeO.none _)
      | (with_reducible refine LeO.ite ?_ ?_)
      | (with_reducible refine LeO.bind ?_ (fun _ => ?_))
      | exact ih0 _ _ _ _
      | exact LeO.none _
      | refine LeO.ite ?_ ?_
      | refine LeO.bind ?_ (fun _ => ?_)
set_option maxHeartbeats 8000000 in
set_option maxRecDepth 100000 in
theorem mathutil_MulOverflowInt64.calls (k : Nat) (a0 : Int) (a1 : Int) (r1 : Int) (r2 : Bool) (w : World) (h : mathutil_MulOverflowInt64.f k a0 a1 = some (r1, r2)) :
    Calls Try.prog 44 #[.int .i64 a0, .int .i64 a1] w fun e w' => e = .returned (.tuple #[.int .i64 r1, .bool r2]) ∧ Drawn0 w w' := by
  have H : (if a0 = 0 then (mathutil_MulOverflowInt64.j0 k a0 a1 (wrap64 (a0 * a1)) true) else (if a1 = 0 then (mathutil_MulOverflowInt64.j0 k a0 a1 (wrap64 (a0 * a1)) true) else (if a0 = 1 then (mathutil_MulOverflowInt64.j0 k a0 a1 (wrap64 (a0 * a1)) true) else (mathutil_MulOverflowInt64.j0 k a0 a1 (wrap64 (a0 * a1)) (a1 == 1))))) = some (r1, r2) := h
  clear h
  have HC3 := Aside0.mk H
  clear H
  go_enter Try.func44, Try.ntmps44
  go_upto_region 2 with (fail)
  repeat (go_quiet (fail); go_upto_region 2 with (fail))
  go_cut [22] (fun v22 wc => ∃ (kq : Nat) (x22_2 : Bool), v22 = .bool x22_2 ∧ Aside0 (mathutil_MulOverflowInt64.j0 kq a0 a1 (wrap64 (a0 * a1)) x22_2 = some (r1, r2)) ∧ Aside0 (kq ≤ k) ∧ Drawn0 w wc)
  case first =>
    have H := HC3.out
    clear HC3
    by_cases c4 : a0 = 0
    · rw [if_pos c4] at H
      have c4b0 : (a0 == 0) = true := beq_iff_eq.mpr c4
      have c4b1 : (a0 != 0) = false := bne_eq_false_iff_eq.mpr c4
      clear c4
      (first | rw [c4b0] | (simp only [i64_w, i32_w]; rw [c4b0]) | skip)
      have H' := Aside0.mk H
      clear H
      go_wp2
      repeat (go_quiet (fail); try go_wp2)
      go_meet
      case rel => exact ⟨_, (true), (by first | rfl | (simp; done) | (simp [*]; done)), H', ⟨by first | omega | exact Nat.le_refl _⟩, by repeat (first | exact Drawn0.refl _ | apply Drawn0.step)⟩
    · rw [if_neg c4] at H
      have c4b0 : (a0 == 0) = false := beq_eq_false_iff_ne.mpr c4
      have c4b1 : (a0 != 0) = true := bne_iff_ne.mpr c4
      (first | rw [c4b0] | (simp only [i64_w, i32_w]; rw [c4b0]) | skip)
      by_cases c5 : a1 = 0
      · rw [if_pos c5] at H
        have c5b0 : (a1 == 0) = true := beq_iff_eq.mpr c5
        have c5b1 : (a1 != 0) = false := bne_eq_false_iff_eq.mpr c5
        clear c5
        have H' := Aside0.mk H
        clear H
        go_wp2
        repeat (go_quiet (fail); try go_wp2)
        go_meet
        case rel => exact ⟨_, (true), (by first | rfl | (simp; done) | (simp [*]; done)), H', ⟨by first | omega | exact Nat.le_refl _⟩, by repeat (first | exact Drawn0.refl _ | apply Drawn0.step)⟩
      · rw [if_neg c5] at H
        have c5b0 : (a1 == 0) = false := beq_eq_false_iff_ne.mpr c5
        have c5b1 : (a1 != 0) = true := bne_iff_ne.mpr c5
        by_cases c6 : a0 = 1
        · rw [if_pos c6] at H
          have c6b0 : (a0 == 1) = true := beq_iff_eq.mpr c6
          have c6b1 : (a0 != 1) = false := bne_eq_false_iff_eq.mpr c6
          clear c6
          have H' := Aside0.mk H
          clear H
          go_wp2
          repeat (go_quiet (fail); try go_wp2)
          go_meet
          case rel => exact ⟨_, (true), (by first | rfl | (simp; done) | (simp [*]; done)), H', ⟨by first | omega | exact Nat.le_refl _⟩, by repeat (first | exact Drawn0.refl _ | apply Drawn0.step)⟩
        · rw [if_neg c6] at H
          have c6b0 : (a0 == 1) = false := beq_eq_false_iff_ne.mpr c6
          have c6b1 : (a0 != 1) = true := bne_iff_ne.mpr c6
          have H' := Aside0.mk H
          clear H
          go_wp2
          repeat (go_quiet (fail); try go_wp2)
          go_meet
          case rel => exact ⟨_, ((a1 == 1)), (by first | rfl | (simp; done) | (simp [*]; done)), H', ⟨by first | omega | exact Nat.le_refl _⟩, by repeat (first | exact Drawn0.refl _ | apply Drawn0.step)⟩
  case rest =>
    clear HC3
    try clear p2
    try clear c4
    try clear c4b0
    try clear c4b1
    try clear c5
    try clear c5b0
    try clear c5b1
    try clear c6
    try clear c6b0
    try clear c6b1
    try clear p6
    obtain ⟨kq, x22_2, rfl, HA, HJ2, ⟨mc2, rfl⟩⟩ := hcut
    cases kq with
    | zero => exact absurd HA.out (by simp [mathutil_MulOverflowInt64.j0])
    | succ kj2 =>
      have H := HA.out
      clear HA
      simp only [mathutil_MulOverflowInt64.j0] at H
      by_cases c7 : x22_2 = true
      · subst c7
        have H1 : (some ((wrap64 (a0 * a1)), false)) = some (r1, r2) := by rw [if_pos rfl] at H; exact H
        clear H
        have H := H1
        clear H1
        simp only [Option.some.injEq, Prod.mk.injEq] at H
        obtain ⟨rfl, rfl⟩ := H
        go_wp2
        repeat (go_quiet (fail); try go_wp2)
        go_ret2
        exact ⟨by first | rfl | (simp; done) | (simp [*]; done), by repeat (first | exact Drawn0.refl _ | apply Drawn0.step)⟩
      · replace c7 := Bool.eq_false_iff.mpr c7
        subst c7
        have H1 : (if a0 = (-9223372036854775808) then (some ((wrap64 (a0 * a1)), true)) else (if a1 = (-9223372036854775808) then (some ((wrap64 (a0 * a1)), true)) else (if a1 = 0 then (none) else (some ((wrap64 (a0 * a1)), ((wrap64 (Int.tdiv (wrap64 (a0 * a1)) a1)) != a0)))))) = some (r1, r2) := by rw [if_neg (show ¬ (false = true) by decide)] at H; exact H
        clear H
        have H := H1
        clear H1
        by_cases c8 : a0 = (-9223372036854775808)
        · rw [if_pos c8] at H
          have c8b0 : (a0 == (-9223372036854775808)) = true := beq_iff_eq.mpr c8
          have c8b1 : (a0 != (-9223372036854775808)) = false := bne_eq_false_iff_eq.mpr c8
          clear c8
          simp only [Option.some.injEq, Prod.mk.injEq] at H
          obtain ⟨rfl, rfl⟩ := H
          go_wp2
          repeat (go_quiet (fail); try go_wp2)
          go_ret2
          exact ⟨by first | rfl | (simp; done) | (simp [*]; done), by repeat (first | exact Drawn0.refl _ | apply Drawn0.step)⟩
        · rw [if_neg c8] at H
          have c8b0 : (a0 == (-9223372036854775808)) = false := beq_eq_false_iff_ne.mpr c8
          have c8b1 : (a0 != (-9223372036854775808)) = true := bne_iff_ne.mpr c8
          by_cases c9 : a1 = (-9223372036854775808)
          · rw [if_pos c9] at H
            have c9b0 : (a1 == (-9223372036854775808)) = true := beq_iff_eq.mpr c9
            have c9b1 : (a1 != (-9223372036854775808)) = false := bne_eq_false_iff_eq.mpr c9
            clear c9
            simp only [Option.some.injEq, Prod.mk.injEq] at H
            obtain ⟨rfl, rfl⟩ := H
            go_wp2
            repeat (go_quiet (fail); try go_wp2)
            go_ret2
            exact ⟨by first | rfl | (simp; done) | (simp [*]; done), by repeat (first | exact Drawn0.refl _ | apply Drawn0.step)⟩
          · rw [if_neg c9] at H
            have c9b0 : (a1 == (-9223372036854775808)) = false := beq_eq_false_iff_ne.mpr c9
            have c9b1 : (a1 != (-9223372036854775808)) = true := bne_iff_ne.mpr c9
            by_cases c10 : a1 = 0
            · rw [if_pos c10] at H
              exact absurd H (by simp)
            · rw [if_neg c10] at H
              have c10b0 : (a1 == 0) = false := beq_eq_false_iff_ne.mpr c10
              have c10b1 : (a1 != 0) = true := bne_iff_ne.mpr c10
              simp only [Option.some.injEq, Prod.mk.injEq] at H
              obtain ⟨rfl, rfl⟩ := H
              go_wp2
              repeat (go_quiet (fail); try go_wp2)
              go_ret2
              exact ⟨by first | rfl | (simp; done) | (simp [*]; done), by repeat (first | exact Drawn0.refl _ | apply Drawn0.step)⟩

/-! ### impl_MulOverflow: function 28 -/
def impl_MulOverflow.f (k : Nat) (a0 : Int) (a1 : Int) (a2 : Int) : Option (Int × Bool) := if a0 = 8 then ((mathutil_MulOverflowInt8.f (IntKind.i8.wrap (a1)) (IntKind.i8.wrap (a2))).bind fun bt110 => (some (wrap64 (bt110.1), bt110.2))) else (if a0 = 16 then ((mathutil_MulOverflowInt16.f (IntKind.i16.wrap (a1)) (IntKind.i16.wrap (a2))).bind fun bt112 => (some (wrap64 (bt112.1), bt112.2))) else (if a0 = 32 then ((mathutil_MulOverflowInt32.f (wrap32 (a1)) (wrap32 (a2))).bind fun bt114 => (some (wrap64 (bt114.1), bt114.2))) else (if a0 = 64 then ((mathutil_MulOverflowInt64.f k a1 a2).bind fun bt116 => (some (bt116.1, bt116.2))) else (some (0, false)))))
theorem impl_MulOverflow.mono : ∀ a0 a1 a2 k, LeO (impl_MulOverflow.f k a0 a1 a2) (impl_MulOverflow.f (k + 1) a0 a1 a2) := by
  intro a0 a1 a2 k
  unfold impl_MulOverflow.f
  repeat' first
      | (with_reducible exact mathutil_MulOverflowInt64.mono _ _ _)
      | (with_reducible exact LeO.refl _)
      | (with_reducible exact LeO.none _)
      | (with_reducible refine LeO.ite ?_ ?_)
      | (with_reducible refine LeO.bind ?_ (fun _ => ?_))
      | exact mathutil_MulOverflowInt64.mono _ _ _
      | exact LeO.none _
      | refine LeO.ite ?_ ?_
      | refine LeO.bind ?_ (fun _ => ?_)
set_option maxHeartbeats 8000000 in
set_option maxRecDepth 100000 in
theorem impl_MulOverflow.calls (k : Nat) (a0 : Int) (a1 : Int) (a2 : Int) (r1 : Int) (r2 : Bool) (w : World) (h : impl_MulOverflow.f k a0 a1 a2 = some (r1, r2)) :
    Calls Try.prog 28 #[.int .i64 a0, .int .i64 a1, .int .i64 a2] w fun e w' => e = .returned (.tuple #[.int .i64 r1, .bool r2]) ∧ Drawn0 w w' := by
  have H : (if a0 = 8 then ((mathutil_MulOverflowInt8.f (IntKind.i8.wrap (a1)) (IntKind.i8.wrap (a2))).bind fun bt110 => (some (wrap64 (bt110.1), bt110.2))) else (if a0 = 16 then ((mathutil_MulOverflowInt16.f (IntKind.i16.wrap (a1)) (IntKind.i16.wrap (a2))).bind fun bt112 => (some (wrap64 (bt112.1), bt112.2))) else (if a0 = 32 then ((mathutil_MulOverflowInt32.f (wrap32 (a1)) (wrap32 (a2))).bind fun bt114 => (some (wrap64 (bt114.1), bt114.2))) else (if a0 = 64 then ((mathutil_MulOverflowInt64.f k a1 a2).bind fun bt116 => (some (bt116.1, bt116.2))) else (some (0, false)))))) = some (r1, r2) := h
  clear h
  by_cases c4 : a0 = 8
  · rw [if_pos c4] at H
    have c4b0 : (a0 == 8) = true := beq_iff_eq.mpr c4
    have c4b1 : (a0 != 8) = false := bne_eq_false_iff_eq.mpr c4
    clear c4
    replace H := Option.bind_eq_some_iff.mp H
    obtain ⟨⟨t110, t111⟩, A50, H⟩ := H
    replace H : (some (wrap64 (t110), t111)) = some (r1, r2) := H
    have A5 := Aside0.mk A50
    clear A50
    simp only [Option.some.injEq, Prod.mk.injEq] at H
    obtain ⟨rfl, rfl⟩ := H
    go_enter Try.func28, Try.ntmps28
    go_wp2_with (first | ((with_reducible refine gate_callee (f := 41) rfl ?_); refine goesL_ (some 22) rfl rfl Try.func41 (by kernel_rfl) rfl #[.int .i8 (IntKind.i8.wrap (a1)), .int .i8 (IntKind.i8.wrap (a2))] rfl (by (try simp only [List.map_toArray, List.map_cons, List.map_nil]); first | done | rfl | (simp only [List.length_drop, List.length_take]; rfl)) ?_; (with_reducible refine (mathutil_MulOverflowInt8.calls (IntKind.i8.wrap (a1)) (IntKind.i8.wrap (a2)) t110 t111 _ A5.out).mono ?_); rintro e w' ⟨rfl, ⟨nd, rfl⟩⟩; refine ⟨_, rfl, ?_⟩))
    go_ret2
    exact ⟨by first | rfl | (simp; done) | (simp [*]; done), by repeat (first | exact Drawn0.refl _ | apply Drawn0.step)⟩
  · rw [if_neg c4] at H
    have c4b0 : (a0 == 8) = false := beq_eq_false_iff_ne.mpr c4
    have c4b1 : (a0 != 8) = true := bne_iff_ne.mpr c4
    by_cases c6 : a0 = 16
    · rw [if_pos c6] at H
      have c6b0 : (a0 == 16) = true := beq_iff_eq.mpr c6
      have c6b1 : (a0 != 16) = false := bne_eq_false_iff_eq.mpr c6
      clear c6
      replace H := Option.bind_eq_some_iff.mp H
      obtain ⟨⟨t112, t113⟩, A70, H⟩ := H
      replace H : (some (wrap64 (t112), t113)) = some (r1, r2) := H
      have A7 := Aside0.mk A70
      clear A70
      simp only [Option.some.injEq, Prod.mk.injEq] at H
      obtain ⟨rfl, rfl⟩ := H
      go_enter Try.func28, Try.ntmps28
      go_wp2_with (first | ((with_reducible refine gate_callee (f := 42) rfl ?_); refine goesL_ (some 35) rfl rfl Try.func42 (by kernel_rfl) rfl #[.int .i16 (IntKind.i16.wrap (a1)), .int .i16 (IntKind.i16.wrap (a2))] rfl (by (try simp only [List.map_toArray, List.map_cons, List.map_nil]); first | done | rfl | (simp only [List.length_drop, List.length_take]; rfl)) ?_; (with_reducible refine (mathutil_MulOverflowInt16.calls (IntKind.i16.wrap (a1)) (IntKind.i16.wrap (a2)) t112 t113 _ A7.out).mono ?_); rintro e w' ⟨rfl, ⟨nd, rfl⟩⟩; refine ⟨_, rfl, ?_⟩))
      go_ret2
      exact ⟨by first | rfl | (simp; done) | (simp [*]; done), by repeat (first | exact Drawn0.refl _ | apply Drawn0.step)⟩
    · rw [if_neg c6] at H
      have c6b0 : (a0 == 16) = false := beq_eq_false_iff_ne.mpr c6
      have c6b1 : (a0 != 16) = true := bne_iff_ne.mpr c6
      by_cases c8 : a0 = 32
      · rw [if_pos c8] at H
        have c8b0 : (a0 == 32) = true := beq_iff_eq.mpr c8
        have c8b1 : (a0 != 32) = false := bne_eq_false_iff_eq.mpr c8
        clear c8
        replace H := Option.bind_eq_some_iff.mp H
        obtain ⟨⟨t114, t115⟩, A90, H⟩ := H
        replace H : (some (wrap64 (t114), t115)) = some (r1, r2) := H
        have A9 := Aside0.mk A90
        clear A90
        simp only [Option.some.injEq, Prod.mk.injEq] at H
        obtain ⟨rfl, rfl⟩ := H
        go_enter Try.func28, Try.ntmps28
        go_wp2_with (first | ((with_reducible refine gate_callee (f := 43) rfl ?_); refine goesL_ (some 48) rfl rfl Try.func43 (by kernel_rfl) rfl #[.int .i32 (wrap32 (a1)), .int .i32 (wrap32 (a2))] rfl (by (try simp only [List.map_toArray, List.map_cons, List.map_nil]); first | done | rfl | (simp only [List.length_drop, List.length_take]; rfl)) ?_; (with_reducible refine (mathutil_MulOverflowInt32.calls (wrap32 (a1)) (wrap32 (a2)) t114 t115 _ A9.out).mono ?_); rintro e w' ⟨rfl, ⟨nd, rfl⟩⟩; refine ⟨_, rfl, ?_⟩))
        go_ret2
        exact ⟨by first | rfl | (simp; done) | (simp [*]; done), by repeat (first | exact Drawn0.refl _ | apply Drawn0.step)⟩
      · rw [if_neg c8] at H
        have c8b0 : (a0 == 32) = false := beq_eq_false_iff_ne.mpr c8
        have c8b1 : (a0 != 32) = true := bne_iff_ne.mpr c8
        by_cases c10 : a0 = 64
        · rw [if_pos c10] at H
          have c10b0 : (a0 == 64) = true := beq_iff_eq.mpr c10
          have c10b1 : (a0 != 64) = false := bne_eq_false_iff_eq.mpr c10
          clear c10
          replace H := Option.bind_eq_some_iff.mp H
          obtain ⟨⟨t116, t117⟩, A110, H⟩ := H
          replace H : (some (t116, t117)) = some (r1, r2) := H
          have A11 := Aside0.mk A110
          clear A110
          simp only [Option.some.injEq, Prod.mk.injEq] at H
          obtain ⟨rfl, rfl⟩ := H
          go_enter Try.func28, Try.ntmps28
          go_wp2_with (first | ((with_reducible refine gate_callee (f := 44) rfl ?_); refine goesL_ (some 58) rfl rfl Try.func44 (by kernel_rfl) rfl #[.int .i64 a1, .int .i64 a2] rfl (by (try simp only [List.map_toArray, List.map_cons, List.map_nil]); first | done | rfl | (simp only [List.length_drop, List.length_take]; rfl)) ?_; (with_reducible refine (mathutil_MulOverflowInt64.calls k a1 a2 t116 t117 _ A11.out).mono ?_); rintro e w' ⟨rfl, ⟨nd, rfl⟩⟩; refine ⟨_, rfl, ?_⟩))
          go_ret2
          exact ⟨by first | rfl | (simp; done) | (simp [*]; done), by repeat (first | exact Drawn0.refl _ | apply Drawn0.step)⟩
        · rw [if_neg c10] at H
          have c10b0 : (a0 == 64) = false := beq_eq_false_iff_ne.mpr c10
          have c10b1 : (a0 != 64) = true := bne_iff_ne.mpr c10
          simp only [Option.some.injEq, Prod.mk.injEq] at H
          obtain ⟨rfl, rfl⟩ := H
          go_enter Try.func28, Try.ntmps28
          go_wp2
          go_ret2
          exact ⟨by first | rfl | (simp; done) | (simp [*]; done), by repeat (first | exact Drawn0.refl _ | apply Drawn0.step)⟩

/-! ### mathutil_SubOverflowInt8: function 45 -/
def mathutil_SubOverflowInt8.j0 : Nat → Int → Int → Int → Bool → Option (Int × Bool)
  | 0, _, _, _, _ => none
  | k + 1, x0, x1, x4, x14 => if x14 = true then (some (x4, decide (((x4) % 256) ≥ 128))) else (if x0 < 0 then (if x1 > 0 then (some (x4, decide (((x4) % 256) ≤ 127))) else (some (x4, false))) else (some (x4, false)))
def mathutil_SubOverflowInt8.f (k : Nat) (a0 : Int) (a1 : Int) : Option (Int × Bool) := if a0 ≥ 0 then (mathutil_SubOverflowInt8.j0 k a0 a1 (IntKind.i8.wrap (a0 - a1)) (decide (a1 < 0))) else (mathutil_SubOverflowInt8.j0 k a0 a1 (IntKind.i8.wrap (a0 - a1)) false)
theorem mathutil_SubOverflowInt8.mono_l : ∀ k, (∀ y0 y1 y2 y3, LeO (mathutil_SubOverflowInt8.j0 k y0 y1 y2 y3) (mathutil_SubOverflowInt8.j0 (k + 1) y0 y1 y2 y3))
  | 0 => fun _ _ _ _ r h => by simp [mathutil_SubOverflowInt8.j0] at h
  | k + 1 => by
    have ih0 := mathutil_SubOverflowInt8.mono_l k
    · intro y0 y1 y2 y3
      unfold mathutil_SubOverflowInt8.j0
      repeat' first
      | (with_reducible exact ih0 _ _ _ _)
      | (with_reducible exact LeO.refl _)
      | (with_reducible exact LeO.none _)
      | (with_reducible refine LeO.ite ?_ ?_)
      | (with_reducible refine LeO.bind ?_ (fun _ => ?_))
      | exact ih0 _ _ _ _
      | exact LeO.none _
      | refine LeO.ite ?_ ?_
      | refine LeO.bind ?_ (fun _ => ?_)
theorem mathutil_SubOverflowInt8.mono : ∀ a0 a1 k, LeO (mathutil_SubOverflowInt8.f k a0 a1) (mathutil_SubOverflowInt8.f (k + 1) a0 a1) := by
  intro a0 a1 k
  have ih0 := mathutil_SubOverflowInt8.mono_l k
  unfold mathutil_SubOverflowInt8.f
  repeat' first
      | (with_reducible exact ih0 _ _ _ _)
      | (with_reducible exact LeO.refl _)
      | (with_reducible exact LeO.none _)
      | (with_reducible refine LeO.ite ?_ ?_)
      | (with_reducible refine LeO.bind ?_ (fun _ => ?_))
      | exact ih0 _ _ _ _
      | exact LeO.none _
      | refine LeO.ite ?_ ?_
      | refine LeO.bind ?_ (fun _ => ?_)
set_option maxHeartbeats 8000000 in
set_option maxRecDepth 100000 in
theorem mathutil_SubOverflowInt8.calls (k : Nat) (a0 : Int) (a1 : Int) (r1 : Int) (r2 : Bool) (w : World) (h : mathutil_SubOverflowInt8.f k a0 a1 = some (r1, r2)) :
    Calls Try.prog 45 #[.int .i8 a0, .int .i8 a1] w fun e w' => e = .returned (.tuple #[.int .i8 r1, .bool r2]) ∧ Drawn0 w w' := by
  have H : (if a0 ≥ 0 then (mathutil_SubOverflowInt8.j0 k a0 a1 (IntKind.i8.wrap (a0 - a1)) (decide (a1 < 0))) else (mathutil_SubOverflowInt8.j0 k a0 a1 (IntKind.i8.wrap (a0 - a1)) false)) = some (r1, r2) := h
  clear h
  have HC3 := Aside0.mk H
  clear H
  go_enter Try.func45, Try.ntmps45
  go_upto_region 2 with (fail)
  go_cut [14] (fun v14 wc => ∃ (kq : Nat) (x14_2 : Bool), v14 = .bool x14_2 ∧ Aside0 (mathutil_SubOverflowInt8.j0 kq a0 a1 (IntKind.i8.wrap (a0 - a1)) x14_2 = some (r1, r2)) ∧ Aside0 (kq ≤ k) ∧ Drawn0 w wc)
  case first =>
    have H := HC3.out
    clear HC3
    by_cases c4 : a0 ≥ 0
    · rw [if_pos c4] at H
      have c4b0 : decide (0 ≤ a0) = true := decide_eq_true c4
      clear c4
      (first | rw [c4b0] | (simp only [i64_w, i32_w]; rw [c4b0]) | skip)
      have H' := Aside0.mk H
      clear H
      go_wp2
      go_meet
      case rel => exact ⟨_, (decide (a1 < 0)), (by first | rfl | (simp; done) | (simp [*]; done)), H', ⟨by first | omega | exact Nat.le_refl _⟩, by repeat (first | exact Drawn0.refl _ | apply Drawn0.step)⟩
    · rw [if_neg c4] at H
      have c4b0 : decide (0 ≤ a0) = false := decide_eq_false c4
      clear c4
      (first | rw [c4b0] | (simp only [i64_w, i32_w]; rw [c4b0]) | skip)
      have H' := Aside0.mk H
      clear H
      go_wp2
      go_meet
      case rel => exact ⟨_, (false), (by first | rfl | (simp; done) | (simp [*]; done)), H', ⟨by first | omega | exact Nat.le_refl _⟩, by repeat (first | exact Drawn0.refl _ | apply Drawn0.step)⟩
  case rest =>
    clear HC3
    try clear p2
    try clear c4
    try clear c4b0
    obtain ⟨kq, x14_2, rfl, HA, HJ2, ⟨mc2, rfl⟩⟩ := hcut
    cases kq with
    | zero => exact absurd HA.out (by simp [mathutil_SubOverflowInt8.j0])
    | succ kj2 =>
      have H := HA.out
      clear HA
      simp only [mathutil_SubOverflowInt8.j0] at H
      by_cases c5 : x14_2 = true
      · subst c5
        have H1 : (some ((IntKind.i8.wrap (a0 - a1)), decide ((((IntKind.i8.wrap (a0 - a1))) % 256) ≥ 128))) = some (r1, r2) := by rw [if_pos rfl] at H; exact H
        clear H
        have H := H1
        clear H1
        simp only [Option.some.injEq, Prod.mk.injEq] at H
        obtain ⟨rfl, rfl⟩ := H
        go_wp2
        go_ret2
        exact ⟨by first | rfl | (simp; done) | (simp [*]; done), by repeat (first | exact Drawn0.refl _ | apply Drawn0.step)⟩
      · replace c5 := Bool.eq_false_iff.mpr c5
        subst c5
        have H1 : (if a0 < 0 then (if a1 > 0 then (some ((IntKind.i8.wrap (a0 - a1)), decide ((((IntKind.i8.wrap (a0 - a1))) % 256) ≤ 127))) else (some ((IntKind.i8.wrap (a0 - a1)), false))) else (some ((IntKind.i8.wrap (a0 - a1)), false))) = some (r1, r2) := by rw [if_neg (show ¬ (false = true) by decide)] at H; exact H
        clear H
        have H := H1
        clear H1
        by_cases c6 : a0 < 0
        · rw [if_pos c6] at H
          have c6b0 : decide (a0 < 0) = true := decide_eq_true c6
          clear c6
          by_cases c7 : a1 > 0
          · rw [if_pos c7] at H
            have c7b0 : decide (0 < a1) = true := decide_eq_true c7
            clear c7
            simp only [Option.some.injEq, Prod.mk.injEq] at H
            obtain ⟨rfl, rfl⟩ := H
            go_wp2
            go_ret2
            exact ⟨by first | rfl | (simp; done) | (simp [*]; done), by repeat (first | exact Drawn0.refl _ | apply Drawn0.step)⟩
          · rw [if_neg c7] at H
            have c7b0 : decide (0 < a1) = false := decide_eq_false c7
            clear c7
            simp only [Option.some.injEq, Prod.mk.injEq] at H
            obtain ⟨rfl, rfl⟩ := H
            go_wp2
            go_ret2
            exact ⟨by first | rfl | (simp; done) | (simp [*]; done), by repeat (first | exact Drawn0.refl _ | apply Drawn0.step)⟩
        · rw [if_neg c6] at H
          have c6b0 : decide (a0 < 0) = false := decide_eq_false c6
          clear c6
          simp only [Option.some.injEq, Prod.mk.injEq] at H
          obtain ⟨rfl, rfl⟩ := H
          go_wp2
          go_ret2
          exact ⟨by first | rfl | (simp; done) | (simp [*]; done), by repeat (first | exact Drawn0.refl _ | apply Drawn0.step)⟩

/-! ### mathutil_SubOverflowInt16: function 46 -/
def mathutil_SubOverflowInt16.j0 : Nat → Int → Int → Int → Bool → Option (Int × Bool)
  | 0, _, _, _, _ => none
  | k + 1, x0, x1, x4, x14 => if x14 = true then (some (x4, decide ((IntKind.u16.wrap (x4)) ≥ 32768))) else (if x0 < 0 then (if x1 > 0 then (some (x4, decide ((IntKind.u16.wrap (x4)) ≤ 32767))) else (some (x4, false))) else (some (x4, false)))
def mathutil_SubOverflowInt16.f (k : Nat) (a0 : Int) (a1 : Int) : Option (Int × Bool) := if a0 ≥ 0 then (mathutil_SubOverflowInt16.j0 k a0 a1 (IntKind.i16.wrap (a0 - a1)) (decide (a1 < 0))) else (mathutil_SubOverflowInt16.j0 k a0 a1 (IntKind.i16.wrap (a0 - a1)) false)
theorem mathutil_SubOverflowInt16.mono_l : ∀ k, (∀ y0 y1 y2 y3, LeO (mathutil_SubOverflowInt16.j0 k y0 y1 y2 y3) (mathutil_SubOverflowInt16.j0 (k + 1) y0 y1 y2 y3))
  | 0 => fun _ _ _ _ r h => by simp [mathutil_SubOverflowInt16.j0] at h
  | k + 1 => by
    have ih0 := mathutil_SubOverflowInt16.mono_l k
    · intro y0 y1 y2 y3
      unfold mathutil_SubOverflowInt16.j0
      repeat' first
      | (with_reducible exact ih0 _ _ _ _)
      | (with_reducible exact LeO.refl _)
      | (with_reducible exact LeO.none _)
      | (with_reducible refine LeO.ite ?_ ?_)
      | (with_reducible refine LeO.bind ?_ (fun _ => ?_))
      | exact ih0 _ _ _ _
      | exact LeO.none _
      | refine LeO.ite ?_ ?_
      | refine LeO.bind ?_ (fun _ => ?_)
theorem mathutil_SubOverflowInt16.mono : ∀ a0 a1 k, LeO (mathutil_SubOverflowInt16.f k a0 a1) (mathutil_SubOverflowInt16.f (k + 1) a0 a1) := by
  intro a0 a1 k
  have ih0 := mathutil_SubOverflowInt16.mono_l k
  unfold mathutil_SubOverflowInt16.f
  repeat' first
      | (with_reducible exact ih0 _ _ _ _)
      | (with_reducible exact LeO.refl _)
      | (with_reducible exact LeO.none _)
      | (with_reducible refine LeO.ite ?_ ?_)
      | (with_reducible refine LeO.bind ?_ (fun _ => ?_))
      | exact ih0 _ _ _ _
      | exact LeO.none _
      | refine LeO.ite ?_ ?_
      | refine LeO.bind ?_ (fun _ => ?_)
set_option maxHeartbeats 8000000 in
set_option maxRecDepth 100000 in
theorem mathutil_SubOverflowInt16.calls (k : Nat) (a0 : Int) (a1 : Int) (r1 : Int) (r2 : Bool) (w : World) (h : mathutil_SubOverflowInt16.f k a0 a1 = some (r1, r2)) :
    Calls Try.prog 46 #[.int .i16 a0, .int .i16 a1] w fun e w' => e = .returned (.tuple #[.int .i16 r1, .bool r2]) ∧ Drawn0 w w' := by
  have H : (if a0 ≥ 0 then (mathutil_SubOverflowInt16.j0 k a0 a1 (IntKind.i16.wrap (a0 - a1)) (decide (a1 < 0))) else (mathutil_SubOverflowInt16.j0 k a0 a1 (IntKind.i16.wrap (a0 - a1)) false)) = some (r1, r2) := h
  clear h
  have HC3 := Aside0.mk H
  clear H
  go_enter Try.func46, Try.ntmps46
  go_upto_region 2 with (fail)
  go_cut [14] (fun v14 wc => ∃ (kq : Nat) (x14_2 : Bool), v14 = .bool x14_2 ∧ Aside0 (mathutil_SubOverflowInt16.j0 kq a0 a1 (IntKind.i16.wrap (a0 - a1)) x14_2 = some (r1, r2)) ∧ Aside0 (kq ≤ k) ∧ Drawn0 w wc)
  case first =>
    have H := HC3.out
    clear HC3
    by_cases c4 : a0 ≥ 0
    · rw [if_pos c4] at H
      have c4b0 : decide (0 ≤ a0) = true := decide_eq_true c4
      clear c4
      (first | rw [c4b0] | (simp only [i64_w, i32_w]; rw [c4b0]) | skip)
      have H' := Aside0.mk H
      clear H
      go_wp2
      go_meet
      case rel => exact ⟨_, (decide (a1 < 0)), (by first | rfl | (simp; done) | (simp [*]; done)), H', ⟨by first | omega | exact Nat.le_refl _⟩, by repeat (first | exact Drawn0.refl _ | apply Drawn0.step)⟩
    · rw [if_neg c4] at H
      have c4b0 : decide (0 ≤ a0) = false := decide_eq_false c4
      clear c4
      (first | rw [c4b0] | (simp only [i64_w, i32_w]; rw [c4b0]) | skip)
      have H' := Aside0.mk H
      clear H
      go_wp2
      go_meet
      case rel => exact ⟨_, (false), (by first | rfl | (simp; done) | (simp [*]; done)), H', ⟨by first | omega | exact Nat.le_refl _⟩, by repeat (first | exact Drawn0.refl _ | apply Drawn0.step)⟩
  case rest =>
    clear HC3
    try clear p2
    try clear c4
    try clear c4b0
    obtain ⟨kq, x14_2, rfl, HA, HJ2, ⟨mc2, rfl⟩⟩ := hcut
    cases kq with
    | zero => exact absurd HA.out (by simp [mathutil_SubOverflowInt16.j0])
    | succ kj2 =>
      have H := HA.out
      clear HA
      simp only [mathutil_SubOverflowInt16.j0] at H
      by_cases c5 : x14_2 = true
      · subst c5
        have H1 : (some ((IntKind.i16.wrap (a0 - a1)), decide ((IntKind.u16.wrap ((IntKind.i16.wrap (a0 - a1)))) ≥ 32768))) = some (r1, r2) := by rw [if_pos rfl] at H; exact H
        clear H
        have H := H1
        clear H1
        simp only [Option.some.injEq, Prod.mk.injEq] at H
        obtain ⟨rfl, rfl⟩ := H
        go_wp2
        go_ret2
        exact ⟨by first | rfl | (simp; done) | (simp [*]; done), by repeat (first | exact Drawn0.refl _ | apply Drawn0.step)⟩
      · replace c5 := Bool.eq_false_iff.mpr c5
        subst c5
        have H1 : (if a0 < 0 then (if a1 > 0 then (some ((IntKind.i16.wrap (a0 - a1)), decide ((IntKind.u16.wrap ((IntKind.i16.wrap (a0 - a1)))) ≤ 32767))) else (some ((IntKind.i16.wrap (a0 - a1)), false))) else (some ((IntKind.i16.wrap (a0 - a1)), false))) = some (r1, r2) := by rw [if_neg (show ¬ (false = true) by decide)] at H; exact H
        clear H
        have H := H1
        clear H1
        by_cases c6 : a0 < 0
        · rw [if_pos c6] at H
          have c6b0 : decide (a0 < 0) = true := decide_eq_true c6
          clear c6
          by_cases c7 : a1 > 0
          · rw [if_pos c7] at H
            have c7b0 : decide (0 < a1) = true := decide_eq_true c7
            clear c7
            simp only [Option.some.injEq, Prod.mk.injEq] at H
            obtain ⟨rfl, rfl⟩ := H
            go_wp2
            go_ret2
            exact ⟨by first | rfl | (simp; done) | (simp [*]; done), by repeat (first | exact Drawn0.refl _ | apply Drawn0.step)⟩
          · rw [if_neg c7] at H
            have c7b0 : decide (0 < a1) = false := decide_eq_false c7
            clear c7
            simp only [Option.some.injEq, Prod.mk.injEq] at H
            obtain ⟨rfl, rfl⟩ := H
            go_wp2
            go_ret2
            exact ⟨by first | rfl | (simp; done) | (simp [*]; done), by repeat (first | exact Drawn0.refl _ | apply Drawn0.step)⟩
        · rw [if_neg c6] at H
          have c6b0 : decide (a0 < 0) = false := decide_eq_false c6
          clear c6
          simp only [Option.some.injEq, Prod.mk.injEq] at H
          obtain ⟨rfl, rfl⟩ := H
          go_wp2
          go_ret2
          exact ⟨by first | rfl | (simp; done) | (simp [*]; done), by repeat (first | exact Drawn0.refl _ | apply Drawn0.step)⟩

/-! ### mathutil_SubOverflowInt32: function 47 -/
def mathutil_SubOverflowInt32.j0 : Nat → Int → Int → Int → Bool → Option (Int × Bool)
  | 0, _, _, _, _ => none
  | k + 1, x0, x1, x4, x14 => if x14 = true then (some (x4, decide (((x4) % 4294967296) ≥ 2147483648))) else (if x0 < 0 then (if x1 > 0 then (some (x4, decide (((x4) % 4294967296) ≤ 2147483647))) else (some (x4, false))) else (some (x4, false)))
def mathutil_SubOverflowInt32.f (k : Nat) (a0 : Int) (a1 : Int) : Option (Int × Bool) := if a0 ≥ 0 then (mathutil_SubOverflowInt32.j0 k a0 a1 (wrap32 (a0 - a1)) (decide (a1 < 0))) else (mathutil_SubOverflowInt32.j0 k a0 a1 (wrap32 (a0 - a1)) false)
theorem mathutil_SubOverflowInt32.mono_l : ∀ k, (∀ y0 y1 y2 y3, LeO (mathutil_SubOverflowInt32.j0 k y0 y1 y2 y3) (mathutil_SubOverflowInt32.j0 (k + 1) y0 y1 y2 y3))
  | 0 => fun _ _ _ _ r h => by simp [mathutil_SubOverflowInt32.j0] at h
  | k + 1 => by
    have ih0 := mathutil_SubOverflowInt32.mono_l k
    · intro y0 y1 y2 y3
      unfold mathutil_SubOverflowInt32.j0
      repeat' first
      | (with_reducible exact ih0 _ _ _ _)
      | (with_reducible exact LeO.refl _)
      | (with_reducible exact LeO.none _)
      | (with_reducible refine LeO.ite ?_ ?_)
      | (with_reducible refine LeO.bind ?_ (fun _ => ?_))
      | exact ih0 _ _ _ _
      | exact LeO.none _
      | refine LeO.ite ?_ ?_
      | refine LeO.bind ?_ (fun _ => ?_)
theorem mathutil_SubOverflowInt32.mono : ∀ a0 a1 k, LeO (mathutil_SubOverflowInt32.f k a0 a1) (mathutil_SubOverflowInt32.f (k + 1) a0 a1) := by
  intro a0 a1 k
  have ih0 := mathutil_SubOverflowInt32.mono_l k
  unfold mathutil_SubOverflowInt32.f
  repeat' first
      | (with_reducible exact ih0 _ _ _ _)
      | (with_reducible exact LeO.refl _)
      | (with_reducible exact LeO.none _)
      | (with_reducible refine LeO.ite ?_ ?_)
      | (with_reducible refine LeO.bind ?_ (fun _ => ?_))
      | exact ih0 _ _ _ _
      | exact LeO.none _
      | refine LeO.ite ?_ ?_
      | refine LeO.bind ?_ (fun _ => ?_)
set_option maxHeartbeats 8000000 in
set_option maxRecDepth 100000 in
theorem mathutil_SubOverflowInt32.calls (k : Nat) (a0 : Int) (a1 : Int) (r1 : Int) (r2 : Bool) (w : World) (h : mathutil_SubOverflowInt32.f k a0 a1 = some (r1, r2)) :
    Calls Try.prog 47 #[.int .i32 a0, .int .i32 a1] w fun e w' => e = .returned (.tuple #[.int .i32 r1, .bool r2]) ∧ Drawn0 w w' := by
  have H : (if a0 ≥ 0 then (mathutil_SubOverflowInt32.j0 k a0 a1 (wrap32 (a0 - a1)) (decide (a1 < 0))) else (mathutil_SubOverflowInt32.j0 k a0 a1 (wrap32 (a0 - a1)) false)) = some (r1, r2) := h
  clear h
  have HC3 := Aside0.mk H
  clear H
  go_enter Try.func47, Try.ntmps47
  go_upto_region 2 with (fail)
  go_cut [14] (fun v14 wc => ∃ (kq : Nat) (x14_2 : Bool), v14 = .bool x14_2 ∧ Aside0 (mathutil_SubOverflowInt32.j0 kq a0 a1 (wrap32 (a0 - a1)) x14_2 = some (r1, r2)) ∧ Aside0 (kq ≤ k) ∧ Drawn0 w wc)
  case first =>
    have H := HC3.out
    clear HC3
    by_cases c4 : a0 ≥ 0
    · rw [if_pos c4] at H
      have c4b0 : decide (0 ≤ a0) = true := decide_eq_true c4
      clear c4
      (first | rw [c4b0] | (simp only [i64_w, i32_w]; rw [c4b0]) | skip)
      have H' := Aside0.mk H
      clear H
      go_wp2
      go_meet
      case rel => exact ⟨_, (decide (a1 < 0)), (by first | rfl | (simp; done) | (simp [*]; done)), H', ⟨by first | omega | exact Nat.le_refl _⟩, by repeat (first | exact Drawn0.refl _ | apply Drawn0.step)⟩
    · rw [if_neg c4] at H
      have c4b0 : decide (0 ≤ a0) = false := decide_eq_false c4
      clear c4
      (first | rw [c4b0] | (simp only [i64_w, i32_w]; rw [c4b0]) | skip)
      have H' := Aside0.mk H
      clear H
      go_wp2
      go_meet
      case rel => exact ⟨_, (false), (by first | rfl | (simp; done) | (simp [*]; done)), H', ⟨by first | omega | exact Nat.le_refl _⟩, by repeat (first | exact Drawn0.refl _ | apply Drawn0.step)⟩
  case rest =>
    clear HC3
    try clear p2
    try clear p3
    try clear c4
    try clear c4b0
    obtain ⟨kq, x14_2, rfl, HA, HJ2, ⟨mc2, rfl⟩⟩ := hcut
    cases kq with
    | zero => exact absurd HA.out (by simp [mathutil_SubOverflowInt32.j0])
    | succ kj2 =>
      have H := HA.out
      clear HA
      simp only [mathutil_SubOverflowInt32.j0] at H
      by_cases c5 : x14_2 = true
      · subst c5
        have H1 : (some ((wrap32 (a0 - a1)), decide ((((wrap32 (a0 - a1))) % 4294967296) ≥ 2147483648))) = some (r1, r2) := by rw [if_pos rfl] at H; exact H
        clear H
        have H := H1
        clear H1
        simp only [Option.some.injEq, Prod.mk.injEq] at H
        obtain ⟨rfl, rfl⟩ := H
        go_wp2
        go_ret2
        exact ⟨by first | rfl | (simp; done) | (simp [*]; done), by repeat (first | exact Drawn0.refl _ | apply Drawn0.step)⟩
      · replace c5 := Bool.eq_false_iff.mpr c5
        subst c5
        have H1 : (if a0 < 0 then (if a1 > 0 then (some ((wrap32 (a0 - a1)), decide ((((wrap32 (a0 - a1))) % 4294967296) ≤ 2147483647))) else (some ((wrap32 (a0 - a1)), false))) else (some ((wrap32 (a0 - a1)), false))) = some (r1, r2) := by rw [if_neg (show ¬ (false = true) by decide)] at H; exact H
        clear H
        have H := H1
        clear H1
        by_cases c6 : a0 < 0
        · rw [if_pos c6] at H
          have c6b0 : decide (a0 < 0) = true := decide_eq_true c6
          clear c6
          by_cases c7 : a1 > 0
          · rw [if_pos c7] at H
            have c7b0 : decide (0 < a1) = true := decide_eq_true c7
            clear c7
            simp only [Option.some.injEq, Prod.mk.injEq] at H
            obtain ⟨rfl, rfl⟩ := H
            go_wp2
            go_ret2
            exact ⟨by first | rfl | (simp; done) | (simp [*]; done), by repeat (first | exact Drawn0.refl _ | apply Drawn0.step)⟩
          · rw [if_neg c7] at H
            have c7b0 : decide (0 < a1) = false := decide_eq_false c7
            clear c7
            simp only [Option.some.injEq, Prod.mk.injEq] at H
            obtain ⟨rfl, rfl⟩ := H
            go_wp2
            go_ret2
            exact ⟨by first | rfl | (simp; done) | (simp [*]; done), by repeat (first | exact Drawn0.refl _ | apply Drawn0.step)⟩
        · rw [if_neg c6] at H
          have c6b0 : decide (a0 < 0) = false := decide_eq_false c6
          clear c6
          simp only [Option.some.injEq, Prod.mk.injEq] at H
          obtain ⟨rfl, rfl⟩ := H
          go_wp2
          go_ret2
          exact ⟨by first | rfl | (simp; done) | (simp [*]; done), by repeat (first | exact Drawn0.refl _ | apply Drawn0.step)⟩

/-! ### mathutil_SubOverflowInt64: function 48 -/
def mathutil_SubOverflowInt64.j0 : Nat → Int → Int → Int → Bool → Option (Int × Bool)
  | 0, _, _, _, _ => none
  | k + 1, x0, x1, x4, x14 => if x14 = true then (some (x4, decide ((IntKind.u64.wrap (x4)) ≥ 9223372036854775808))) else (if x0 < 0 then (if x1 > 0 then (some (x4, decide ((IntKind.u64.wrap (x4)) ≤ 9223372036854775807))) else (some (x4, false))) else (some (x4, false)))
def mathutil_SubOverflowInt64.f (k : Nat) (a0 : Int) (a1 : Int) : Option (Int × Bool) := if a0 ≥ 0 then (mathutil_SubOverflowInt64.j0 k a0 a1 (wrap64 (a0 - a1)) (decide (a1 < 0))) else (mathutil_SubOverflowInt64.j0 k a0 a1 (wrap64 (a0 - a1)) false)
theorem mathutil_SubOverflowInt64.mono_l : ∀ k, (∀ y0 y1 y2 y3, LeO (mathutil_SubOverflowInt64.j0 k y0 y1 y2 y3) (mathutil_SubOverflowInt64.j0 (k + 1) y0 y1 y2 y3))
  | 0 => fun _ _ _ _ r h => by simp [mathutil_SubOverflowInt64.j0] at h
  | k + 1 => by
    have ih0 := mathutil_SubOverflowInt64.mono_l k
    · intro y0 y1 y2 y3
      unfold mathutil_SubOverflowInt64.j0
      repeat' first
      | (with_reducible exact ih0 _ _ _ _)
      | (with_reducible exact LeO.refl _)
      | (with_reducible exact LeO.none _)
      | (with_reducible refine LeO.ite ?_ ?_)
      | (with_reducible refine LeO.bind ?_ (fun _ => ?_))
      | exact ih0 _ _ _ _
      | exact LeO.none _
      | refine LeO.ite ?_ ?_
      | refine LeO.bind ?_ (fun _ => ?_)
theorem mathutil_SubOverflowInt64.mono : ∀ a0 a1 k, LeO (mathutil_SubOverflowInt64.f k a0 a1) (mathutil_SubOverflowInt64.f (k + 1) a0 a1) := by
  intro a0 a1 k
  have ih0 := mathutil_SubOverflowInt64.mono_l k
  unfold mathutil_SubOverflowInt64.f
  repeat' first
      | (with_reducible exact ih0 _ _ _ _)
      | (with_reducible exact LeO.refl _)
      | (with_reducible exact LeO.none _)
      | (with_reducible refine LeO.ite ?_ ?_)
      | (with_reducible refine LeO.bind ?_ (fun _ => ?_))
      | exact ih0 _ _ _ _
      | exact LeO.none _
      | refine LeO.ite ?_ ?_
      | refine LeO.bind ?_ (fun _ => ?_)
set_option maxHeartbeats 8000000 in
set_option maxRecDepth 100000 in
theorem mathutil_SubOverflowInt64.calls (k : Nat) (a0 : Int) (a1 : Int) (r1 : Int) (r2 : Bool) (w : World) (h : mathutil_SubOverflowInt64.f k a0 a1 = some (r1, r2)) :
    Calls Try.prog 48 #[.int .i64 a0, .int .i64 a1] w fun e w' => e = .returned (.tuple #[.int .i64 r1, .bool r2]) ∧ Drawn0 w w' := by
  have H : (if a0 ≥ 0 then (mathutil_SubOverflowInt64.j0 k a0 a1 (wrap64 (a0 - a1)) (decide (a1 < 0))) else (mathutil_SubOverflowInt64.j0 k a0 a1 (wrap64 (a0 - a1)) false)) = some (r1, r2) := h
  clear h
  have HC3 := Aside0.mk H
  clear H
  go_enter Try.func48, Try.ntmps48
  go_upto_region 2 with (fail)
  go_cut [14] (fun v14 wc => ∃ (kq : Nat) (x14_2 : Bool), v14 = .bool x14_2 ∧ Aside0 (mathutil_SubOverflowInt64.j0 kq a0 a1 (wrap64 (a0 - a1)) x14_2 = some (r1, r2)) ∧ Aside0 (kq ≤ k) ∧ Drawn0 w wc)
  case first =>
    have H := HC3.out
    clear HC3
    by_cases c4 : a0 ≥ 0
    · rw [if_pos c4] at H
      have c4b0 : decide (0 ≤ a0) = true := decide_eq_true c4
      clear c4
      (first | rw [c4b0] | (simp only [i64_w, i32_w]; rw [c4b0]) | skip)
      have H' := Aside0.mk H
      clear H
      go_wp2
      go_meet
      case rel => exact ⟨_, (decide (a1 < 0)), (by first | rfl | (simp; done) | (simp [*]; done)), H', ⟨by first | omega | exact Nat.le_refl _⟩, by repeat (first | exact Drawn0.refl _ | apply Drawn0.step)⟩
    · rw [if_neg c4] at H
      have c4b0 : decide (0 ≤ a0) = false := decide_eq_false c4
      clear c4
      (first | rw [c4b0] | (simp only [i64_w, i32_w]; rw [c4b0]) | skip)
      have H' := Aside0.mk H
      clear H
      go_wp2
      go_meet
      case rel => exact ⟨_, (false), (by first | rfl | (simp; done) | (simp [*]; done)), H', ⟨by first | omega | exact Nat.le_refl _⟩, by repeat (first | exact Drawn0.refl _ | apply Drawn0.step)⟩
  case rest =>
    clear HC3
    try clear p2
    try clear c4
    try clear c4b0
    obtain ⟨kq, x14_2, rfl, HA, HJ2, ⟨mc2, rfl⟩⟩ := hcut
    cases kq with
    | zero => exact absurd HA.out (by simp [mathutil_SubOverflowInt64.j0])
    | succ kj2 =>
      have H := HA.out
      clear HA
      simp only [mathutil_SubOverflowInt64.j0] at H
      by_cases c5 : x14_2 = true
      · subst c5
        have H1 : (some ((wrap64 (a0 - a1)), decide ((IntKind.u64.wrap ((wrap64 (a0 - a1)))) ≥ 9223372036854775808))) = some (r1, r2) := by rw [if_pos rfl] at H; exact H
        clear H
        have H := H1
        clear H1
        simp only [Option.some.injEq, Prod.mk.injEq] at H
        obtain ⟨rfl, rfl⟩ := H
        go_wp2
        go_ret2
        exact ⟨by first | rfl | (simp; done) | (simp [*]; done), by repeat (first | exact Drawn0.refl _ | apply Drawn0.step)⟩
      · replace c5 := Bool.eq_false_iff.mpr c5
        subst c5
        have H1 : (if a0 < 0 then (if a1 > 0 then (some ((wrap64 (a0 - a1)), decide ((IntKind.u64.wrap ((wrap64 (a0 - a1)))) ≤ 9223372036854775807))) else (some ((wrap64 (a0 - a1)), false))) else (some ((wrap64 (a0 - a1)), false))) = some (r1, r2) := by rw [if_neg (show ¬ (false = true) by decide)] at H; exact H
        clear H
        have H := H1
        clear H1
        by_cases c6 : a0 < 0
        · rw [if_pos c6] at H
          have c6b0 : decide (a0 < 0) = true := decide_eq_true c6
          clear c6
          by_cases c7 : a1 > 0
          · rw [if_pos c7] at H
            have c7b0 : decide (0 < a1) = true := decide_eq_true c7
            clear c7
            simp only [Option.some.injEq, Prod.mk.injEq] at H
            obtain ⟨rfl, rfl⟩ := H
            go_wp2
            go_ret2
            exact ⟨by first | rfl | (simp; done) | (simp [*]; done), by repeat (first | exact Drawn0.refl _ | apply Drawn0.step)⟩
          · rw [if_neg c7] at H
            have c7b0 : decide (0 < a1) = false := decide_eq_false c7
            clear c7
            simp only [Option.some.injEq, Prod.mk.injEq] at H
            obtain ⟨rfl, rfl⟩ := H
            go_wp2
            go_ret2
            exact ⟨by first | rfl | (simp; done) | (simp [*]; done), by repeat (first | exact Drawn0.refl _ | apply Drawn0.step)⟩
        · rw [if_neg c6] at H
          have c6b0 : decide (a0 < 0) = false := decide_eq_false c6
          clear c6
          simp only [Option.some.injEq, Prod.mk.injEq] at H
          obtain ⟨rfl, rfl⟩ := H
          go_wp2
          go_ret2
          exact ⟨by first | rfl | (simp; done) | (simp [*]; done), by repeat (first | exact Drawn0.refl _ | apply Drawn0.step)⟩

/-! ### impl_SubOverflow: function 30 -/
def impl_SubOverflow.f (k : Nat) (a0 : Int) (a1 : Int) (a2 : Int) : Option (Int × Bool) := if a0 = 8 then ((mathutil_SubOverflowInt8.f k (IntKind.i8.wrap (a1)) (IntKind.i8.wrap (a2))).bind fun bt118 => (some (wrap64 (bt118.1), bt118.2))) else (if a0 = 16 then ((mathutil_SubOverflowInt16.f k (IntKind.i16.wrap (a1)) (IntKind.i16.wrap (a2))).bind fun bt120 => (some (wrap64 (bt120.1), bt120.2))) else (if a0 = 32 then ((mathutil_SubOverflowInt32.f k (wrap32 (a1)) (wrap32 (a2))).bind fun bt122 => (some (wrap64 (bt122.1), bt122.2))) else (if a0 = 64 then ((mathutil_SubOverflowInt64.f k a1 a2).bind fun bt124 => (some (bt124.1, bt124.2))) else (some (0, false)))))
theorem impl_SubOverflow.mono : ∀ a0 a1 a2 k, LeO (impl_SubOverflow.f k a0 a1 a2) (impl_SubOverflow.f (k + 1) a0 a1 a2) := by
  intro a0 a1 a2 k
  unfold impl_SubOverflow.f
  repeat' first
      | (with_reducible exact mathutil_SubOverflowInt16.mono _ _ _)
      | (with_reducible exact mathutil_SubOverflowInt32.mono _ _ _)
      | (with_reducible exact mathutil_SubOverflowInt64.mono _ _ _)
      | (with_reducible exact mathutil_SubOverflowInt8.mono _ _ _)
      | (with_reducible exact LeO.refl _)
      | (with_reducible exact LeO.none _)
      | (with_reducible refine LeO.ite ?_ ?_)
      | (with_reducible refine LeO.bind ?_ (fun _ => ?_))
      | exact mathutil_SubOverflowInt16.mono _ _ _
      | exact mathutil_SubOverflowInt32.mono _ _ _
      | exact mathutil_SubOverflowInt64.mono _ _ _
      | exact mathutil_SubOverflowInt8.mono _ _ _
      | exact LeO.none _
      | refine LeO.ite ?_ ?_
      | refine LeO.bind ?_ (fun _ => ?_)
set_option maxHeartbeats 8000000 in
set_option maxRecDepth 100000 in
theorem impl_SubOverflow.calls (k : Nat) (a0 : Int) (a1 : Int) (a2 : Int) (r1 : Int) (r2 : Bool) (w : World) (h : impl_SubOverflow.f k a0 a1 a2 = some (r1, r2)) :
    Calls Try.prog 30 #[.int .i64 a0, .int .i64 a1, .int .i64 a2] w fun e w' => e = .returned (.tuple #[.int .i64 r1, .bool r2]) ∧ Drawn0 w w' := by
  have H : (if a0 = 8 then ((mathutil_SubOverflowInt8.f k (IntKind.i8.wrap (a1)) (IntKind.i8.wrap (a2))).bind fun bt118 => (some (wrap64 (bt118.1), bt118.2))) else (if a0 = 16 then ((mathutil_SubOverflowInt16.f k (IntKind.i16.wrap (a1)) (IntKind.i16.wrap (a2))).bind fun bt120 => (some (wrap64 (bt120.1), bt120.2))) else (if a0 = 32 then ((mathutil_SubOverflowInt32.f k (wrap32 (a1)) (wrap32 (a2))).bind fun bt122 => (some (wrap64 (bt122.1), bt122.2))) else (if a0 = 64 then ((mathutil_SubOverflowInt64.f k a1 a2).bind fun bt124 => (some (bt124.1, bt124.2))) else (some (0, false)))))) = some (r1, r2) := h
  clear h
  by_cases c4 : a0 = 8
  · rw [if_pos c4] at H
    have c4b0 : (a0 == 8) = true := beq_iff_eq.mpr c4
    have c4b1 : (a0 != 8) = false := bne_eq_false_iff_eq.mpr c4
    clear c4
    replace H := Option.bind_eq_some_iff.mp H
    obtain ⟨⟨t118, t119⟩, A50, H⟩ := H
    replace H : (some (wrap64 (t118), t119)) = some (r1, r2) := H
    have A5 := Aside0.mk A50
    clear A50
    simp only [Option.some.injEq, Prod.mk.injEq] at H
    obtain ⟨rfl, rfl⟩ := H
    go_enter Try.func30, Try.ntmps30
    go_wp2_with (first | ((with_reducible refine gate_callee (f := 45) rfl ?_); refine goesL_ (some 22) rfl rfl Try.func45 (by kernel_rfl) rfl #[.int .i8 (IntKind.i8.wrap (a1)), .int .i8 (IntKind.i8.wrap (a2))] rfl (by (try simp only [List.map_toArray, List.map_cons, List.map_nil]); first | done | rfl | (simp only [List.length_drop, List.length_take]; rfl)) ?_; (with_reducible refine (mathutil_SubOverflowInt8.calls k (IntKind.i8.wrap (a1)) (IntKind.i8.wrap (a2)) t118 t119 _ A5.out).mono ?_); rintro e w' ⟨rfl, ⟨nd, rfl⟩⟩; refine ⟨_, rfl, ?_⟩))
    go_ret2
    exact ⟨by first | rfl | (simp; done) | (simp [*]; done), by repeat (first | exact Drawn0.refl _ | apply Drawn0.step)⟩
  · rw [if_neg c4] at H
    have c4b0 : (a0 == 8) = false := beq_eq_false_iff_ne.mpr c4
    have c4b1 : (a0 != 8) = true := bne_iff_ne.mpr c4
    by_cases c6 : a0 = 16
    · rw [if_pos c6] at H
      have c6b0 : (a0 == 16) = true := beq_iff_eq.mpr c6
      have c6b1 : (a0 != 16) = false := bne_eq_false_iff_eq.mpr c6
      clear c6
      replace H := Option.bind_eq_some_iff.mp H
      obtain ⟨⟨t120, t121⟩, A70, H⟩ := H
      replace H : (some (wrap64 (t120), t121)) = some (r1, r2) := H
      have A7 := Aside0.mk A70
      clear A70
      simp only [Option.some.injEq, Prod.mk.injEq] at H
      obtain ⟨rfl, rfl⟩ := H
      go_enter Try.func30, Try.ntmps30
      go_wp2_with (first | ((with_reducible refine gate_callee (f := 46) rfl ?_); refine goesL_ (some 35) rfl rfl Try.func46 (by kernel_rfl) rfl #[.int .i16 (IntKind.i16.wrap (a1)), .int .i16 (IntKind.i16.wrap (a2))] rfl (by (try simp only [List.map_toArray, List.map_cons, List.map_nil]); first | done | rfl | (simp only [List.length_drop, List.length_take]; rfl)) ?_; (with_reducible refine (mathutil_SubOverflowInt16.calls k (IntKind.i16.wrap (a1)) (IntKind.i16.wrap (a2)) t120 t121 _ A7.out).mono ?_); rintro e w' ⟨rfl, ⟨nd, rfl⟩⟩; refine ⟨_, rfl, ?_⟩))
      go_ret2
      exact ⟨by first | rfl | (simp; done) | (simp [*]; done), by repeat (first | exact Drawn0.refl _ | apply Drawn0.step)⟩
    · rw [if_neg c6] at H
      have c6b0 : (a0 == 16) = false := beq_eq_false_iff_ne.mpr c6
      have c6b1 : (a0 != 16) = true := bne_iff_ne.mpr c6
      by_cases c8 : a0 = 32
      · rw [if_pos c8] at H
        have c8b0 : (a0 == 32) = true := beq_iff_eq.mpr c8
        have c8b1 : (a0 != 32) = false := bne_eq_false_iff_eq.mpr c8
        clear c8
        replace H := Option.bind_eq_some_iff.mp H
        obtain ⟨⟨t122, t123⟩, A90, H⟩ := H
        replace H : (some (wrap64 (t122), t123)) = some (r1, r2) := H
        have A9 := Aside0.mk A90
        clear A90
        simp only [Option.some.injEq, Prod.mk.injEq] at H
        obtain ⟨rfl, rfl⟩ := H
        go_enter Try.func30, Try.ntmps30
        go_wp2_with (first | ((with_reducible refine gate_callee (f := 47) rfl ?_); refine goesL_ (some 48) rfl rfl Try.func47 (by kernel_rfl) rfl #[.int .i32 (wrap32 (a1)), .int .i32 (wrap32 (a2))] rfl (by (try simp only [List.map_toArray, List.map_cons, List.map_nil]); first | done | rfl | (simp only [List.length_drop, List.length_take]; rfl)) ?_; (with_reducible refine (mathutil_SubOverflowInt32.calls k (wrap32 (a1)) (wrap32 (a2)) t122 t123 _ A9.out).mono ?_); rintro e w' ⟨rfl, ⟨nd, rfl⟩⟩; refine ⟨_, rfl, ?_⟩))
        go_ret2
        exact ⟨by first | rfl | (simp; done) | (simp [*]; done), by repeat (first | exact Drawn0.refl _ | apply Drawn0.step)⟩
      · rw [if_neg c8] at H
        have c8b0 : (a0 == 32) = false := beq_eq_false_iff_ne.mpr c8
        have c8b1 : (a0 != 32) = true := bne_iff_ne.mpr c8
        by_cases c10 : a0 = 64
        · rw [if_pos c10] at H
          have c10b0 : (a0 == 64) = true := beq_iff_eq.mpr c10
          have c10b1 : (a0 != 64) = false := bne_eq_false_iff_eq.mpr c10
          clear c10
          replace H := Option.bind_eq_some_iff.mp H
          obtain ⟨⟨t124, t125⟩, A110, H⟩ := H
          replace H : (some (t124, t125)) = some (r1, r2) := H
          have A11 := Aside0.mk A110
          clear A110
          simp only [Option.some.injEq, Prod.mk.injEq] at H
          obtain ⟨rfl, rfl⟩ := H
          go_enter Try.func30, Try.ntmps30
          go_wp2_with (first | ((with_reducible refine gate_callee (f := 48) rfl ?_); refine goesL_ (some 58) rfl rfl Try.func48 (by kernel_rfl) rfl #[.int .i64 a1, .int .i64 a2] rfl (by (try simp only [List.map_toArray, List.map_cons, List.map_nil]); first | done | rfl | (simp only [List.length_drop, List.length_take]; rfl)) ?_; (with_reducible refine (mathutil_SubOverflowInt64.calls k a1 a2 t124 t125 _ A11.out).mono ?_); rintro e w' ⟨rfl, ⟨nd, rfl⟩⟩; refine ⟨_, rfl, ?_⟩))
          go_ret2
          exact ⟨by first | rfl | (simp; done) | (simp [*]; done), by repeat (first | exact Drawn0.refl _ | apply Drawn0.step)⟩
        · rw [if_neg c10] at H
          have c10b0 : (a0 == 64) = false := beq_eq_false_iff_ne.mpr c10
          have c10b1 : (a0 != 64) = true := bne_iff_ne.mpr c10
          simp only [Option.some.injEq, Prod.mk.injEq] at H
          obtain ⟨rfl, rfl⟩ := H
          go_enter Try.func30, Try.ntmps30
          go_wp2
          go_ret2
          exact ⟨by first | rfl | (simp; done) | (simp [*]; done), by repeat (first | exact Drawn0.refl _ | apply Drawn0.step)⟩

end Go.Proofs.Ytfnimhjabbnldaa.PFnMulOverflow
