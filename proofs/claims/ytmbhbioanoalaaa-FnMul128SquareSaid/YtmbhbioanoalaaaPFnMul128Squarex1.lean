-- PRINTED BY print.sh 35421559b90ae4d0a3588c463048766b98c2df88dd9212a6774a882060cdf62d: not written by this session
import Derived.Test.YtmbhbioanoalaaaPFnMul128Squarex0
namespace Go.Proofs.Ytmbhbioanoalaaa.PFnMul128Square
open Go.RowKit Go.Proofs.YtmbhbioanoalaaaW.PrintWords Go.Proofs.YtmbhbioanoalaaaW.PrintLast Go.Proofs.YtmbhbioanoalaaaW.PrintMore
attribute [local go_sem] max2_int min2_int max_two min_two max_three min_three max_four min_four   -- for this text's walks alone
set_option linter.unusedVariables false
set_option linter.unusedSimpArgs false

/-! ### mathutil_AddUint128_64: function 33 -/
def mathutil_AddUint128_64.f (a0 : Int) (a1 : Int) : Option (Int × Int) := if (IntKind.u64.wrap (a0 + a1)) < a0 then (some (1, IntKind.u64.wrap (a0 + a1))) else (some (0, IntKind.u64.wrap (a0 + a1)))
set_option maxHeartbeats 8000000 in
set_option maxRecDepth 100000 in
theorem mathutil_AddUint128_64.calls (a0 : Int) (a1 : Int) (r1 : Int) (r2 : Int) (w : World) (h : mathutil_AddUint128_64.f a0 a1 = some (r1, r2)) :
    Calls Try.prog 33 #[.int .u64 a0, .int .u64 a1] w fun e w' => e = .returned (.tuple #[.int .u64 r1, .int .u64 r2]) ∧ Drawn0 w w' := by
  have H : (if (IntKind.u64.wrap (a0 + a1)) < a0 then (some (1, IntKind.u64.wrap (a0 + a1))) else (some (0, IntKind.u64.wrap (a0 + a1)))) = some (r1, r2) := h
  clear h
  by_cases c3 : (IntKind.u64.wrap (a0 + a1)) < a0
  · rw [if_pos c3] at H
    have c3b0 : decide ((IntKind.u64.wrap (a0 + a1)) < a0) = true := decide_eq_true c3
    clear c3
    simp only [Option.some.injEq, Prod.mk.injEq] at H
    obtain ⟨rfl, rfl⟩ := H
    go_enter Try.func33, Try.ntmps33
    go_wp2
    go_ret2
    exact ⟨by first | rfl | (simp; done) | (simp [*]; done), by repeat (first | exact Drawn0.refl _ | apply Drawn0.step)⟩
  · rw [if_neg c3] at H
    have c3b0 : decide ((IntKind.u64.wrap (a0 + a1)) < a0) = false := decide_eq_false c3
    clear c3
    simp only [Option.some.injEq, Prod.mk.injEq] at H
    obtain ⟨rfl, rfl⟩ := H
    go_enter Try.func33, Try.ntmps33
    go_wp2
    go_ret2
    exact ⟨by first | rfl | (simp; done) | (simp [*]; done), by repeat (first | exact Drawn0.refl _ | apply Drawn0.step)⟩

/-! ### mathutil_MulUint128_64: function 32 -/
def mathutil_MulUint128_64.f (a0 : Int) (a1 : Int) : Option (Int × Int) := (mathutil_AddUint128_64.f (IntKind.u64.wrap ((Go.bits .and .u64 a0 4294967295) * (Go.bits .and .u64 a1 4294967295))) (IntKind.u64.wrap ((IntKind.u64.wrap ((Go.bits .and .u64 a0 4294967295) * (a1 / 4294967296))) * 4294967296))).bind fun bt101 => ((mathutil_AddUint128_64.f bt101.2 (IntKind.u64.wrap ((IntKind.u64.wrap ((a0 / 4294967296) * (Go.bits .and .u64 a1 4294967295))) * 4294967296))).bind fun bt103 => ((mathutil_AddUint128_64.f (IntKind.u64.wrap ((a0 / 4294967296) * (a1 / 4294967296))) (IntKind.u64.wrap ((IntKind.u64.wrap ((IntKind.u64.wrap (((IntKind.u64.wrap ((Go.bits .and .u64 a0 4294967295) * (a1 / 4294967296))) / 4294967296) + ((IntKind.u64.wrap ((a0 / 4294967296) * (Go.bits .and .u64 a1 4294967295))) / 4294967296))) + bt101.1)) + bt103.1))).bind fun bt105 => (some (bt105.2, bt103.2))))
set_option maxHeartbeats 8000000 in
set_option maxRecDepth 100000 in
theorem mathutil_MulUint128_64.calls (a0 : Int) (a1 : Int) (r1 : Int) (r2 : Int) (w : World) (h : mathutil_MulUint128_64.f a0 a1 = some (r1, r2)) :
    Calls Try.prog 32 #[.int .u64 a0, .int .u64 a1] w fun e w' => e = .returned (.tuple #[.int .u64 r1, .int .u64 r2]) ∧ Drawn0 w w' := by
  have H : ((mathutil_AddUint128_64.f (IntKind.u64.wrap ((Go.bits .and .u64 a0 4294967295) * (Go.bits .and .u64 a1 4294967295))) (IntKind.u64.wrap ((IntKind.u64.wrap ((Go.bits .and .u64 a0 4294967295) * (a1 / 4294967296))) * 4294967296))).bind fun bt101 => ((mathutil_AddUint128_64.f bt101.2 (IntKind.u64.wrap ((IntKind.u64.wrap ((a0 / 4294967296) * (Go.bits .and .u64 a1 4294967295))) * 4294967296))).bind fun bt103 => ((mathutil_AddUint128_64.f (IntKind.u64.wrap ((a0 / 4294967296) * (a1 / 4294967296))) (IntKind.u64.wrap ((IntKind.u64.wrap ((IntKind.u64.wrap (((IntKind.u64.wrap ((Go.bits .and .u64 a0 4294967295) * (a1 / 4294967296))) / 4294967296) + ((IntKind.u64.wrap ((a0 / 4294967296) * (Go.bits .and .u64 a1 4294967295))) / 4294967296))) + bt101.1)) + bt103.1))).bind fun bt105 => (some (bt105.2, bt103.2))))) = some (r1, r2) := h
  clear h
  replace H := Option.bind_eq_some_iff.mp H
  obtain ⟨⟨t101, t102⟩, A30, H⟩ := H
  replace H : ((mathutil_AddUint128_64.f t102 (IntKind.u64.wrap ((IntKind.u64.wrap ((a0 / 4294967296) * (Go.bits .and .u64 a1 4294967295))) * 4294967296))).bind fun bt103 => ((mathutil_AddUint128_64.f (IntKind.u64.wrap ((a0 / 4294967296) * (a1 / 4294967296))) (IntKind.u64.wrap ((IntKind.u64.wrap ((IntKind.u64.wrap (((IntKind.u64.wrap ((Go.bits .and .u64 a0 4294967295) * (a1 / 4294967296))) / 4294967296) + ((IntKind.u64.wrap ((a0 / 4294967296) * (Go.bits .and .u64 a1 4294967295))) / 4294967296))) + t101)) + bt103.1))).bind fun bt105 => (some (bt105.2, bt103.2)))) = some (r1, r2) := H
  have A3 := Aside0.mk A30
  clear A30
  replace H := Option.bind_eq_some_iff.mp H
  obtain ⟨⟨t103, t104⟩, A40, H⟩ := H
  replace H : ((mathutil_AddUint128_64.f (IntKind.u64.wrap ((a0 / 4294967296) * (a1 / 4294967296))) (IntKind.u64.wrap ((IntKind.u64.wrap ((IntKind.u64.wrap (((IntKind.u64.wrap ((Go.bits .and .u64 a0 4294967295) * (a1 / 4294967296))) / 4294967296) + ((IntKind.u64.wrap ((a0 / 4294967296) * (Go.bits .and .u64 a1 4294967295))) / 4294967296))) + t101)) + t103))).bind fun bt105 => (some (bt105.2, t104))) = some (r1, r2) := H
  have A4 := Aside0.mk A40
  clear A40
  replace H := Option.bind_eq_some_iff.mp H
  obtain ⟨⟨t105, t106⟩, A50, H⟩ := H
  replace H : (some (t106, t104)) = some (r1, r2) := H
  have A5 := Aside0.mk A50
  clear A50
  simp only [Option.some.injEq, Prod.mk.injEq] at H
  obtain ⟨rfl, rfl⟩ := H
  go_enter Try.func32, Try.ntmps32
  go_wp2_with (first | ((with_reducible refine gate_callee (f := 33) rfl ?_); refine goesL_ (some 35) rfl rfl Try.func33 (by kernel_rfl) rfl #[.int .u64 (IntKind.u64.wrap ((Go.bits .and .u64 a0 4294967295) * (Go.bits .and .u64 a1 4294967295))), .int .u64 (IntKind.u64.wrap ((IntKind.u64.wrap ((Go.bits .and .u64 a0 4294967295) * (a1 / 4294967296))) * 4294967296))] rfl (by (try simp only [List.map_toArray, List.map_cons, List.map_nil]); first | done | rfl | (simp only [List.length_drop, List.length_take]; rfl)) ?_; (with_reducible refine (mathutil_AddUint128_64.calls (IntKind.u64.wrap ((Go.bits .and .u64 a0 4294967295) * (Go.bits .and .u64 a1 4294967295))) (IntKind.u64.wrap ((IntKind.u64.wrap ((Go.bits .and .u64 a0 4294967295) * (a1 / 4294967296))) * 4294967296)) t101 t102 _ A3.out).mono ?_); rintro e w' ⟨rfl, ⟨nd, rfl⟩⟩; refine ⟨_, rfl, ?_⟩) | ((with_reducible refine gate_callee (f := 33) rfl ?_); refine goesL_ (some 42) rfl rfl Try.func33 (by kernel_rfl) rfl #[.int .u64 t102, .int .u64 (IntKind.u64.wrap ((IntKind.u64.wrap ((a0 / 4294967296) * (Go.bits .and .u64 a1 4294967295))) * 4294967296))] rfl (by (try simp only [List.map_toArray, List.map_cons, List.map_nil]); first | done | rfl | (simp only [List.length_drop, List.length_take]; rfl)) ?_; (with_reducible refine (mathutil_AddUint128_64.calls t102 (IntKind.u64.wrap ((IntKind.u64.wrap ((a0 / 4294967296) * (Go.bits .and .u64 a1 4294967295))) * 4294967296)) t103 t104 _ A4.out).mono ?_); rintro e w' ⟨rfl, ⟨nd, rfl⟩⟩; refine ⟨_, rfl, ?_⟩) | ((with_reducible refine gate_callee (f := 33) rfl ?_); refine goesL_ (some 58) rfl rfl Try.func33 (by kernel_rfl) rfl #[.int .u64 (IntKind.u64.wrap ((a0 / 4294967296) * (a1 / 4294967296))), .int .u64 (IntKind.u64.wrap ((IntKind.u64.wrap ((IntKind.u64.wrap (((IntKind.u64.wrap ((Go.bits .and .u64 a0 4294967295) * (a1 / 4294967296))) / 4294967296) + ((IntKind.u64.wrap ((a0 / 4294967296) * (Go.bits .and .u64 a1 4294967295))) / 4294967296))) + t101)) + t103))] rfl (by (try simp only [List.map_toArray, List.map_cons, List.map_nil]); first | done | rfl | (simp only [List.length_drop, List.length_take]; rfl)) ?_; (with_reducible refine (mathutil_AddUint128_64.calls (IntKind.u64.wrap ((a0 / 4294967296) * (a1 / 4294967296))) (IntKind.u64.wrap ((IntKind.u64.wrap ((IntKind.u64.wrap (((IntKind.u64.wrap ((Go.bits .and .u64 a0 4294967295) * (a1 / 4294967296))) / 4294967296) + ((IntKind.u64.wrap ((a0 / 4294967296) * (Go.bits .and .u64 a1 4294967295))) / 4294967296))) + t101)) + t103)) t105 t106 _ A5.out).mono ?_); rintro e w' ⟨rfl, ⟨nd, rfl⟩⟩; refine ⟨_, rfl, ?_⟩))
  go_ret2
  exact ⟨by first | rfl | (simp; done) | (simp [*]; done), by repeat (first | exact Drawn0.refl _ | apply Drawn0.step)⟩

/-! ### impl_MulUint128: function 16 -/
def impl_MulUint128.f (a0 : Int) (a1 : Int) : Option (Int × Int) := (mathutil_MulUint128_64.f a0 a1).bind fun bt107 => (some (bt107.1, bt107.2))
set_option maxHeartbeats 8000000 in
set_option maxRecDepth 100000 in
theorem impl_MulUint128.calls (a0 : Int) (a1 : Int) (r1 : Int) (r2 : Int) (w : World) (h : impl_MulUint128.f a0 a1 = some (r1, r2)) :
    Calls Try.prog 16 #[.int .u64 a0, .int .u64 a1] w fun e w' => e = .returned (.tuple #[.int .u64 r1, .int .u64 r2]) ∧ Drawn0 w w' := by
  have H : ((mathutil_MulUint128_64.f a0 a1).bind fun bt107 => (some (bt107.1, bt107.2))) = some (r1, r2) := h
  clear h
  replace H := Option.bind_eq_some_iff.mp H
  obtain ⟨⟨t107, t108⟩, A30, H⟩ := H
  replace H : (some (t107, t108)) = some (r1, r2) := H
  have A3 := Aside0.mk A30
  clear A30
  simp only [Option.some.injEq, Prod.mk.injEq] at H
  obtain ⟨rfl, rfl⟩ := H
  go_enter Try.func16, Try.ntmps16
  go_wp2_with (first | ((with_reducible refine gate_callee (f := 32) rfl ?_); refine goesL_ (some 8) rfl rfl Try.func32 (by kernel_rfl) rfl #[.int .u64 a0, .int .u64 a1] rfl (by (try simp only [List.map_toArray, List.map_cons, List.map_nil]); first | done | rfl | (simp only [List.length_drop, List.length_take]; rfl)) ?_; (with_reducible refine (mathutil_MulUint128_64.calls a0 a1 t107 t108 _ A3.out).mono ?_); rintro e w' ⟨rfl, ⟨nd, rfl⟩⟩; refine ⟨_, rfl, ?_⟩))
  go_ret2
  exact ⟨by first | rfl | (simp; done) | (simp [*]; done), by repeat (first | exact Drawn0.refl _ | apply Drawn0.step)⟩

/-! ### mathutil_SqrtUint64: function 42 -/
def mathutil_SqrtUint64.l0 : Nat → Int → Int → Int → Option (Int)
  | 0, _, _, _ => none
  | k + 1, x0, x2, x3 => if x2 = 0 then (none) else (if (IntKind.u64.wrap (Int.tdiv (IntKind.u64.wrap (x2 + (IntKind.u64.wrap (Int.tdiv x0 x2)))) 2)) = x2 then (some x2) else (if (IntKind.u64.wrap (Int.tdiv (IntKind.u64.wrap (x2 + (IntKind.u64.wrap (Int.tdiv x0 x2)))) 2)) = x3 then (some x2) else (mathutil_SqrtUint64.l0 k x0 (IntKind.u64.wrap (Int.tdiv (IntKind.u64.wrap (x2 + (IntKind.u64.wrap (Int.tdiv x0 x2)))) 2)) x2)))
def mathutil_SqrtUint64.f (k : Nat) (a0 : Int) : Option (Int) := if a0 = 0 then (some 0) else (if a0 ≥ 18446744065119617025 then (some 4294967295) else (mathutil_SqrtUint64.l0 k a0 a0 0))
theorem mathutil_SqrtUint64.mono_l : ∀ k, (∀ y0 y1 y2, LeO (mathutil_SqrtUint64.l0 k y0 y1 y2) (mathutil_SqrtUint64.l0 (k + 1) y0 y1 y2))
  | 0 => fun _ _ _ r h => by simp [mathutil_SqrtUint64.l0] at h
  | k + 1 => by
    have ih0 := mathutil_SqrtUint64.mono_l k
    · intro y0 y1 y2
      unfold mathutil_SqrtUint64.l0
      repeat' first
      | (with_reducible exact ih0 _ _ _)
      | (with_reducible exact LeO.refl _)
      | (with_reducible exact LeO.none _)
      | (with_reducible refine LeO.ite ?_ ?_)
      | (with_reducible refine LeO.bind ?_ (fun _ => ?_))
      | exact ih0 _ _ _
      | exact LeO.none _
      | refine LeO.ite ?_ ?_
      | refine LeO.bind ?_ (fun _ => ?_)
theorem mathutil_SqrtUint64.mono : ∀ a0 k, LeO (mathutil_SqrtUint64.f k a0) (mathutil_SqrtUint64.f (k + 1) a0) := by
  intro a0 k
  have ih0 := mathutil_SqrtUint64.mono_l k
  unfold mathutil_SqrtUint64.f
  repeat' first
      | (with_reducible exact ih0 _ _ _)
      | (with_reducible exact LeO.refl _)
      | (with_reducible exact LeO.none _)
      | (with_reducible refine LeO.ite ?_ ?_)
      | (with_reducible refine LeO.bind ?_ (fun _ => ?_))
      | exact ih0 _ _ _
      | exact LeO.none _
      | refine LeO.ite ?_ ?_
      | refine LeO.bind ?_ (fun _ => ?_)
set_option maxHeartbeats 8000000 in
set_option maxRecDepth 100000 in
theorem mathutil_SqrtUint64.calls (k : Nat) (a0 : Int) (r : Int) (w : World) (h : mathutil_SqrtUint64.f k a0 = some r) :
    Calls Try.prog 42 #[.int .u64 a0] w fun e w' => e = .returned (.int .u64 r) ∧ Drawn0 w w' := by
  have H : (if a0 = 0 then (some 0) else (if a0 ≥ 18446744065119617025 then (some 4294967295) else (mathutil_SqrtUint64.l0 k a0 a0 0))) = some r := h
  clear h
  by_cases c2 : a0 = 0
  · rw [if_pos c2] at H
    have c2b0 : (a0 == 0) = true := beq_iff_eq.mpr c2
    have c2b1 : (a0 != 0) = false := bne_eq_false_iff_eq.mpr c2
    clear c2
    obtain rfl := Option.some.inj H
    go_enter Try.func42, Try.ntmps42
    go_wp2
    go_ret
    exact ⟨by first | rfl | (simp; done) | (simp [*]; done), by repeat (first | exact Drawn0.refl _ | apply Drawn0.step)⟩
  · rw [if_neg c2] at H
    have c2b0 : (a0 == 0) = false := beq_eq_false_iff_ne.mpr c2
    have c2b1 : (a0 != 0) = true := bne_iff_ne.mpr c2
    by_cases c3 : a0 ≥ 18446744065119617025
    · rw [if_pos c3] at H
      have c3b0 : decide (18446744065119617025 ≤ a0) = true := decide_eq_true c3
      clear c3
      obtain rfl := Option.some.inj H
      go_enter Try.func42, Try.ntmps42
      go_wp2
      go_ret
      exact ⟨by first | rfl | (simp; done) | (simp [*]; done), by repeat (first | exact Drawn0.refl _ | apply Drawn0.step)⟩
    · rw [if_neg c3] at H
      have c3b0 : decide (18446744065119617025 ≤ a0) = false := decide_eq_false c3
      clear c3
      have H' := Aside0.mk H
      clear H
      go_enter Try.func42, Try.ntmps42
      go_wp2
      go_loopg [2, 3] k (fun kq v2 v3 w' => ∃ (x2_1 : Int) (x3_1 : Int), v2 = .int .u64 x2_1 ∧ v3 = .int .u64 x3_1 ∧ Aside0 (mathutil_SqrtUint64.l0 kq a0 x2_1 x3_1 = some r) ∧ Aside0 (kq ≤ k) ∧ Drawn0 w w')
      case atStart => exact ⟨(a0), (0), (by first | rfl | (simp; done) | (simp [*]; done)), (by first | rfl | (simp; done) | (simp [*]; done)), H', ⟨Nat.le_refl _⟩, by repeat (first | exact Drawn0.refl _ | apply Drawn0.step)⟩
      case round =>
        clear H'
        try clear c2
        try clear c2b0
        try clear c2b1
        try clear p2
        try clear c3
        try clear c3b0
        obtain ⟨x2_1, x3_1, rfl, rfl, HA, HK1, ⟨m1, rfl⟩⟩ := hrel
        cases gk with
        | zero => exact absurd HA.out (by simp [mathutil_SqrtUint64.l0])
        | succ k1 =>
          have H := HA.out
          clear HA
          simp only [mathutil_SqrtUint64.l0] at H
          by_cases c4 : x2_1 = 0
          · rw [if_pos c4] at H
            exact absurd H (by simp)
          · rw [if_neg c4] at H
            have c4b0 : (x2_1 == 0) = false := beq_eq_false_iff_ne.mpr c4
            have c4b1 : (x2_1 != 0) = true := bne_iff_ne.mpr c4
            by_cases c5 : (IntKind.u64.wrap (Int.tdiv (IntKind.u64.wrap (x2_1 + (IntKind.u64.wrap (Int.tdiv a0 x2_1)))) 2)) = x2_1
            · rw [if_pos c5] at H
              have c5b0 : ((IntKind.u64.wrap (Int.tdiv (IntKind.u64.wrap (x2_1 + (IntKind.u64.wrap (Int.tdiv a0 x2_1)))) 2)) == x2_1) = true := beq_iff_eq.mpr c5
              have c5b1 : ((IntKind.u64.wrap (Int.tdiv (IntKind.u64.wrap (x2_1 + (IntKind.u64.wrap (Int.tdiv a0 x2_1)))) 2)) != x2_1) = false := bne_eq_false_iff_eq.mpr c5
              clear c5
              obtain rfl := Option.some.inj H
              go_wp2
              go_ret
              exact ⟨by first | rfl | (simp; done) | (simp [*]; done), by repeat (first | exact Drawn0.refl _ | apply Drawn0.step)⟩
            · rw [if_neg c5] at H
              have c5b0 : ((IntKind.u64.wrap (Int.tdiv (IntKind.u64.wrap (x2_1 + (IntKind.u64.wrap (Int.tdiv a0 x2_1)))) 2)) == x2_1) = false := beq_eq_false_iff_ne.mpr c5
              have c5b1 : ((IntKind.u64.wrap (Int.tdiv (IntKind.u64.wrap (x2_1 + (IntKind.u64.wrap (Int.tdiv a0 x2_1)))) 2)) != x2_1) = true := bne_iff_ne.mpr c5
              by_cases c6 : (IntKind.u64.wrap (Int.tdiv (IntKind.u64.wrap (x2_1 + (IntKind.u64.wrap (Int.tdiv a0 x2_1)))) 2)) = x3_1
              · rw [if_pos c6] at H
                have c6b0 : ((IntKind.u64.wrap (Int.tdiv (IntKind.u64.wrap (x2_1 + (IntKind.u64.wrap (Int.tdiv a0 x2_1)))) 2)) == x3_1) = true := beq_iff_eq.mpr c6
                have c6b1 : ((IntKind.u64.wrap (Int.tdiv (IntKind.u64.wrap (x2_1 + (IntKind.u64.wrap (Int.tdiv a0 x2_1)))) 2)) != x3_1) = false := bne_eq_false_iff_eq.mpr c6
                clear c6
                obtain rfl := Option.some.inj H
                go_wp2
                go_ret
                exact ⟨by first | rfl | (simp; done) | (simp [*]; done), by repeat (first | exact Drawn0.refl _ | apply Drawn0.step)⟩
              · rw [if_neg c6] at H
                have c6b0 : ((IntKind.u64.wrap (Int.tdiv (IntKind.u64.wrap (x2_1 + (IntKind.u64.wrap (Int.tdiv a0 x2_1)))) 2)) == x3_1) = false := beq_eq_false_iff_ne.mpr c6
                have c6b1 : ((IntKind.u64.wrap (Int.tdiv (IntKind.u64.wrap (x2_1 + (IntKind.u64.wrap (Int.tdiv a0 x2_1)))) 2)) != x3_1) = true := bne_iff_ne.mpr c6
                have H' := Aside0.mk H
                clear H
                go_wp2
                go_roundg k1
                case measure => have := HK1.out; omega
                case rel => exact ⟨(IntKind.u64.wrap (Int.tdiv (IntKind.u64.wrap (x2_1 + (IntKind.u64.wrap (Int.tdiv a0 x2_1)))) 2)), (x2_1), (by first | rfl | (simp; done) | (simp [*]; done)), (by first | rfl | (simp; done) | (simp [*]; done)), H', ⟨by have := HK1.out; omega⟩, by repeat (first | exact Drawn0.refl _ | apply Drawn0.step)⟩

/-! ### impl_SqrtUint64: function 27 -/
def impl_SqrtUint64.f (k : Nat) (a0 : Int) : Option (Int) := (mathutil_SqrtUint64.f k a0).bind fun t109 => (some t109)
theorem impl_SqrtUint64.mono : ∀ a0 k, LeO (impl_SqrtUint64.f k a0) (impl_SqrtUint64.f (k + 1) a0) := by
  intro a0 k
  unfold impl_SqrtUint64.f
  repeat' first
      | (with_reducible exact mathutil_SqrtUint64.mono _ _)
      | (with_reducible exact LeO.refl _)
      | (with_reducible exact LeO.none _)
      | (with_reducible refine LeO.ite ?_ ?_)
      | (with_reducible refine LeO.bind ?_ (fun _ => ?_))
      | exact mathutil_SqrtUint64.mono _ _
      | exact LeO.none _
      | refine LeO.ite ?_ ?_
      | refine LeO.bind ?_ (fun _ => ?_)
set_option maxHeartbeats 8000000 in
set_option maxRecDepth 100000 in
theorem impl_SqrtUint64.calls (k : Nat) (a0 : Int) (r : Int) (w : World) (h : impl_SqrtUint64.f k a0 = some r) :
    Calls Try.prog 27 #[.int .u64 a0] w fun e w' => e = .returned (.int .u64 r) ∧ Drawn0 w w' := by
  have H : ((mathutil_SqrtUint64.f k a0).bind fun t109 => (some t109)) = some r := h
  clear h
  replace H := Option.bind_eq_some_iff.mp H
  obtain ⟨t109, A20, H⟩ := H
  replace H : (some t109) = some r := H
  have A2 := Aside0.mk A20
  clear A20
  obtain rfl := Option.some.inj H
  go_enter Try.func27, Try.ntmps27
  go_wp2_with (first | ((with_reducible refine gate_callee (f := 42) rfl ?_); refine goesL_ (some 4) rfl rfl Try.func42 (by kernel_rfl) rfl #[.int .u64 a0] rfl (by (try simp only [List.map_toArray, List.map_cons, List.map_nil]); first | done | rfl | (simp only [List.length_drop, List.length_take]; rfl)) ?_; (with_reducible refine (mathutil_SqrtUint64.calls k a0 t109 _ A2.out).mono ?_); rintro e w' ⟨rfl, ⟨nd, rfl⟩⟩; refine ⟨_, rfl, ?_⟩))
  go_ret
  exact ⟨by first | rfl | (simp; done) | (simp [*]; done), by repeat (first | exact Drawn0.refl _ | apply Drawn0.step)⟩

/-! ### laws_FnMul128Square: function 12 -/
def laws_FnMul128Square.f (k : Nat) (a0 : Int) : Option (Bool) := (impl_MulUint128.f (IntKind.u64.wrap (a0)) (IntKind.u64.wrap (a0))).bind fun bt110 => ((impl_SqrtUint64.f k 9).bind fun t112 => (if t112 = 3 then (if bt110.1 = 0 then ((impl_SqrtUint64.f k bt110.2).bind fun t113 => (some (t113 == (IntKind.u64.wrap (a0))))) else (some false)) else (some false)))
theorem laws_FnMul128Square.mono : ∀ a0 k, LeO (laws_FnMul128Square.f k a0) (laws_FnMul128Square.f (k + 1) a0) := by
  intro a0 k
  unfold laws_FnMul128Square.f
  repeat' first
      | (with_reducible exact impl_SqrtUint64.mono _ _)
      | (with_reducible exact LeO.refl _)
      | (with_reducible exact LeO.none _)
      | (with_reducible refine LeO.ite ?_ ?_)
      | (with_reducible refine LeO.bind ?_ (fun _ => ?_))
      | exact impl_SqrtUint64.mono _ _
      | exact LeO.none _
      | refine LeO.ite ?_ ?_
      | refine LeO.bind ?_ (fun _ => ?_)
set_option maxHeartbeats 8000000 in
set_option maxRecDepth 100000 in
theorem laws_FnMul128Square.calls (k : Nat) (a0 : Int) (r : Bool) (w : World) (h : laws_FnMul128Square.f k a0 = some r) :
    Calls Try.prog 12 #[.int .u32 a0] w fun e w' => e = .returned (.bool r) ∧ Drawn0 w w' := by
  have H : ((impl_MulUint128.f (IntKind.u64.wrap (a0)) (IntKind.u64.wrap (a0))).bind fun bt110 => ((impl_SqrtUint64.f k 9).bind fun t112 => (if t112 = 3 then (if bt110.1 = 0 then ((impl_SqrtUint64.f k bt110.2).bind fun t113 => (some (t113 == (IntKind.u64.wrap (a0))))) else (some false)) else (some false)))) = some r := h
  clear h
  replace H := Option.bind_eq_some_iff.mp H
  obtain ⟨⟨t110, t111⟩, A20, H⟩ := H
  replace H : ((impl_SqrtUint64.f k 9).bind fun t112 => (if t112 = 3 then (if t110 = 0 then ((impl_SqrtUint64.f k t111).bind fun t113 => (some (t113 == (IntKind.u64.wrap (a0))))) else (some false)) else (some false))) = some r := H
  have A2 := Aside0.mk A20
  clear A20
  replace H := Option.bind_eq_some_iff.mp H
  obtain ⟨t112, A30, H⟩ := H
  replace H : (if t112 = 3 then (if t110 = 0 then ((impl_SqrtUint64.f k t111).bind fun t113 => (some (t113 == (IntKind.u64.wrap (a0))))) else (some false)) else (some false)) = some r := H
  have A3 := Aside0.mk A30
  clear A30
  by_cases c4 : t112 = 3
  · rw [if_pos c4] at H
    have c4b0 : (t112 == 3) = true := beq_iff_eq.mpr c4
    have c4b1 : (t112 != 3) = false := bne_eq_false_iff_eq.mpr c4
    clear c4
    by_cases c5 : t110 = 0
    · rw [if_pos c5] at H
      have c5b0 : (t110 == 0) = true := beq_iff_eq.mpr c5
      have c5b1 : (t110 != 0) = false := bne_eq_false_iff_eq.mpr c5
      clear c5
      replace H := Option.bind_eq_some_iff.mp H
      obtain ⟨t113, A60, H⟩ := H
      replace H : (some (t113 == (IntKind.u64.wrap (a0)))) = some r := H
      have A6 := Aside0.mk A60
      clear A60
      obtain rfl := Option.some.inj H
      go_enter Try.func12, Try.ntmps12
      go_wp2_with (first | ((with_reducible refine gate_callee (f := 16) rfl ?_); refine goesL_ (some 10) rfl rfl Try.func16 (by kernel_rfl) rfl #[.int .u64 (IntKind.u64.wrap (a0)), .int .u64 (IntKind.u64.wrap (a0))] rfl (by (try simp only [List.map_toArray, List.map_cons, List.map_nil]); first | done | rfl | (simp only [List.length_drop, List.length_take]; rfl)) ?_; (with_reducible refine (impl_MulUint128.calls (IntKind.u64.wrap (a0)) (IntKind.u64.wrap (a0)) t110 t111 _ A2.out).mono ?_); rintro e w' ⟨rfl, ⟨nd, rfl⟩⟩; refine ⟨_, rfl, ?_⟩) | ((with_reducible refine gate_callee (f := 27) rfl ?_); refine goesL_ (some 13) rfl rfl Try.func27 (by kernel_rfl) rfl #[.int .u64 9] rfl (by (try simp only [List.map_toArray, List.map_cons, List.map_nil]); first | done | rfl | (simp only [List.length_drop, List.length_take]; rfl)) ?_; (with_reducible refine (impl_SqrtUint64.calls k 9 t112 _ A3.out).mono ?_); rintro e w' ⟨rfl, ⟨nd, rfl⟩⟩; refine ⟨_, rfl, ?_⟩) | (go_at_call 27; (with_reducible refine (impl_SqrtUint64.calls k t111 t113 _ A6.out).mono ?_); rintro e w' ⟨rfl, ⟨nd, rfl⟩⟩))
      go_ret
      exact ⟨by first | rfl | (simp; done) | (simp [*]; done), by repeat (first | exact Drawn0.refl _ | apply Drawn0.step)⟩
    · rw [if_neg c5] at H
      have c5b0 : (t110 == 0) = false := beq_eq_false_iff_ne.mpr c5
      have c5b1 : (t110 != 0) = true := bne_iff_ne.mpr c5
      obtain rfl := Option.some.inj H
      go_enter Try.func12, Try.ntmps12
      go_wp2_with (first | ((with_reducible refine gate_callee (f := 16) rfl ?_); refine goesL_ (some 10) rfl rfl Try.func16 (by kernel_rfl) rfl #[.int .u64 (IntKind.u64.wrap (a0)), .int .u64 (IntKind.u64.wrap (a0))] rfl (by (try simp only [List.map_toArray, List.map_cons, List.map_nil]); first | done | rfl | (simp only [List.length_drop, List.length_take]; rfl)) ?_; (with_reducible refine (impl_MulUint128.calls (IntKind.u64.wrap (a0)) (IntKind.u64.wrap (a0)) t110 t111 _ A2.out).mono ?_); rintro e w' ⟨rfl, ⟨nd, rfl⟩⟩; refine ⟨_, rfl, ?_⟩) | ((with_reducible refine gate_callee (f := 27) rfl ?_); refine goesL_ (some 13) rfl rfl Try.func27 (by kernel_rfl) rfl #[.int .u64 9] rfl (by (try simp only [List.map_toArray, List.map_cons, List.map_nil]); first | done | rfl | (simp only [List.length_drop, List.length_take]; rfl)) ?_; (with_reducible refine (impl_SqrtUint64.calls k 9 t112 _ A3.out).mono ?_); rintro e w' ⟨rfl, ⟨nd, rfl⟩⟩; refine ⟨_, rfl, ?_⟩))
      go_ret
      exact ⟨by first | rfl | (simp; done) | (simp [*]; done), by repeat (first | exact Drawn0.refl _ | apply Drawn0.step)⟩
  · rw [if_neg c4] at H
    have c4b0 : (t112 == 3) = false := beq_eq_false_iff_ne.mpr c4
    have c4b1 : (t112 != 3) = true := bne_iff_ne.mpr c4
    obtain rfl := Option.some.inj H
    go_enter Try.func12, Try.ntmps12
    go_wp2_with (first | ((with_reducible refine gate_callee (f := 16) rfl ?_); refine goesL_ (some 10) rfl rfl Try.func16 (by kernel_rfl) rfl #[.int .u64 (IntKind.u64.wrap (a0)), .int .u64 (IntKind.u64.wrap (a0))] rfl (by (try simp only [List.map_toArray, List.map_cons, List.map_nil]); first | done | rfl | (simp only [List.length_drop, List.length_take]; rfl)) ?_; (with_reducible refine (impl_MulUint128.calls (IntKind.u64.wrap (a0)) (IntKind.u64.wrap (a0)) t110 t111 _ A2.out).mono ?_); rintro e w' ⟨rfl, ⟨nd, rfl⟩⟩; refine ⟨_, rfl, ?_⟩) | ((with_reducible refine gate_callee (f := 27) rfl ?_); refine goesL_ (some 13) rfl rfl Try.func27 (by kernel_rfl) rfl #[.int .u64 9] rfl (by (try simp only [List.map_toArray, List.map_cons, List.map_nil]); first | done | rfl | (simp only [List.length_drop, List.length_take]; rfl)) ?_; (with_reducible refine (impl_SqrtUint64.calls k 9 t112 _ A3.out).mono ?_); rintro e w' ⟨rfl, ⟨nd, rfl⟩⟩; refine ⟨_, rfl, ?_⟩))
    go_ret
    exact ⟨by first | rfl | (simp; done) | (simp [*]; done), by repeat (first | exact Drawn0.refl _ | apply Drawn0.step)⟩

/-- THE ONE PURE STATEMENT of laws_FnMul128Square: yours. -/
def laws_FnMul128Square.Pure : Prop := ∀ (a0 : Int), (Lit.int .u32 a0).wf = true → ∃ k, laws_FnMul128Square.f k a0 = some true
theorem laws_FnMul128Square.walk (P : laws_FnMul128Square.Pure) (a0 : Int) (w : World) (w0 : (Lit.int .u32 a0).wf = true) :
    Calls Try.prog 12 #[.int .u32 a0] w fun e w' => e = .returned (.bool true) ∧ Below w.heap.size w w' := by
  obtain ⟨k, h⟩ := P a0 w0
  refine (laws_FnMul128Square.calls k a0 true w h).mono ?_
  rintro e w' ⟨rfl, hd⟩
  exact ⟨rfl, hd.below⟩

end Go.Proofs.Ytmbhbioanoalaaa.PFnMul128Square
