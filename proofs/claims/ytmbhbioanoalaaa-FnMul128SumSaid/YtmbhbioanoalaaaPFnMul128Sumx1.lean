-- PRINTED BY print.sh 35421559b90ae4d0a3588c463048766b98c2df88dd9212a6774a882060cdf62d: not written by this session
import Derived.Test.YtmbhbioanoalaaaPFnMul128Sumx0
namespace Go.Proofs.Ytmbhbioanoalaaa.PFnMul128Sum
open Go.RowKit Go.Proofs.YtmbhbioanoalaaaW.PrintWords Go.Proofs.YtmbhbioanoalaaaW.PrintLast Go.Proofs.YtmbhbioanoalaaaW.PrintMore
attribute [local go_sem] max2_int min2_int max_two min_two max_three min_three max_four min_four   -- for this text's walks alone
set_option linter.unusedVariables false
set_option linter.unusedSimpArgs false

/-! ### mathutil_AddUint128_64: function 33 -/
def mathutil_AddUint128_64.f (a0 : Int) (a1 : Int) : Option (Int × Int) := if (IntKind.u64.wrap (a0 + a1)) < a0 then (some (1, IntKind.u64.wrap (a0 + a1))) else (some (0, IntKind.u64.wrap (a0 + a1)))
set_option maxHeartbeats 8000000 in
set_option maxRecDepth 100000 in
theorem mathutil_AddUint128_64.calls (a0 : Int) (a1 : Int) (r1 : Int) (r2 : Int) (w : World) (h : mathutil_AddUint128_64.f a0 a1 = some (r1, r2)) :
    Calls Try.prog 33 #[.int .u64 a0, .int .u64 a1] w fun e w' => e = .returned (.tuple #[.int .u64 r1, .int .u64 r2]) ∧ Drawn0 w w' := by
  have H : (if (IntKind.u64.wrap (a0 + a1)) < a0 then (some (1, IntKind.u64.wrap (a0 + a1))) else (some (0, IntKind.u64.wrap (a0 + a1)))) = some (r1, r2) := h
  clear h
  by_cases c3 : (IntKind.u64.wrap (a0 + a1)) < a0
  · rw [if_pos c3] at H
    have c3b0 : decide ((IntKind.u64.wrap (a0 + a1)) < a0) = true := decide_eq_true c3
    clear c3
    simp only [Option.some.injEq, Prod.mk.injEq] at H
    obtain ⟨rfl, rfl⟩ := H
    go_enter Try.func33, Try.ntmps33
    go_wp2
    go_ret2
    exact ⟨by first | rfl | (simp; done) | (simp [*]; done), by repeat (first | exact Drawn0.refl _ | apply Drawn0.step)⟩
  · rw [if_neg c3] at H
    have c3b0 : decide ((IntKind.u64.wrap (a0 + a1)) < a0) = false := decide_eq_false c3
    clear c3
    simp only [Option.some.injEq, Prod.mk.injEq] at H
    obtain ⟨rfl, rfl⟩ := H
    go_enter Try.func33, Try.ntmps33
    go_wp2
    go_ret2
    exact ⟨by first | rfl | (simp; done) | (simp [*]; done), by repeat (first | exact Drawn0.refl _ | apply Drawn0.step)⟩

/-! ### mathutil_MulUint128_64: function 32 -/
def mathutil_MulUint128_64.f (a0 : Int) (a1 : Int) : Option (Int × Int) := (mathutil_AddUint128_64.f (IntKind.u64.wrap ((Go.bits .and .u64 a0 4294967295) * (Go.bits .and .u64 a1 4294967295))) (IntKind.u64.wrap ((IntKind.u64.wrap ((Go.bits .and .u64 a0 4294967295) * (a1 / 4294967296))) * 4294967296))).bind fun bt101 => ((mathutil_AddUint128_64.f bt101.2 (IntKind.u64.wrap ((IntKind.u64.wrap ((a0 / 4294967296) * (Go.bits .and .u64 a1 4294967295))) * 4294967296))).bind fun bt103 => ((mathutil_AddUint128_64.f (IntKind.u64.wrap ((a0 / 4294967296) * (a1 / 4294967296))) (IntKind.u64.wrap ((IntKind.u64.wrap ((IntKind.u64.wrap (((IntKind.u64.wrap ((Go.bits .and .u64 a0 4294967295) * (a1 / 4294967296))) / 4294967296) + ((IntKind.u64.wrap ((a0 / 4294967296) * (Go.bits .and .u64 a1 4294967295))) / 4294967296))) + bt101.1)) + bt103.1))).bind fun bt105 => (some (bt105.2, bt103.2))))
set_option maxHeartbeats 8000000 in
set_option maxRecDepth 100000 in
theorem mathutil_MulUint128_64.calls (a0 : Int) (a1 : Int) (r1 : Int) (r2 : Int) (w : World) (h : mathutil_MulUint128_64.f a0 a1 = some (r1, r2)) :
    Calls Try.prog 32 #[.int .u64 a0, .int .u64 a1] w fun e w' => e = .returned (.tuple #[.int .u64 r1, .int .u64 r2]) ∧ Drawn0 w w' := by
  have H : ((mathutil_AddUint128_64.f (IntKind.u64.wrap ((Go.bits .and .u64 a0 4294967295) * (Go.bits .and .u64 a1 4294967295))) (IntKind.u64.wrap ((IntKind.u64.wrap ((Go.bits .and .u64 a0 4294967295) * (a1 / 4294967296))) * 4294967296))).bind fun bt101 => ((mathutil_AddUint128_64.f bt101.2 (IntKind.u64.wrap ((IntKind.u64.wrap ((a0 / 4294967296) * (Go.bits .and .u64 a1 4294967295))) * 4294967296))).bind fun bt103 => ((mathutil_AddUint128_64.f (IntKind.u64.wrap ((a0 / 4294967296) * (a1 / 4294967296))) (IntKind.u64.wrap ((IntKind.u64.wrap ((IntKind.u64.wrap (((IntKind.u64.wrap ((Go.bits .and .u64 a0 4294967295) * (a1 / 4294967296))) / 4294967296) + ((IntKind.u64.wrap ((a0 / 4294967296) * (Go.bits .and .u64 a1 4294967295))) / 4294967296))) + bt101.1)) + bt103.1))).bind fun bt105 => (some (bt105.2, bt103.2))))) = some (r1, r2) := h
  clear h
  replace H := Option.bind_eq_some_iff.mp H
  obtain ⟨⟨t101, t102⟩, A30, H⟩ := H
  replace H : ((mathutil_AddUint128_64.f t102 (IntKind.u64.wrap ((IntKind.u64.wrap ((a0 / 4294967296) * (Go.bits .and .u64 a1 4294967295))) * 4294967296))).bind fun bt103 => ((mathutil_AddUint128_64.f (IntKind.u64.wrap ((a0 / 4294967296) * (a1 / 4294967296))) (IntKind.u64.wrap ((IntKind.u64.wrap ((IntKind.u64.wrap (((IntKind.u64.wrap ((Go.bits .and .u64 a0 4294967295) * (a1 / 4294967296))) / 4294967296) + ((IntKind.u64.wrap ((a0 / 4294967296) * (Go.bits .and .u64 a1 4294967295))) / 4294967296))) + t101)) + bt103.1))).bind fun bt105 => (some (bt105.2, bt103.2)))) = some (r1, r2) := H
  have A3 := Aside0.mk A30
  clear A30
  replace H := Option.bind_eq_some_iff.mp H
  obtain ⟨⟨t103, t104⟩, A40, H⟩ := H
  replace H : ((mathutil_AddUint128_64.f (IntKind.u64.wrap ((a0 / 4294967296) * (a1 / 4294967296))) (IntKind.u64.wrap ((IntKind.u64.wrap ((IntKind.u64.wrap (((IntKind.u64.wrap ((Go.bits .and .u64 a0 4294967295) * (a1 / 4294967296))) / 4294967296) + ((IntKind.u64.wrap ((a0 / 4294967296) * (Go.bits .and .u64 a1 4294967295))) / 4294967296))) + t101)) + t103))).bind fun bt105 => (some (bt105.2, t104))) = some (r1, r2) := H
  have A4 := Aside0.mk A40
  clear A40
  replace H := Option.bind_eq_some_iff.mp H
  obtain ⟨⟨t105, t106⟩, A50, H⟩ := H
  replace H : (some (t106, t104)) = some (r1, r2) := H
  have A5 := Aside0.mk A50
  clear A50
  simp only [Option.some.injEq, Prod.mk.injEq] at H
  obtain ⟨rfl, rfl⟩ := H
  go_enter Try.func32, Try.ntmps32
  go_wp2_with (first | ((with_reducible refine gate_callee (f := 33) rfl ?_); refine goesL_ (some 35) rfl rfl Try.func33 (by kernel_rfl) rfl #[.int .u64 (IntKind.u64.wrap ((Go.bits .and .u64 a0 4294967295) * (Go.bits .and .u64 a1 4294967295))), .int .u64 (IntKind.u64.wrap ((IntKind.u64.wrap ((Go.bits .and .u64 a0 4294967295) * (a1 / 4294967296))) * 4294967296))] rfl (by (try simp only [List.map_toArray, List.map_cons, List.map_nil]); first | done | rfl | (simp only [List.length_drop, List.length_take]; rfl)) ?_; (with_reducible refine (mathutil_AddUint128_64.calls (IntKind.u64.wrap ((Go.bits .and .u64 a0 4294967295) * (Go.bits .and .u64 a1 4294967295))) (IntKind.u64.wrap ((IntKind.u64.wrap ((Go.bits .and .u64 a0 4294967295) * (a1 / 4294967296))) * 4294967296)) t101 t102 _ A3.out).mono ?_); rintro e w' ⟨rfl, ⟨nd, rfl⟩⟩; refine ⟨_, rfl, ?_⟩) | ((with_reducible refine gate_callee (f := 33) rfl ?_); refine goesL_ (some 42) rfl rfl Try.func33 (by kernel_rfl) rfl #[.int .u64 t102, .int .u64 (IntKind.u64.wrap ((IntKind.u64.wrap ((a0 / 4294967296) * (Go.bits .and .u64 a1 4294967295))) * 4294967296))] rfl (by (try simp only [List.map_toArray, List.map_cons, List.map_nil]); first | done | rfl | (simp only [List.length_drop, List.length_take]; rfl)) ?_; (with_reducible refine (mathutil_AddUint128_64.calls t102 (IntKind.u64.wrap ((IntKind.u64.wrap ((a0 / 4294967296) * (Go.bits .and .u64 a1 4294967295))) * 4294967296)) t103 t104 _ A4.out).mono ?_); rintro e w' ⟨rfl, ⟨nd, rfl⟩⟩; refine ⟨_, rfl, ?_⟩) | ((with_reducible refine gate_callee (f := 33) rfl ?_); refine goesL_ (some 58) rfl rfl Try.func33 (by kernel_rfl) rfl #[.int .u64 (IntKind.u64.wrap ((a0 / 4294967296) * (a1 / 4294967296))), .int .u64 (IntKind.u64.wrap ((IntKind.u64.wrap ((IntKind.u64.wrap (((IntKind.u64.wrap ((Go.bits .and .u64 a0 4294967295) * (a1 / 4294967296))) / 4294967296) + ((IntKind.u64.wrap ((a0 / 4294967296) * (Go.bits .and .u64 a1 4294967295))) / 4294967296))) + t101)) + t103))] rfl (by (try simp only [List.map_toArray, List.map_cons, List.map_nil]); first | done | rfl | (simp only [List.length_drop, List.length_take]; rfl)) ?_; (with_reducible refine (mathutil_AddUint128_64.calls (IntKind.u64.wrap ((a0 / 4294967296) * (a1 / 4294967296))) (IntKind.u64.wrap ((IntKind.u64.wrap ((IntKind.u64.wrap (((IntKind.u64.wrap ((Go.bits .and .u64 a0 4294967295) * (a1 / 4294967296))) / 4294967296) + ((IntKind.u64.wrap ((a0 / 4294967296) * (Go.bits .and .u64 a1 4294967295))) / 4294967296))) + t101)) + t103)) t105 t106 _ A5.out).mono ?_); rintro e w' ⟨rfl, ⟨nd, rfl⟩⟩; refine ⟨_, rfl, ?_⟩))
  go_ret2
  exact ⟨by first | rfl | (simp; done) | (simp [*]; done), by repeat (first | exact Drawn0.refl _ | apply Drawn0.step)⟩

/-! ### impl_MulUint128: function 16 -/
def impl_MulUint128.f (a0 : Int) (a1 : Int) : Option (Int × Int) := (mathutil_MulUint128_64.f a0 a1).bind fun bt107 => (some (bt107.1, bt107.2))
set_option maxHeartbeats 8000000 in
set_option maxRecDepth 100000 in
theorem impl_MulUint128.calls (a0 : Int) (a1 : Int) (r1 : Int) (r2 : Int) (w : World) (h : impl_MulUint128.f a0 a1 = some (r1, r2)) :
    Calls Try.prog 16 #[.int .u64 a0, .int .u64 a1] w fun e w' => e = .returned (.tuple #[.int .u64 r1, .int .u64 r2]) ∧ Drawn0 w w' := by
  have H : ((mathutil_MulUint128_64.f a0 a1).bind fun bt107 => (some (bt107.1, bt107.2))) = some (r1, r2) := h
  clear h
  replace H := Option.bind_eq_some_iff.mp H
  obtain ⟨⟨t107, t108⟩, A30, H⟩ := H
  replace H : (some (t107, t108)) = some (r1, r2) := H
  have A3 := Aside0.mk A30
  clear A30
  simp only [Option.some.injEq, Prod.mk.injEq] at H
  obtain ⟨rfl, rfl⟩ := H
  go_enter Try.func16, Try.ntmps16
  go_wp2_with (first | ((with_reducible refine gate_callee (f := 32) rfl ?_); refine goesL_ (some 8) rfl rfl Try.func32 (by kernel_rfl) rfl #[.int .u64 a0, .int .u64 a1] rfl (by (try simp only [List.map_toArray, List.map_cons, List.map_nil]); first | done | rfl | (simp only [List.length_drop, List.length_take]; rfl)) ?_; (with_reducible refine (mathutil_MulUint128_64.calls a0 a1 t107 t108 _ A3.out).mono ?_); rintro e w' ⟨rfl, ⟨nd, rfl⟩⟩; refine ⟨_, rfl, ?_⟩))
  go_ret2
  exact ⟨by first | rfl | (simp; done) | (simp [*]; done), by repeat (first | exact Drawn0.refl _ | apply Drawn0.step)⟩

/-! ### impl_AddUint128: function 18 -/
def impl_AddUint128.f (a0 : Int) (a1 : Int) : Option (Int × Int) := (mathutil_AddUint128_64.f a0 a1).bind fun bt109 => (some (bt109.1, bt109.2))
set_option maxHeartbeats 8000000 in
set_option maxRecDepth 100000 in
theorem impl_AddUint128.calls (a0 : Int) (a1 : Int) (r1 : Int) (r2 : Int) (w : World) (h : impl_AddUint128.f a0 a1 = some (r1, r2)) :
    Calls Try.prog 18 #[.int .u64 a0, .int .u64 a1] w fun e w' => e = .returned (.tuple #[.int .u64 r1, .int .u64 r2]) ∧ Drawn0 w w' := by
  have H : ((mathutil_AddUint128_64.f a0 a1).bind fun bt109 => (some (bt109.1, bt109.2))) = some (r1, r2) := h
  clear h
  replace H := Option.bind_eq_some_iff.mp H
  obtain ⟨⟨t109, t110⟩, A30, H⟩ := H
  replace H : (some (t109, t110)) = some (r1, r2) := H
  have A3 := Aside0.mk A30
  clear A30
  simp only [Option.some.injEq, Prod.mk.injEq] at H
  obtain ⟨rfl, rfl⟩ := H
  go_enter Try.func18, Try.ntmps18
  go_wp2_with (first | ((with_reducible refine gate_callee (f := 33) rfl ?_); refine goesL_ (some 8) rfl rfl Try.func33 (by kernel_rfl) rfl #[.int .u64 a0, .int .u64 a1] rfl (by (try simp only [List.map_toArray, List.map_cons, List.map_nil]); first | done | rfl | (simp only [List.length_drop, List.length_take]; rfl)) ?_; (with_reducible refine (mathutil_AddUint128_64.calls a0 a1 t109 t110 _ A3.out).mono ?_); rintro e w' ⟨rfl, ⟨nd, rfl⟩⟩; refine ⟨_, rfl, ?_⟩))
  go_ret2
  exact ⟨by first | rfl | (simp; done) | (simp [*]; done), by repeat (first | exact Drawn0.refl _ | apply Drawn0.step)⟩

/-! ### laws_FnMul128Sum: function 6 -/
def laws_FnMul128Sum.f (a0 : Int) (a1 : Int) (a2 : Int) : Option (Bool) := (impl_MulUint128.f 2 3).bind fun bt111 => ((impl_AddUint128.f a1 a2).bind fun bt113 => (if bt113.1 = 0 then ((impl_MulUint128.f a0 a1).bind fun bt115 => ((impl_MulUint128.f a0 a2).bind fun bt117 => ((impl_MulUint128.f a0 bt113.2).bind fun bt119 => ((impl_AddUint128.f bt115.2 bt117.2).bind fun bt121 => (if bt111.2 = 6 then (if bt119.2 = bt121.2 then (some (bt119.1 == (IntKind.u64.wrap ((IntKind.u64.wrap (bt115.1 + bt117.1)) + bt121.1)))) else (some false)) else (some false)))))) else (some (bt111.2 == 6))))
set_option maxHeartbeats 8000000 in
set_option maxRecDepth 100000 in
theorem laws_FnMul128Sum.calls (a0 : Int) (a1 : Int) (a2 : Int) (r : Bool) (w : World) (h : laws_FnMul128Sum.f a0 a1 a2 = some r) :
    Calls Try.prog 6 #[.int .u64 a0, .int .u64 a1, .int .u64 a2] w fun e w' => e = .returned (.bool r) ∧ Drawn0 w w' := by
  have H : ((impl_MulUint128.f 2 3).bind fun bt111 => ((impl_AddUint128.f a1 a2).bind fun bt113 => (if bt113.1 = 0 then ((impl_MulUint128.f a0 a1).bind fun bt115 => ((impl_MulUint128.f a0 a2).bind fun bt117 => ((impl_MulUint128.f a0 bt113.2).bind fun bt119 => ((impl_AddUint128.f bt115.2 bt117.2).bind fun bt121 => (if bt111.2 = 6 then (if bt119.2 = bt121.2 then (some (bt119.1 == (IntKind.u64.wrap ((IntKind.u64.wrap (bt115.1 + bt117.1)) + bt121.1)))) else (some false)) else (some false)))))) else (some (bt111.2 == 6))))) = some r := h
  clear h
  replace H := Option.bind_eq_some_iff.mp H
  obtain ⟨⟨t111, t112⟩, A40, H⟩ := H
  replace H : ((impl_AddUint128.f a1 a2).bind fun bt113 => (if bt113.1 = 0 then ((impl_MulUint128.f a0 a1).bind fun bt115 => ((impl_MulUint128.f a0 a2).bind fun bt117 => ((impl_MulUint128.f a0 bt113.2).bind fun bt119 => ((impl_AddUint128.f bt115.2 bt117.2).bind fun bt121 => (if t112 = 6 then (if bt119.2 = bt121.2 then (some (bt119.1 == (IntKind.u64.wrap ((IntKind.u64.wrap (bt115.1 + bt117.1)) + bt121.1)))) else (some false)) else (some false)))))) else (some (t112 == 6)))) = some r := H
  have A4 := Aside0.mk A40
  clear A40
  replace H := Option.bind_eq_some_iff.mp H
  obtain ⟨⟨t113, t114⟩, A50, H⟩ := H
  replace H : (if t113 = 0 then ((impl_MulUint128.f a0 a1).bind fun bt115 => ((impl_MulUint128.f a0 a2).bind fun bt117 => ((impl_MulUint128.f a0 t114).bind fun bt119 => ((impl_AddUint128.f bt115.2 bt117.2).bind fun bt121 => (if t112 = 6 then (if bt119.2 = bt121.2 then (some (bt119.1 == (IntKind.u64.wrap ((IntKind.u64.wrap (bt115.1 + bt117.1)) + bt121.1)))) else (some false)) else (some false)))))) else (some (t112 == 6))) = some r := H
  have A5 := Aside0.mk A50
  clear A50
  by_cases c6 : t113 = 0
  · rw [if_pos c6] at H
    have c6b0 : (t113 == 0) = true := beq_iff_eq.mpr c6
    have c6b1 : (t113 != 0) = false := bne_eq_false_iff_eq.mpr c6
    clear c6
    replace H := Option.bind_eq_some_iff.mp H
    obtain ⟨⟨t115, t116⟩, A70, H⟩ := H
    replace H : ((impl_MulUint128.f a0 a2).bind fun bt117 => ((impl_MulUint128.f a0 t114).bind fun bt119 => ((impl_AddUint128.f t116 bt117.2).bind fun bt121 => (if t112 = 6 then (if bt119.2 = bt121.2 then (some (bt119.1 == (IntKind.u64.wrap ((IntKind.u64.wrap (t115 + bt117.1)) + bt121.1)))) else (some false)) else (some false))))) = some r := H
    have A7 := Aside0.mk A70
    clear A70
    replace H := Option.bind_eq_some_iff.mp H
    obtain ⟨⟨t117, t118⟩, A80, H⟩ := H
    replace H : ((impl_MulUint128.f a0 t114).bind fun bt119 => ((impl_AddUint128.f t116 t118).bind fun bt121 => (if t112 = 6 then (if bt119.2 = bt121.2 then (some (bt119.1 == (IntKind.u64.wrap ((IntKind.u64.wrap (t115 + t117)) + bt121.1)))) else (some false)) else (some false)))) = some r := H
    have A8 := Aside0.mk A80
    clear A80
    replace H := Option.bind_eq_some_iff.mp H
    obtain ⟨⟨t119, t120⟩, A90, H⟩ := H
    replace H : ((impl_AddUint128.f t116 t118).bind fun bt121 => (if t112 = 6 then (if t120 = bt121.2 then (some (t119 == (IntKind.u64.wrap ((IntKind.u64.wrap (t115 + t117)) + bt121.1)))) else (some false)) else (some false))) = some r := H
    have A9 := Aside0.mk A90
    clear A90
    replace H := Option.bind_eq_some_iff.mp H
    obtain ⟨⟨t121, t122⟩, A100, H⟩ := H
    replace H : (if t112 = 6 then (if t120 = t122 then (some (t119 == (IntKind.u64.wrap ((IntKind.u64.wrap (t115 + t117)) + t121)))) else (some false)) else (some false)) = some r := H
    have A10 := Aside0.mk A100
    clear A100
    by_cases c11 : t112 = 6
    · rw [if_pos c11] at H
      have c11b0 : (t112 == 6) = true := beq_iff_eq.mpr c11
      have c11b1 : (t112 != 6) = false := bne_eq_false_iff_eq.mpr c11
      clear c11
      by_cases c12 : t120 = t122
      · rw [if_pos c12] at H
        have c12b0 : (t120 == t122) = true := beq_iff_eq.mpr c12
        have c12b1 : (t120 != t122) = false := bne_eq_false_iff_eq.mpr c12
        clear c12
        obtain rfl := Option.some.inj H
        go_enter Try.func6, Try.ntmps6
        go_wp2_with (first | ((with_reducible refine gate_callee (f := 16) rfl ?_); refine goesL_ (some 20) rfl rfl Try.func16 (by kernel_rfl) rfl #[.int .u64 2, .int .u64 3] rfl (by (try simp only [List.map_toArray, List.map_cons, List.map_nil]); first | done | rfl | (simp only [List.length_drop, List.length_take]; rfl)) ?_; (with_reducible refine (impl_MulUint128.calls 2 3 t111 t112 _ A4.out).mono ?_); rintro e w' ⟨rfl, ⟨nd, rfl⟩⟩; refine ⟨_, rfl, ?_⟩) | ((with_reducible refine gate_callee (f := 18) rfl ?_); refine goesL_ (some 26) rfl rfl Try.func18 (by kernel_rfl) rfl #[.int .u64 a1, .int .u64 a2] rfl (by (try simp only [List.map_toArray, List.map_cons, List.map_nil]); first | done | rfl | (simp only [List.length_drop, List.length_take]; rfl)) ?_; (with_reducible refine (impl_AddUint128.calls a1 a2 t113 t114 _ A5.out).mono ?_); rintro e w' ⟨rfl, ⟨nd, rfl⟩⟩; refine ⟨_, rfl, ?_⟩) | ((with_reducible refine gate_callee (f := 16) rfl ?_); refine goesL_ (some 36) rfl rfl Try.func16 (by kernel_rfl) rfl #[.int .u64 a0, .int .u64 a1] rfl (by (try simp only [List.map_toArray, List.map_cons, List.map_nil]); first | done | rfl | (simp only [List.length_drop, List.length_take]; rfl)) ?_; (with_reducible refine (impl_MulUint128.calls a0 a1 t115 t116 _ A7.out).mono ?_); rintro e w' ⟨rfl, ⟨nd, rfl⟩⟩; refine ⟨_, rfl, ?_⟩) | ((with_reducible refine gate_callee (f := 16) rfl ?_); refine goesL_ (some 42) rfl rfl Try.func16 (by kernel_rfl) rfl #[.int .u64 a0, .int .u64 a2] rfl (by (try simp only [List.map_toArray, List.map_cons, List.map_nil]); first | done | rfl | (simp only [List.length_drop, List.length_take]; rfl)) ?_; (with_reducible refine (impl_MulUint128.calls a0 a2 t117 t118 _ A8.out).mono ?_); rintro e w' ⟨rfl, ⟨nd, rfl⟩⟩; refine ⟨_, rfl, ?_⟩) | ((with_reducible refine gate_callee (f := 16) rfl ?_); refine goesL_ (some 48) rfl rfl Try.func16 (by kernel_rfl) rfl #[.int .u64 a0, .int .u64 t114] rfl (by (try simp only [List.map_toArray, List.map_cons, List.map_nil]); first | done | rfl | (simp only [List.length_drop, List.length_take]; rfl)) ?_; (with_reducible refine (impl_MulUint128.calls a0 t114 t119 t120 _ A9.out).mono ?_); rintro e w' ⟨rfl, ⟨nd, rfl⟩⟩; refine ⟨_, rfl, ?_⟩) | ((with_reducible refine gate_callee (f := 18) rfl ?_); refine goesL_ (some 54) rfl rfl Try.func18 (by kernel_rfl) rfl #[.int .u64 t116, .int .u64 t118] rfl (by (try simp only [List.map_toArray, List.map_cons, List.map_nil]); first | done | rfl | (simp only [List.length_drop, List.length_take]; rfl)) ?_; (with_reducible refine (impl_AddUint128.calls t116 t118 t121 t122 _ A10.out).mono ?_); rintro e w' ⟨rfl, ⟨nd, rfl⟩⟩; refine ⟨_, rfl, ?_⟩))
        go_ret
        exact ⟨by first | rfl | (simp; done) | (simp [*]; done), by repeat (first | exact Drawn0.refl _ | apply Drawn0.step)⟩
      · rw [if_neg c12] at H
        have c12b0 : (t120 == t122) = false := beq_eq_false_iff_ne.mpr c12
        have c12b1 : (t120 != t122) = true := bne_iff_ne.mpr c12
        obtain rfl := Option.some.inj H
        go_enter Try.func6, Try.ntmps6
        go_wp2_with (first | ((with_reducible refine gate_callee (f := 16) rfl ?_); refine goesL_ (some 20) rfl rfl Try.func16 (by kernel_rfl) rfl #[.int .u64 2, .int .u64 3] rfl (by (try simp only [List.map_toArray, List.map_cons, List.map_nil]); first | done | rfl | (simp only [List.length_drop, List.length_take]; rfl)) ?_; (with_reducible refine (impl_MulUint128.calls 2 3 t111 t112 _ A4.out).mono ?_); rintro e w' ⟨rfl, ⟨nd, rfl⟩⟩; refine ⟨_, rfl, ?_⟩) | ((with_reducible refine gate_callee (f := 18) rfl ?_); refine goesL_ (some 26) rfl rfl Try.func18 (by kernel_rfl) rfl #[.int .u64 a1, .int .u64 a2] rfl (by (try simp only [List.map_toArray, List.map_cons, List.map_nil]); first | done | rfl | (simp only [List.length_drop, List.length_take]; rfl)) ?_; (with_reducible refine (impl_AddUint128.calls a1 a2 t113 t114 _ A5.out).mono ?_); rintro e w' ⟨rfl, ⟨nd, rfl⟩⟩; refine ⟨_, rfl, ?_⟩) | ((with_reducible refine gate_callee (f := 16) rfl ?_); refine goesL_ (some 36) rfl rfl Try.func16 (by kernel_rfl) rfl #[.int .u64 a0, .int .u64 a1] rfl (by (try simp only [List.map_toArray, List.map_cons, List.map_nil]); first | done | rfl | (simp only [List.length_drop, List.length_take]; rfl)) ?_; (with_reducible refine (impl_MulUint128.calls a0 a1 t115 t116 _ A7.out).mono ?_); rintro e w' ⟨rfl, ⟨nd, rfl⟩⟩; refine ⟨_, rfl, ?_⟩) | ((with_reducible refine gate_callee (f := 16) rfl ?_); refine goesL_ (some 42) rfl rfl Try.func16 (by kernel_rfl) rfl #[.int .u64 a0, .int .u64 a2] rfl (by (try simp only [List.map_toArray, List.map_cons, List.map_nil]); first | done | rfl | (simp only [List.length_drop, List.length_take]; rfl)) ?_; (with_reducible refine (impl_MulUint128.calls a0 a2 t117 t118 _ A8.out).mono ?_); rintro e w' ⟨rfl, ⟨nd, rfl⟩⟩; refine ⟨_, rfl, ?_⟩) | ((with_reducible refine gate_callee (f := 16) rfl ?_); refine goesL_ (some 48) rfl rfl Try.func16 (by kernel_rfl) rfl #[.int .u64 a0, .int .u64 t114] rfl (by (try simp only [List.map_toArray, List.map_cons, List.map_nil]); first | done | rfl | (simp only [List.length_drop, List.length_take]; rfl)) ?_; (with_reducible refine (impl_MulUint128.calls a0 t114 t119 t120 _ A9.out).mono ?_); rintro e w' ⟨rfl, ⟨nd, rfl⟩⟩; refine ⟨_, rfl, ?_⟩) | ((with_reducible refine gate_callee (f := 18) rfl ?_); refine goesL_ (some 54) rfl rfl Try.func18 (by kernel_rfl) rfl #[.int .u64 t116, .int .u64 t118] rfl (by (try simp only [List.map_toArray, List.map_cons, List.map_nil]); first | done | rfl | (simp only [List.length_drop, List.length_take]; rfl)) ?_; (with_reducible refine (impl_AddUint128.calls t116 t118 t121 t122 _ A10.out).mono ?_); rintro e w' ⟨rfl, ⟨nd, rfl⟩⟩; refine ⟨_, rfl, ?_⟩))
        go_ret
        exact ⟨by first | rfl | (simp; done) | (simp [*]; done), by repeat (first | exact Drawn0.refl _ | apply Drawn0.step)⟩
    · rw [if_neg c11] at H
      have c11b0 : (t112 == 6) = false := beq_eq_false_iff_ne.mpr c11
      have c11b1 : (t112 != 6) = true := bne_iff_ne.mpr c11
      obtain rfl := Option.some.inj H
      go_enter Try.func6, Try.ntmps6
      go_wp2_with (first | ((with_reducible refine gate_callee (f := 16) rfl ?_); refine goesL_ (some 20) rfl rfl Try.func16 (by kernel_rfl) rfl #[.int .u64 2, .int .u64 3] rfl (by (try simp only [List.map_toArray, List.map_cons, List.map_nil]); first | done | rfl | (simp only [List.length_drop, List.length_take]; rfl)) ?_; (with_reducible refine (impl_MulUint128.calls 2 3 t111 t112 _ A4.out).mono ?_); rintro e w' ⟨rfl, ⟨nd, rfl⟩⟩; refine ⟨_, rfl, ?_⟩) | ((with_reducible refine gate_callee (f := 18) rfl ?_); refine goesL_ (some 26) rfl rfl Try.func18 (by kernel_rfl) rfl #[.int .u64 a1, .int .u64 a2] rfl (by (try simp only [List.map_toArray, List.map_cons, List.map_nil]); first | done | rfl | (simp only [List.length_drop, List.length_take]; rfl)) ?_; (with_reducible refine (impl_AddUint128.calls a1 a2 t113 t114 _ A5.out).mono ?_); rintro e w' ⟨rfl, ⟨nd, rfl⟩⟩; refine ⟨_, rfl, ?_⟩) | ((with_reducible refine gate_callee (f := 16) rfl ?_); refine goesL_ (some 36) rfl rfl Try.func16 (by kernel_rfl) rfl #[.int .u64 a0, .int .u64 a1] rfl (by (try simp only [List.map_toArray, List.map_cons, List.map_nil]); first | done | rfl | (simp only [List.length_drop, List.length_take]; rfl)) ?_; (with_reducible refine (impl_MulUint128.calls a0 a1 t115 t116 _ A7.out).mono ?_); rintro e w' ⟨rfl, ⟨nd, rfl⟩⟩; refine ⟨_, rfl, ?_⟩) | ((with_reducible refine gate_callee (f := 16) rfl ?_); refine goesL_ (some 42) rfl rfl Try.func16 (by kernel_rfl) rfl #[.int .u64 a0, .int .u64 a2] rfl (by (try simp only [List.map_toArray, List.map_cons, List.map_nil]); first | done | rfl | (simp only [List.length_drop, List.length_take]; rfl)) ?_; (with_reducible refine (impl_MulUint128.calls a0 a2 t117 t118 _ A8.out).mono ?_); rintro e w' ⟨rfl, ⟨nd, rfl⟩⟩; refine ⟨_, rfl, ?_⟩) | ((with_reducible refine gate_callee (f := 16) rfl ?_); refine goesL_ (some 48) rfl rfl Try.func16 (by kernel_rfl) rfl #[.int .u64 a0, .int .u64 t114] rfl (by (try simp only [List.map_toArray, List.map_cons, List.map_nil]); first | done | rfl | (simp only [List.length_drop, List.length_take]; rfl)) ?_; (with_reducible refine (impl_MulUint128.calls a0 t114 t119 t120 _ A9.out).mono ?_); rintro e w' ⟨rfl, ⟨nd, rfl⟩⟩; refine ⟨_, rfl, ?_⟩) | ((with_reducible refine gate_callee (f := 18) rfl ?_); refine goesL_ (some 54) rfl rfl Try.func18 (by kernel_rfl) rfl #[.int .u64 t116, .int .u64 t118] rfl (by (try simp only [List.map_toArray, List.map_cons, List.map_nil]); first | done | rfl | (simp only [List.length_drop, List.length_take]; rfl)) ?_; (with_reducible refine (impl_AddUint128.calls t116 t118 t121 t122 _ A10.out).mono ?_); rintro e w' ⟨rfl, ⟨nd, rfl⟩⟩; refine ⟨_, rfl, ?_⟩))
      go_ret
      exact ⟨by first | rfl | (simp; done) | (simp [*]; done), by repeat (first | exact Drawn0.refl _ | apply Drawn0.step)⟩
  · rw [if_neg c6] at H
    have c6b0 : (t113 == 0) = false := beq_eq_false_iff_ne.mpr c6
    have c6b1 : (t113 != 0) = true := bne_iff_ne.mpr c6
    obtain rfl := Option.some.inj H
    go_enter Try.func6, Try.ntmps6
    go_wp2_with (first | ((with_reducible refine gate_callee (f := 16) rfl ?_); refine goesL_ (some 20) rfl rfl Try.func16 (by kernel_rfl) rfl #[.int .u64 2, .int .u64 3] rfl (by (try simp only [List.map_toArray, List.map_cons, List.map_nil]); first | done | rfl | (simp only [List.length_drop, List.length_take]; rfl)) ?_; (with_reducible refine (impl_MulUint128.calls 2 3 t111 t112 _ A4.out).mono ?_); rintro e w' ⟨rfl, ⟨nd, rfl⟩⟩; refine ⟨_, rfl, ?_⟩) | ((with_reducible refine gate_callee (f := 18) rfl ?_); refine goesL_ (some 26) rfl rfl Try.func18 (by kernel_rfl) rfl #[.int .u64 a1, .int .u64 a2] rfl (by (try simp only [List.map_toArray, List.map_cons, List.map_nil]); first | done | rfl | (simp only [List.length_drop, List.length_take]; rfl)) ?_; (with_reducible refine (impl_AddUint128.calls a1 a2 t113 t114 _ A5.out).mono ?_); rintro e w' ⟨rfl, ⟨nd, rfl⟩⟩; refine ⟨_, rfl, ?_⟩))
    go_ret
    exact ⟨by first | rfl | (simp; done) | (simp [*]; done), by repeat (first | exact Drawn0.refl _ | apply Drawn0.step)⟩

/-- THE ONE PURE STATEMENT of laws_FnMul128Sum: yours. -/
def laws_FnMul128Sum.Pure : Prop := ∀ (a0 : Int) (a1 : Int) (a2 : Int), (Lit.int .u64 a0).wf = true → (Lit.int .u64 a1).wf = true → (Lit.int .u64 a2).wf = true → laws_FnMul128Sum.f a0 a1 a2 = some true
theorem laws_FnMul128Sum.walk (P : laws_FnMul128Sum.Pure) (a0 : Int) (a1 : Int) (a2 : Int) (w : World) (w0 : (Lit.int .u64 a0).wf = true) (w1 : (Lit.int .u64 a1).wf = true) (w2 : (Lit.int .u64 a2).wf = true) :
    Calls Try.prog 6 #[.int .u64 a0, .int .u64 a1, .int .u64 a2] w fun e w' => e = .returned (.bool true) ∧ Below w.heap.size w w' := by
  have h := P a0 a1 a2 w0 w1 w2
  refine (laws_FnMul128Sum.calls a0 a1 a2 true w h).mono ?_
  rintro e w' ⟨rfl, hd⟩
  exact ⟨rfl, hd.below⟩

end Go.Proofs.Ytmbhbioanoalaaa.PFnMul128Sum
