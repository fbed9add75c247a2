-- PRINTED BY print.sh 35421559b90ae4d0a3588c463048766b98c2df88dd9212a6774a882060cdf62d: not written by this session
import Derived.Test.YtfoifemajoebpaaPFnClampx0
namespace Go.Proofs.Ytfoifemajoebpaa.PFnClamp
open Go.RowKit Go.Proofs.YtfoifemajoebpaaW.PrintWords Go.Proofs.YtfoifemajoebpaaW.PrintLast Go.Proofs.YtfoifemajoebpaaW.PrintMore
attribute [local go_sem] max2_int min2_int max_two min_two max_three min_three max_four min_four   -- for this text's walks alone
set_option linter.unusedVariables false
set_option linter.unusedSimpArgs false

/-! ### mathutil_Min: function 21 -/
def mathutil_Min.f (a0 : Int) (a1 : Int) : Option (Int) := if a0 < a1 then (some a0) else (some a1)
set_option maxHeartbeats 8000000 in
set_option maxRecDepth 100000 in
theorem mathutil_Min.calls (a0 : Int) (a1 : Int) (r : Int) (w : World) (h : mathutil_Min.f a0 a1 = some r) :
    Calls Try.prog 21 #[.int .i64 a0, .int .i64 a1] w fun e w' => e = .returned (.int .i64 r) ∧ Drawn0 w w' := by
  have H : (if a0 < a1 then (some a0) else (some a1)) = some r := h
  clear h
  by_cases c3 : a0 < a1
  · rw [if_pos c3] at H
    have c3b0 : decide (a0 < a1) = true := decide_eq_true c3
    clear c3
    obtain rfl := Option.some.inj H
    go_enter Try.func21, Try.ntmps21
    go_wp2
    go_ret
    exact ⟨by first | rfl | (simp; done) | (simp [*]; done), by repeat (first | exact Drawn0.refl _ | apply Drawn0.step)⟩
  · rw [if_neg c3] at H
    have c3b0 : decide (a0 < a1) = false := decide_eq_false c3
    clear c3
    obtain rfl := Option.some.inj H
    go_enter Try.func21, Try.ntmps21
    go_wp2
    go_ret
    exact ⟨by first | rfl | (simp; done) | (simp [*]; done), by repeat (first | exact Drawn0.refl _ | apply Drawn0.step)⟩

/-! ### mathutil_Max: function 22 -/
def mathutil_Max.f (a0 : Int) (a1 : Int) : Option (Int) := if a0 > a1 then (some a0) else (some a1)
set_option maxHeartbeats 8000000 in
set_option maxRecDepth 100000 in
theorem mathutil_Max.calls (a0 : Int) (a1 : Int) (r : Int) (w : World) (h : mathutil_Max.f a0 a1 = some r) :
    Calls Try.prog 22 #[.int .i64 a0, .int .i64 a1] w fun e w' => e = .returned (.int .i64 r) ∧ Drawn0 w w' := by
  have H : (if a0 > a1 then (some a0) else (some a1)) = some r := h
  clear h
  by_cases c3 : a0 > a1
  · rw [if_pos c3] at H
    have c3b0 : decide (a1 < a0) = true := decide_eq_true c3
    clear c3
    obtain rfl := Option.some.inj H
    go_enter Try.func22, Try.ntmps22
    go_wp2
    go_ret
    exact ⟨by first | rfl | (simp; done) | (simp [*]; done), by repeat (first | exact Drawn0.refl _ | apply Drawn0.step)⟩
  · rw [if_neg c3] at H
    have c3b0 : decide (a1 < a0) = false := decide_eq_false c3
    clear c3
    obtain rfl := Option.some.inj H
    go_enter Try.func22, Try.ntmps22
    go_wp2
    go_ret
    exact ⟨by first | rfl | (simp; done) | (simp [*]; done), by repeat (first | exact Drawn0.refl _ | apply Drawn0.step)⟩

/-! ### mathutil_Clamp: function 11 -/
def mathutil_Clamp.f (a0 : Int) (a1 : Int) (a2 : Int) : Option (Int) := (mathutil_Max.f a0 a1).bind fun t101 => ((mathutil_Min.f t101 a2).bind fun t102 => (some t102))
set_option maxHeartbeats 8000000 in
set_option maxRecDepth 100000 in
theorem mathutil_Clamp.calls (a0 : Int) (a1 : Int) (a2 : Int) (r : Int) (w : World) (h : mathutil_Clamp.f a0 a1 a2 = some r) :
    Calls Try.prog 11 #[.int .i64 a0, .int .i64 a1, .int .i64 a2] w fun e w' => e = .returned (.int .i64 r) ∧ Drawn0 w w' := by
  have H : ((mathutil_Max.f a0 a1).bind fun t101 => ((mathutil_Min.f t101 a2).bind fun t102 => (some t102))) = some r := h
  clear h
  replace H := Option.bind_eq_some_iff.mp H
  obtain ⟨t101, A40, H⟩ := H
  replace H : ((mathutil_Min.f t101 a2).bind fun t102 => (some t102)) = some r := H
  have A4 := Aside0.mk A40
  clear A40
  replace H := Option.bind_eq_some_iff.mp H
  obtain ⟨t102, A50, H⟩ := H
  replace H : (some t102) = some r := H
  have A5 := Aside0.mk A50
  clear A50
  obtain rfl := Option.some.inj H
  go_enter Try.func11, Try.ntmps11
  go_wp2_with (first | ((with_reducible refine gate_callee (f := 22) rfl ?_); refine goesL_ (some 9) rfl rfl Try.func22 (by kernel_rfl) rfl #[.int .i64 a0, .int .i64 a1] rfl (by (try simp only [List.map_toArray, List.map_cons, List.map_nil]); first | done | rfl | (simp only [List.length_drop, List.length_take]; rfl)) ?_; (with_reducible refine (mathutil_Max.calls a0 a1 t101 _ A4.out).mono ?_); rintro e w' ⟨rfl, ⟨nd, rfl⟩⟩; refine ⟨_, rfl, ?_⟩) | ((with_reducible refine gate_callee (f := 21) rfl ?_); refine goesL_ (some 11) rfl rfl Try.func21 (by kernel_rfl) rfl #[.int .i64 t101, .int .i64 a2] rfl (by (try simp only [List.map_toArray, List.map_cons, List.map_nil]); first | done | rfl | (simp only [List.length_drop, List.length_take]; rfl)) ?_; (with_reducible refine (mathutil_Min.calls t101 a2 t102 _ A5.out).mono ?_); rintro e w' ⟨rfl, ⟨nd, rfl⟩⟩; refine ⟨_, rfl, ?_⟩))
  go_ret
  exact ⟨by first | rfl | (simp; done) | (simp [*]; done), by repeat (first | exact Drawn0.refl _ | apply Drawn0.step)⟩

/-! ### mathutil_MinInt8: function 23 -/
def mathutil_MinInt8.f (a0 : Int) (a1 : Int) : Option (Int) := if a0 < a1 then (some a0) else (some a1)
set_option maxHeartbeats 8000000 in
set_option maxRecDepth 100000 in
theorem mathutil_MinInt8.calls (a0 : Int) (a1 : Int) (r : Int) (w : World) (h : mathutil_MinInt8.f a0 a1 = some r) :
    Calls Try.prog 23 #[.int .i8 a0, .int .i8 a1] w fun e w' => e = .returned (.int .i8 r) ∧ Drawn0 w w' := by
  have H : (if a0 < a1 then (some a0) else (some a1)) = some r := h
  clear h
  by_cases c3 : a0 < a1
  · rw [if_pos c3] at H
    have c3b0 : decide (a0 < a1) = true := decide_eq_true c3
    clear c3
    obtain rfl := Option.some.inj H
    go_enter Try.func23, Try.ntmps23
    go_wp2
    go_ret
    exact ⟨by first | rfl | (simp; done) | (simp [*]; done), by repeat (first | exact Drawn0.refl _ | apply Drawn0.step)⟩
  · rw [if_neg c3] at H
    have c3b0 : decide (a0 < a1) = false := decide_eq_false c3
    clear c3
    obtain rfl := Option.some.inj H
    go_enter Try.func23, Try.ntmps23
    go_wp2
    go_ret
    exact ⟨by first | rfl | (simp; done) | (simp [*]; done), by repeat (first | exact Drawn0.refl _ | apply Drawn0.step)⟩

/-! ### mathutil_MaxInt8: function 24 -/
def mathutil_MaxInt8.f (a0 : Int) (a1 : Int) : Option (Int) := if a0 > a1 then (some a0) else (some a1)
set_option maxHeartbeats 8000000 in
set_option maxRecDepth 100000 in
theorem mathutil_MaxInt8.calls (a0 : Int) (a1 : Int) (r : Int) (w : World) (h : mathutil_MaxInt8.f a0 a1 = some r) :
    Calls Try.prog 24 #[.int .i8 a0, .int .i8 a1] w fun e w' => e = .returned (.int .i8 r) ∧ Drawn0 w w' := by
  have H : (if a0 > a1 then (some a0) else (some a1)) = some r := h
  clear h
  by_cases c3 : a0 > a1
  · rw [if_pos c3] at H
    have c3b0 : decide (a1 < a0) = true := decide_eq_true c3
    clear c3
    obtain rfl := Option.some.inj H
    go_enter Try.func24, Try.ntmps24
    go_wp2
    go_ret
    exact ⟨by first | rfl | (simp; done) | (simp [*]; done), by repeat (first | exact Drawn0.refl _ | apply Drawn0.step)⟩
  · rw [if_neg c3] at H
    have c3b0 : decide (a1 < a0) = false := decide_eq_false c3
    clear c3
    obtain rfl := Option.some.inj H
    go_enter Try.func24, Try.ntmps24
    go_wp2
    go_ret
    exact ⟨by first | rfl | (simp; done) | (simp [*]; done), by repeat (first | exact Drawn0.refl _ | apply Drawn0.step)⟩

/-! ### mathutil_ClampInt8: function 12 -/
def mathutil_ClampInt8.f (a0 : Int) (a1 : Int) (a2 : Int) : Option (Int) := (mathutil_MaxInt8.f a0 a1).bind fun t103 => ((mathutil_MinInt8.f t103 a2).bind fun t104 => (some t104))
set_option maxHeartbeats 8000000 in
set_option maxRecDepth 100000 in
theorem mathutil_ClampInt8.calls (a0 : Int) (a1 : Int) (a2 : Int) (r : Int) (w : World) (h : mathutil_ClampInt8.f a0 a1 a2 = some r) :
    Calls Try.prog 12 #[.int .i8 a0, .int .i8 a1, .int .i8 a2] w fun e w' => e = .returned (.int .i8 r) ∧ Drawn0 w w' := by
  have H : ((mathutil_MaxInt8.f a0 a1).bind fun t103 => ((mathutil_MinInt8.f t103 a2).bind fun t104 => (some t104))) = some r := h
  clear h
  replace H := Option.bind_eq_some_iff.mp H
  obtain ⟨t103, A40, H⟩ := H
  replace H : ((mathutil_MinInt8.f t103 a2).bind fun t104 => (some t104)) = some r := H
  have A4 := Aside0.mk A40
  clear A40
  replace H := Option.bind_eq_some_iff.mp H
  obtain ⟨t104, A50, H⟩ := H
  replace H : (some t104) = some r := H
  have A5 := Aside0.mk A50
  clear A50
  obtain rfl := Option.some.inj H
  go_enter Try.func12, Try.ntmps12
  go_wp2_with (first | ((with_reducible refine gate_callee (f := 24) rfl ?_); refine goesL_ (some 9) rfl rfl Try.func24 (by kernel_rfl) rfl #[.int .i8 a0, .int .i8 a1] rfl (by (try simp only [List.map_toArray, List.map_cons, List.map_nil]); first | done | rfl | (simp only [List.length_drop, List.length_take]; rfl)) ?_; (with_reducible refine (mathutil_MaxInt8.calls a0 a1 t103 _ A4.out).mono ?_); rintro e w' ⟨rfl, ⟨nd, rfl⟩⟩; refine ⟨_, rfl, ?_⟩) | ((with_reducible refine gate_callee (f := 23) rfl ?_); refine goesL_ (some 11) rfl rfl Try.func23 (by kernel_rfl) rfl #[.int .i8 t103, .int .i8 a2] rfl (by (try simp only [List.map_toArray, List.map_cons, List.map_nil]); first | done | rfl | (simp only [List.length_drop, List.length_take]; rfl)) ?_; (with_reducible refine (mathutil_MinInt8.calls t103 a2 t104 _ A5.out).mono ?_); rintro e w' ⟨rfl, ⟨nd, rfl⟩⟩; refine ⟨_, rfl, ?_⟩))
  go_ret
  exact ⟨by first | rfl | (simp; done) | (simp [*]; done), by repeat (first | exact Drawn0.refl _ | apply Drawn0.step)⟩

/-! ### mathutil_MinInt16: function 25 -/
def mathutil_MinInt16.f (a0 : Int) (a1 : Int) : Option (Int) := if a0 < a1 then (some a0) else (some a1)
set_option maxHeartbeats 8000000 in
set_option maxRecDepth 100000 in
theorem mathutil_MinInt16.calls (a0 : Int) (a1 : Int) (r : Int) (w : World) (h : mathutil_MinInt16.f a0 a1 = some r) :
    Calls Try.prog 25 #[.int .i16 a0, .int .i16 a1] w fun e w' => e = .returned (.int .i16 r) ∧ Drawn0 w w' := by
  have H : (if a0 < a1 then (some a0) else (some a1)) = some r := h
  clear h
  by_cases c3 : a0 < a1
  · rw [if_pos c3] at H
    have c3b0 : decide (a0 < a1) = true := decide_eq_true c3
    clear c3
    obtain rfl := Option.some.inj H
    go_enter Try.func25, Try.ntmps25
    go_wp2
    go_ret
    exact ⟨by first | rfl | (simp; done) | (simp [*]; done), by repeat (first | exact Drawn0.refl _ | apply Drawn0.step)⟩
  · rw [if_neg c3] at H
    have c3b0 : decide (a0 < a1) = false := decide_eq_false c3
    clear c3
    obtain rfl := Option.some.inj H
    go_enter Try.func25, Try.ntmps25
    go_wp2
    go_ret
    exact ⟨by first | rfl | (simp; done) | (simp [*]; done), by repeat (first | exact Drawn0.refl _ | apply Drawn0.step)⟩

/-! ### mathutil_MaxInt16: function 26 -/
def mathutil_MaxInt16.f (a0 : Int) (a1 : Int) : Option (Int) := if a0 > a1 then (some a0) else (some a1)
set_option maxHeartbeats 8000000 in
set_option maxRecDepth 100000 in
theorem mathutil_MaxInt16.calls (a0 : Int) (a1 : Int) (r : Int) (w : World) (h : mathutil_MaxInt16.f a0 a1 = some r) :
    Calls Try.prog 26 #[.int .i16 a0, .int .i16 a1] w fun e w' => e = .returned (.int .i16 r) ∧ Drawn0 w w' := by
  have H : (if a0 > a1 then (some a0) else (some a1)) = some r := h
  clear h
  by_cases c3 : a0 > a1
  · rw [if_pos c3] at H
    have c3b0 : decide (a1 < a0) = true := decide_eq_true c3
    clear c3
    obtain rfl := Option.some.inj H
    go_enter Try.func26, Try.ntmps26
    go_wp2
    go_ret
    exact ⟨by first | rfl | (simp; done) | (simp [*]; done), by repeat (first | exact Drawn0.refl _ | apply Drawn0.step)⟩
  · rw [if_neg c3] at H
    have c3b0 : decide (a1 < a0) = false := decide_eq_false c3
    clear c3
    obtain rfl := Option.some.inj H
    go_enter Try.func26, Try.ntmps26
    go_wp2
    go_ret
    exact ⟨by first | rfl | (simp; done) | (simp [*]; done), by repeat (first | exact Drawn0.refl _ | apply Drawn0.step)⟩

/-! ### mathutil_ClampInt16: function 13 -/
def mathutil_ClampInt16.f (a0 : Int) (a1 : Int) (a2 : Int) : Option (Int) := (mathutil_MaxInt16.f a0 a1).bind fun t105 => ((mathutil_MinInt16.f t105 a2).bind fun t106 => (some t106))
set_option maxHeartbeats 8000000 in
set_option maxRecDepth 100000 in
theorem mathutil_ClampInt16.calls (a0 : Int) (a1 : Int) (a2 : Int) (r : Int) (w : World) (h : mathutil_ClampInt16.f a0 a1 a2 = some r) :
    Calls Try.prog 13 #[.int .i16 a0, .int .i16 a1, .int .i16 a2] w fun e w' => e = .returned (.int .i16 r) ∧ Drawn0 w w' := by
  have H : ((mathutil_MaxInt16.f a0 a1).bind fun t105 => ((mathutil_MinInt16.f t105 a2).bind fun t106 => (some t106))) = some r := h
  clear h
  replace H := Option.bind_eq_some_iff.mp H
  obtain ⟨t105, A40, H⟩ := H
  replace H : ((mathutil_MinInt16.f t105 a2).bind fun t106 => (some t106)) = some r := H
  have A4 := Aside0.mk A40
  clear A40
  replace H := Option.bind_eq_some_iff.mp H
  obtain ⟨t106, A50, H⟩ := H
  replace H : (some t106) = some r := H
  have A5 := Aside0.mk A50
  clear A50
  obtain rfl := Option.some.inj H
  go_enter Try.func13, Try.ntmps13
  go_wp2_with (first | ((with_reducible refine gate_callee (f := 26) rfl ?_); refine goesL_ (some 9) rfl rfl Try.func26 (by kernel_rfl) rfl #[.int .i16 a0, .int .i16 a1] rfl (by (try simp only [List.map_toArray, List.map_cons, List.map_nil]); first | done | rfl | (simp only [List.length_drop, List.length_take]; rfl)) ?_; (with_reducible refine (mathutil_MaxInt16.calls a0 a1 t105 _ A4.out).mono ?_); rintro e w' ⟨rfl, ⟨nd, rfl⟩⟩; refine ⟨_, rfl, ?_⟩) | ((with_reducible refine gate_callee (f := 25) rfl ?_); refine goesL_ (some 11) rfl rfl Try.func25 (by kernel_rfl) rfl #[.int .i16 t105, .int .i16 a2] rfl (by (try simp only [List.map_toArray, List.map_cons, List.map_nil]); first | done | rfl | (simp only [List.length_drop, List.length_take]; rfl)) ?_; (with_reducible refine (mathutil_MinInt16.calls t105 a2 t106 _ A5.out).mono ?_); rintro e w' ⟨rfl, ⟨nd, rfl⟩⟩; refine ⟨_, rfl, ?_⟩))
  go_ret
  exact ⟨by first | rfl | (simp; done) | (simp [*]; done), by repeat (first | exact Drawn0.refl _ | apply Drawn0.step)⟩

/-! ### mathutil_MinInt32: function 27 -/
def mathutil_MinInt32.f (a0 : Int) (a1 : Int) : Option (Int) := if a0 < a1 then (some a0) else (some a1)
set_option maxHeartbeats 8000000 in
set_option maxRecDepth 100000 in
theorem mathutil_MinInt32.calls (a0 : Int) (a1 : Int) (r : Int) (w : World) (h : mathutil_MinInt32.f a0 a1 = some r) :
    Calls Try.prog 27 #[.int .i32 a0, .int .i32 a1] w fun e w' => e = .returned (.int .i32 r) ∧ Drawn0 w w' := by
  have H : (if a0 < a1 then (some a0) else (some a1)) = some r := h
  clear h
  by_cases c3 : a0 < a1
  · rw [if_pos c3] at H
    have c3b0 : decide (a0 < a1) = true := decide_eq_true c3
    clear c3
    obtain rfl := Option.some.inj H
    go_enter Try.func27, Try.ntmps27
    go_wp2
    go_ret
    exact ⟨by first | rfl | (simp; done) | (simp [*]; done), by repeat (first | exact Drawn0.refl _ | apply Drawn0.step)⟩
  · rw [if_neg c3] at H
    have c3b0 : decide (a0 < a1) = false := decide_eq_false c3
    clear c3
    obtain rfl := Option.some.inj H
    go_enter Try.func27, Try.ntmps27
    go_wp2
    go_ret
    exact ⟨by first | rfl | (simp; done) | (simp [*]; done), by repeat (first | exact Drawn0.refl _ | apply Drawn0.step)⟩

/-! ### mathutil_MaxInt32: function 28 -/
def mathutil_MaxInt32.f (a0 : Int) (a1 : Int) : Option (Int) := if a0 > a1 then (some a0) else (some a1)
set_option maxHeartbeats 8000000 in
set_option maxRecDepth 100000 in
theorem mathutil_MaxInt32.calls (a0 : Int) (a1 : Int) (r : Int) (w : World) (h : mathutil_MaxInt32.f a0 a1 = some r) :
    Calls Try.prog 28 #[.int .i32 a0, .int .i32 a1] w fun e w' => e = .returned (.int .i32 r) ∧ Drawn0 w w' := by
  have H : (if a0 > a1 then (some a0) else (some a1)) = some r := h
  clear h
  by_cases c3 : a0 > a1
  · rw [if_pos c3] at H
    have c3b0 : decide (a1 < a0) = true := decide_eq_true c3
    clear c3
    obtain rfl := Option.some.inj H
    go_enter Try.func28, Try.ntmps28
    go_wp2
    go_ret
    exact ⟨by first | rfl | (simp; done) | (simp [*]; done), by repeat (first | exact Drawn0.refl _ | apply Drawn0.step)⟩
  · rw [if_neg c3] at H
    have c3b0 : decide (a1 < a0) = false := decide_eq_false c3
    clear c3
    obtain rfl := Option.some.inj H
    go_enter Try.func28, Try.ntmps28
    go_wp2
    go_ret
    exact ⟨by first | rfl | (simp; done) | (simp [*]; done), by repeat (first | exact Drawn0.refl _ | apply Drawn0.step)⟩

/-! ### mathutil_ClampInt32: function 14 -/
def mathutil_ClampInt32.f (a0 : Int) (a1 : Int) (a2 : Int) : Option (Int) := (mathutil_MaxInt32.f a0 a1).bind fun t107 => ((mathutil_MinInt32.f t107 a2).bind fun t108 => (some t108))
set_option maxHeartbeats 8000000 in
set_option maxRecDepth 100000 in
theorem mathutil_ClampInt32.calls (a0 : Int) (a1 : Int) (a2 : Int) (r : Int) (w : World) (h : mathutil_ClampInt32.f a0 a1 a2 = some r) :
    Calls Try.prog 14 #[.int .i32 a0, .int .i32 a1, .int .i32 a2] w fun e w' => e = .returned (.int .i32 r) ∧ Drawn0 w w' := by
  have H : ((mathutil_MaxInt32.f a0 a1).bind fun t107 => ((mathutil_MinInt32.f t107 a2).bind fun t108 => (some t108))) = some r := h
  clear h
  replace H := Option.bind_eq_some_iff.mp H
  obtain ⟨t107, A40, H⟩ := H
  replace H : ((mathutil_MinInt32.f t107 a2).bind fun t108 => (some t108)) = some r := H
  have A4 := Aside0.mk A40
  clear A40
  replace H := Option.bind_eq_some_iff.mp H
  obtain ⟨t108, A50, H⟩ := H
  replace H : (some t108) = some r := H
  have A5 := Aside0.mk A50
  clear A50
  obtain rfl := Option.some.inj H
  go_enter Try.func14, Try.ntmps14
  go_wp2_with (first | ((with_reducible refine gate_callee (f := 28) rfl ?_); refine goesL_ (some 9) rfl rfl Try.func28 (by kernel_rfl) rfl #[.int .i32 a0, .int .i32 a1] rfl (by (try simp only [List.map_toArray, List.map_cons, List.map_nil]); first | done | rfl | (simp only [List.length_drop, List.length_take]; rfl)) ?_; (with_reducible refine (mathutil_MaxInt32.calls a0 a1 t107 _ A4.out).mono ?_); rintro e w' ⟨rfl, ⟨nd, rfl⟩⟩; refine ⟨_, rfl, ?_⟩) | ((with_reducible refine gate_callee (f := 27) rfl ?_); refine goesL_ (some 11) rfl rfl Try.func27 (by kernel_rfl) rfl #[.int .i32 t107, .int .i32 a2] rfl (by (try simp only [List.map_toArray, List.map_cons, List.map_nil]); first | done | rfl | (simp only [List.length_drop, List.length_take]; rfl)) ?_; (with_reducible refine (mathutil_MinInt32.calls t107 a2 t108 _ A5.out).mono ?_); rintro e w' ⟨rfl, ⟨nd, rfl⟩⟩; refine ⟨_, rfl, ?_⟩))
  go_ret
  exact ⟨by first | rfl | (simp; done) | (simp [*]; done), by repeat (first | exact Drawn0.refl _ | apply Drawn0.step)⟩

/-! ### mathutil_MinInt64: function 29 -/
def mathutil_MinInt64.f (a0 : Int) (a1 : Int) : Option (Int) := if a0 < a1 then (some a0) else (some a1)
set_option maxHeartbeats 8000000 in
set_option maxRecDepth 100000 in
theorem mathutil_MinInt64.calls (a0 : Int) (a1 : Int) (r : Int) (w : World) (h : mathutil_MinInt64.f a0 a1 = some r) :
    Calls Try.prog 29 #[.int .i64 a0, .int .i64 a1] w fun e w' => e = .returned (.int .i64 r) ∧ Drawn0 w w' := by
  have H : (if a0 < a1 then (some a0) else (some a1)) = some r := h
  clear h
  by_cases c3 : a0 < a1
  · rw [if_pos c3] at H
    have c3b0 : decide (a0 < a1) = true := decide_eq_true c3
    clear c3
    obtain rfl := Option.some.inj H
    go_enter Try.func29, Try.ntmps29
    go_wp2
    go_ret
    exact ⟨by first | rfl | (simp; done) | (simp [*]; done), by repeat (first | exact Drawn0.refl _ | apply Drawn0.step)⟩
  · rw [if_neg c3] at H
    have c3b0 : decide (a0 < a1) = false := decide_eq_false c3
    clear c3
    obtain rfl := Option.some.inj H
    go_enter Try.func29, Try.ntmps29
    go_wp2
    go_ret
    exact ⟨by first | rfl | (simp; done) | (simp [*]; done), by repeat (first | exact Drawn0.refl _ | apply Drawn0.step)⟩

/-! ### mathutil_MaxInt64: function 30 -/
def mathutil_MaxInt64.f (a0 : Int) (a1 : Int) : Option (Int) := if a0 > a1 then (some a0) else (some a1)
set_option maxHeartbeats 8000000 in
set_option maxRecDepth 100000 in
theorem mathutil_MaxInt64.calls (a0 : Int) (a1 : Int) (r : Int) (w : World) (h : mathutil_MaxInt64.f a0 a1 = some r) :
    Calls Try.prog 30 #[.int .i64 a0, .int .i64 a1] w fun e w' => e = .returned (.int .i64 r) ∧ Drawn0 w w' := by
  have H : (if a0 > a1 then (some a0) else (some a1)) = some r := h
  clear h
  by_cases c3 : a0 > a1
  · rw [if_pos c3] at H
    have c3b0 : decide (a1 < a0) = true := decide_eq_true c3
    clear c3
    obtain rfl := Option.some.inj H
    go_enter Try.func30, Try.ntmps30
    go_wp2
    go_ret
    exact ⟨by first | rfl | (simp; done) | (simp [*]; done), by repeat (first | exact Drawn0.refl _ | apply Drawn0.step)⟩
  · rw [if_neg c3] at H
    have c3b0 : decide (a1 < a0) = false := decide_eq_false c3
    clear c3
    obtain rfl := Option.some.inj H
    go_enter Try.func30, Try.ntmps30
    go_wp2
    go_ret
    exact ⟨by first | rfl | (simp; done) | (simp [*]; done), by repeat (first | exact Drawn0.refl _ | apply Drawn0.step)⟩

/-! ### mathutil_ClampInt64: function 15 -/
def mathutil_ClampInt64.f (a0 : Int) (a1 : Int) (a2 : Int) : Option (Int) := (mathutil_MaxInt64.f a0 a1).bind fun t109 => ((mathutil_MinInt64.f t109 a2).bind fun t110 => (some t110))
set_option maxHeartbeats 8000000 in
set_option maxRecDepth 100000 in
theorem mathutil_ClampInt64.calls (a0 : Int) (a1 : Int) (a2 : Int) (r : Int) (w : World) (h : mathutil_ClampInt64.f a0 a1 a2 = some r) :
    Calls Try.prog 15 #[.int .i64 a0, .int .i64 a1, .int .i64 a2] w fun e w' => e = .returned (.int .i64 r) ∧ Drawn0 w w' := by
  have H : ((mathutil_MaxInt64.f a0 a1).bind fun t109 => ((mathutil_MinInt64.f t109 a2).bind fun t110 => (some t110))) = some r := h
  clear h
  replace H := Option.bind_eq_some_iff.mp H
  obtain ⟨t109, A40, H⟩ := H
  replace H : ((mathutil_MinInt64.f t109 a2).bind fun t110 => (some t110)) = some r := H
  have A4 := Aside0.mk A40
  clear A40
  replace H := Option.bind_eq_some_iff.mp H
  obtain ⟨t110, A50, H⟩ := H
  replace H : (some t110) = some r := H
  have A5 := Aside0.mk A50
  clear A50
  obtain rfl := Option.some.inj H
  go_enter Try.func15, Try.ntmps15
  go_wp2_with (first | ((with_reducible refine gate_callee (f := 30) rfl ?_); refine goesL_ (some 9) rfl rfl Try.func30 (by kernel_rfl) rfl #[.int .i64 a0, .int .i64 a1] rfl (by (try simp only [List.map_toArray, List.map_cons, List.map_nil]); first | done | rfl | (simp only [List.length_drop, List.length_take]; rfl)) ?_; (with_reducible refine (mathutil_MaxInt64.calls a0 a1 t109 _ A4.out).mono ?_); rintro e w' ⟨rfl, ⟨nd, rfl⟩⟩; refine ⟨_, rfl, ?_⟩) | ((with_reducible refine gate_callee (f := 29) rfl ?_); refine goesL_ (some 11) rfl rfl Try.func29 (by kernel_rfl) rfl #[.int .i64 t109, .int .i64 a2] rfl (by (try simp only [List.map_toArray, List.map_cons, List.map_nil]); first | done | rfl | (simp only [List.length_drop, List.length_take]; rfl)) ?_; (with_reducible refine (mathutil_MinInt64.calls t109 a2 t110 _ A5.out).mono ?_); rintro e w' ⟨rfl, ⟨nd, rfl⟩⟩; refine ⟨_, rfl, ?_⟩))
  go_ret
  exact ⟨by first | rfl | (simp; done) | (simp [*]; done), by repeat (first | exact Drawn0.refl _ | apply Drawn0.step)⟩

/-! ### impl_Clamp: function 5 -/
def impl_Clamp.f (a0 : Int) (a1 : Int) (a2 : Int) (a3 : Int) : Option (Int) := if a0 = 1 then ((mathutil_Clamp.f a1 a2 a3).bind fun t111 => (some t111)) else (if a0 = 8 then ((mathutil_ClampInt8.f (IntKind.i8.wrap (a1)) (IntKind.i8.wrap (a2)) (IntKind.i8.wrap (a3))).bind fun t112 => (some (wrap64 (t112)))) else (if a0 = 16 then ((mathutil_ClampInt16.f (IntKind.i16.wrap (a1)) (IntKind.i16.wrap (a2)) (IntKind.i16.wrap (a3))).bind fun t113 => (some (wrap64 (t113)))) else (if a0 = 32 then ((mathutil_ClampInt32.f (wrap32 (a1)) (wrap32 (a2)) (wrap32 (a3))).bind fun t114 => (some (wrap64 (t114)))) else ((mathutil_ClampInt64.f a1 a2 a3).bind fun t115 => (some t115)))))
set_option maxHeartbeats 8000000 in
set_option maxRecDepth 100000 in
theorem impl_Clamp.calls (a0 : Int) (a1 : Int) (a2 : Int) (a3 : Int) (r : Int) (w : World) (h : impl_Clamp.f a0 a1 a2 a3 = some r) :
    Calls Try.prog 5 #[.int .i64 a0, .int .i64 a1, .int .i64 a2, .int .i64 a3] w fun e w' => e = .returned (.int .i64 r) ∧ Drawn0 w w' := by
  have H : (if a0 = 1 then ((mathutil_Clamp.f a1 a2 a3).bind fun t111 => (some t111)) else (if a0 = 8 then ((mathutil_ClampInt8.f (IntKind.i8.wrap (a1)) (IntKind.i8.wrap (a2)) (IntKind.i8.wrap (a3))).bind fun t112 => (some (wrap64 (t112)))) else (if a0 = 16 then ((mathutil_ClampInt16.f (IntKind.i16.wrap (a1)) (IntKind.i16.wrap (a2)) (IntKind.i16.wrap (a3))).bind fun t113 => (some (wrap64 (t113)))) else (if a0 = 32 then ((mathutil_ClampInt32.f (wrap32 (a1)) (wrap32 (a2)) (wrap32 (a3))).bind fun t114 => (some (wrap64 (t114)))) else ((mathutil_ClampInt64.f a1 a2 a3).bind fun t115 => (some t115)))))) = some r := h
  clear h
  by_cases c5 : a0 = 1
  · rw [if_pos c5] at H
    have c5b0 : (a0 == 1) = true := beq_iff_eq.mpr c5
    have c5b1 : (a0 != 1) = false := bne_eq_false_iff_eq.mpr c5
    clear c5
    replace H := Option.bind_eq_some_iff.mp H
    obtain ⟨t111, A60, H⟩ := H
    replace H : (some t111) = some r := H
    have A6 := Aside0.mk A60
    clear A60
    obtain rfl := Option.some.inj H
    go_enter Try.func5, Try.ntmps5
    go_wp2_with (first | ((with_reducible refine gate_callee (f := 11) rfl ?_); refine goesL_ (some 15) rfl rfl Try.func11 (by kernel_rfl) rfl #[.int .i64 a1, .int .i64 a2, .int .i64 a3] rfl (by (try simp only [List.map_toArray, List.map_cons, List.map_nil]); first | done | rfl | (simp only [List.length_drop, List.length_take]; rfl)) ?_; (with_reducible refine (mathutil_Clamp.calls a1 a2 a3 t111 _ A6.out).mono ?_); rintro e w' ⟨rfl, ⟨nd, rfl⟩⟩; refine ⟨_, rfl, ?_⟩))
    go_ret
    exact ⟨by first | rfl | (simp; done) | (simp [*]; done), by repeat (first | exact Drawn0.refl _ | apply Drawn0.step)⟩
  · rw [if_neg c5] at H
    have c5b0 : (a0 == 1) = false := beq_eq_false_iff_ne.mpr c5
    have c5b1 : (a0 != 1) = true := bne_iff_ne.mpr c5
    by_cases c7 : a0 = 8
    · rw [if_pos c7] at H
      have c7b0 : (a0 == 8) = true := beq_iff_eq.mpr c7
      have c7b1 : (a0 != 8) = false := bne_eq_false_iff_eq.mpr c7
      clear c7
      replace H := Option.bind_eq_some_iff.mp H
      obtain ⟨t112, A80, H⟩ := H
      replace H : (some (wrap64 (t112))) = some r := H
      have A8 := Aside0.mk A80
      clear A80
      obtain rfl := Option.some.inj H
      go_enter Try.func5, Try.ntmps5
      go_wp2_with (first | ((with_reducible refine gate_callee (f := 12) rfl ?_); refine goesL_ (some 24) rfl rfl Try.func12 (by kernel_rfl) rfl #[.int .i8 (IntKind.i8.wrap (a1)), .int .i8 (IntKind.i8.wrap (a2)), .int .i8 (IntKind.i8.wrap (a3))] rfl (by (try simp only [List.map_toArray, List.map_cons, List.map_nil]); first | done | rfl | (simp only [List.length_drop, List.length_take]; rfl)) ?_; (with_reducible refine (mathutil_ClampInt8.calls (IntKind.i8.wrap (a1)) (IntKind.i8.wrap (a2)) (IntKind.i8.wrap (a3)) t112 _ A8.out).mono ?_); rintro e w' ⟨rfl, ⟨nd, rfl⟩⟩; refine ⟨_, rfl, ?_⟩))
      go_ret
      exact ⟨by first | rfl | (simp; done) | (simp [*]; done), by repeat (first | exact Drawn0.refl _ | apply Drawn0.step)⟩
    · rw [if_neg c7] at H
      have c7b0 : (a0 == 8) = false := beq_eq_false_iff_ne.mpr c7
      have c7b1 : (a0 != 8) = true := bne_iff_ne.mpr c7
      by_cases c9 : a0 = 16
      · rw [if_pos c9] at H
        have c9b0 : (a0 == 16) = true := beq_iff_eq.mpr c9
        have c9b1 : (a0 != 16) = false := bne_eq_false_iff_eq.mpr c9
        clear c9
        replace H := Option.bind_eq_some_iff.mp H
        obtain ⟨t113, A100, H⟩ := H
        replace H : (some (wrap64 (t113))) = some r := H
        have A10 := Aside0.mk A100
        clear A100
        obtain rfl := Option.some.inj H
        go_enter Try.func5, Try.ntmps5
        go_wp2_with (first | ((with_reducible refine gate_callee (f := 13) rfl ?_); refine goesL_ (some 34) rfl rfl Try.func13 (by kernel_rfl) rfl #[.int .i16 (IntKind.i16.wrap (a1)), .int .i16 (IntKind.i16.wrap (a2)), .int .i16 (IntKind.i16.wrap (a3))] rfl (by (try simp only [List.map_toArray, List.map_cons, List.map_nil]); first | done | rfl | (simp only [List.length_drop, List.length_take]; rfl)) ?_; (with_reducible refine (mathutil_ClampInt16.calls (IntKind.i16.wrap (a1)) (IntKind.i16.wrap (a2)) (IntKind.i16.wrap (a3)) t113 _ A10.out).mono ?_); rintro e w' ⟨rfl, ⟨nd, rfl⟩⟩; refine ⟨_, rfl, ?_⟩))
        go_ret
        exact ⟨by first | rfl | (simp; done) | (simp [*]; done), by repeat (first | exact Drawn0.refl _ | apply Drawn0.step)⟩
      · rw [if_neg c9] at H
        have c9b0 : (a0 == 16) = false := beq_eq_false_iff_ne.mpr c9
        have c9b1 : (a0 != 16) = true := bne_iff_ne.mpr c9
        by_cases c11 : a0 = 32
        · rw [if_pos c11] at H
          have c11b0 : (a0 == 32) = true := beq_iff_eq.mpr c11
          have c11b1 : (a0 != 32) = false := bne_eq_false_iff_eq.mpr c11
          clear c11
          replace H := Option.bind_eq_some_iff.mp H
          obtain ⟨t114, A120, H⟩ := H
          replace H : (some (wrap64 (t114))) = some r := H
          have A12 := Aside0.mk A120
          clear A120
          obtain rfl := Option.some.inj H
          go_enter Try.func5, Try.ntmps5
          go_wp2_with (first | ((with_reducible refine gate_callee (f := 14) rfl ?_); refine goesL_ (some 44) rfl rfl Try.func14 (by kernel_rfl) rfl #[.int .i32 (wrap32 (a1)), .int .i32 (wrap32 (a2)), .int .i32 (wrap32 (a3))] rfl (by (try simp only [List.map_toArray, List.map_cons, List.map_nil]); first | done | rfl | (simp only [List.length_drop, List.length_take]; rfl)) ?_; (with_reducible refine (mathutil_ClampInt32.calls (wrap32 (a1)) (wrap32 (a2)) (wrap32 (a3)) t114 _ A12.out).mono ?_); rintro e w' ⟨rfl, ⟨nd, rfl⟩⟩; refine ⟨_, rfl, ?_⟩))
          go_ret
          exact ⟨by first | rfl | (simp; done) | (simp [*]; done), by repeat (first | exact Drawn0.refl _ | apply Drawn0.step)⟩
        · rw [if_neg c11] at H
          have c11b0 : (a0 == 32) = false := beq_eq_false_iff_ne.mpr c11
          have c11b1 : (a0 != 32) = true := bne_iff_ne.mpr c11
          replace H := Option.bind_eq_some_iff.mp H
          obtain ⟨t115, A130, H⟩ := H
          replace H : (some t115) = some r := H
          have A13 := Aside0.mk A130
          clear A130
          obtain rfl := Option.some.inj H
          go_enter Try.func5, Try.ntmps5
          go_wp2_with (first | ((with_reducible refine gate_callee (f := 15) rfl ?_); refine goesL_ (some 49) rfl rfl Try.func15 (by kernel_rfl) rfl #[.int .i64 a1, .int .i64 a2, .int .i64 a3] rfl (by (try simp only [List.map_toArray, List.map_cons, List.map_nil]); first | done | rfl | (simp only [List.length_drop, List.length_take]; rfl)) ?_; (with_reducible refine (mathutil_ClampInt64.calls a1 a2 a3 t115 _ A13.out).mono ?_); rintro e w' ⟨rfl, ⟨nd, rfl⟩⟩; refine ⟨_, rfl, ?_⟩))
          go_ret
          exact ⟨by first | rfl | (simp; done) | (simp [*]; done), by repeat (first | exact Drawn0.refl _ | apply Drawn0.step)⟩

/-! ### spec_IsWidth: function 6 -/
def spec_IsWidth.f (a0 : Int) : Option (Bool) := if a0 = 8 then (some true) else (if a0 = 16 then (some true) else (if a0 = 32 then (some true) else (some (a0 == 64))))
set_option maxHeartbeats 8000000 in
set_option maxRecDepth 100000 in
theorem spec_IsWidth.calls (a0 : Int) (r : Bool) (w : World) (h : spec_IsWidth.f a0 = some r) :
    Calls Try.prog 6 #[.int .i64 a0] w fun e w' => e = .returned (.bool r) ∧ Drawn0 w w' := by
  have H : (if a0 = 8 then (some true) else (if a0 = 16 then (some true) else (if a0 = 32 then (some true) else (some (a0 == 64))))) = some r := h
  clear h
  by_cases c2 : a0 = 8
  · rw [if_pos c2] at H
    have c2b0 : (a0 == 8) = true := beq_iff_eq.mpr c2
    have c2b1 : (a0 != 8) = false := bne_eq_false_iff_eq.mpr c2
    clear c2
    obtain rfl := Option.some.inj H
    go_enter Try.func6, Try.ntmps6
    go_wp2
    go_ret
    exact ⟨by first | rfl | (simp; done) | (simp [*]; done), by repeat (first | exact Drawn0.refl _ | apply Drawn0.step)⟩
  · rw [if_neg c2] at H
    have c2b0 : (a0 == 8) = false := beq_eq_false_iff_ne.mpr c2
    have c2b1 : (a0 != 8) = true := bne_iff_ne.mpr c2
    by_cases c3 : a0 = 16
    · rw [if_pos c3] at H
      have c3b0 : (a0 == 16) = true := beq_iff_eq.mpr c3
      have c3b1 : (a0 != 16) = false := bne_eq_false_iff_eq.mpr c3
      clear c3
      obtain rfl := Option.some.inj H
      go_enter Try.func6, Try.ntmps6
      go_wp2
      go_ret
      exact ⟨by first | rfl | (simp; done) | (simp [*]; done), by repeat (first | exact Drawn0.refl _ | apply Drawn0.step)⟩
    · rw [if_neg c3] at H
      have c3b0 : (a0 == 16) = false := beq_eq_false_iff_ne.mpr c3
      have c3b1 : (a0 != 16) = true := bne_iff_ne.mpr c3
      by_cases c4 : a0 = 32
      · rw [if_pos c4] at H
        have c4b0 : (a0 == 32) = true := beq_iff_eq.mpr c4
        have c4b1 : (a0 != 32) = false := bne_eq_false_iff_eq.mpr c4
        clear c4
        obtain rfl := Option.some.inj H
        go_enter Try.func6, Try.ntmps6
        go_wp2
        go_ret
        exact ⟨by first | rfl | (simp; done) | (simp [*]; done), by repeat (first | exact Drawn0.refl _ | apply Drawn0.step)⟩
      · rw [if_neg c4] at H
        have c4b0 : (a0 == 32) = false := beq_eq_false_iff_ne.mpr c4
        have c4b1 : (a0 != 32) = true := bne_iff_ne.mpr c4
        obtain rfl := Option.some.inj H
        go_enter Try.func6, Try.ntmps6
        go_wp2
        go_ret
        exact ⟨by first | rfl | (simp; done) | (simp [*]; done), by repeat (first | exact Drawn0.refl _ | apply Drawn0.step)⟩

/-! ### spec_Signed: function 7 -/
def spec_Signed.f (a0 : Int) (a1 : Int) : Option (Int) := if 0 ≤ (wrap64 (64 - a0)) then (some (shr .i64 (shl .i64 a1 (wrap64 (64 - a0))) (wrap64 (64 - a0)))) else (none)
set_option maxHeartbeats 8000000 in
set_option maxRecDepth 100000 in
theorem spec_Signed.calls (a0 : Int) (a1 : Int) (r : Int) (w : World) (h : spec_Signed.f a0 a1 = some r) :
    Calls Try.prog 7 #[.int .i64 a0, .int .i64 a1] w fun e w' => e = .returned (.int .i64 r) ∧ Drawn0 w w' := by
  have H : (if 0 ≤ (wrap64 (64 - a0)) then (some (shr .i64 (shl .i64 a1 (wrap64 (64 - a0))) (wrap64 (64 - a0)))) else (none)) = some r := h
  clear h
  obtain ⟨ji3, hji3⟩ : ∃ j_ : Int, (wrap64 (64 - a0)) = j_ := ⟨_, rfl⟩
  replace H : (if 0 ≤ (ji3) then (some (shr .i64 (shl .i64 a1 (ji3)) (ji3))) else (none)) = some r := by first | (rw [hji3] at H; exact H) | (simp only [hji3] at H ⊢; exact H)
  have hji3w : (IntKind.i64.wrap (64 - a0)) = ji3 := (i64_w _).trans hji3
  by_cases c4 : 0 ≤ (ji3)
  · rw [if_pos c4] at H
    have c4b0 := eq_true c4
    have c4b1 : decide (0 ≤ (ji3)) = true := decide_eq_true c4
    clear c4
    obtain ⟨ji5, hji5⟩ : ∃ j_ : Int, (shl .i64 a1 (ji3)) = j_ := ⟨_, rfl⟩
    replace H : (some (shr .i64 (ji5) (ji3))) = some r := by first | (rw [hji5] at H; exact H) | (simp only [hji5] at H ⊢; exact H)
    have hji5_ : (IntKind.i64.wrap (a1 * 2 ^ min (ji3).toNat 64)) = ji5 := hji5
    have hji5z : (ji3) ≤ 64 → (IntKind.i64.wrap (a1 * 2 ^ (ji3).toNat)) = ji5 := shl_small hji5
    have hji5y : (wrap64 (a1 * 2 ^ min (ji3).toNat 64)) = ji5 := (i64_w _).symm.trans hji5_
    have hji5x : (ji3) ≤ 64 → (wrap64 (a1 * 2 ^ (ji3).toNat)) = ji5 := fun h_ => (i64_w _).symm.trans (hji5z h_)
    have c6b0 := eq_true (of_decide_eq_true (by first | (with_reducible assumption) | assumption) : 0 ≤ (ji3))
    obtain ⟨ji7, hji7⟩ : ∃ j_ : Int, (shr .i64 (ji5) (ji3)) = j_ := ⟨_, rfl⟩
    replace H : (some ji7) = some r := by first | (rw [hji7] at H; exact H) | (simp only [hji7] at H ⊢; exact H)
    have hji7_ : ((ji5) / 2 ^ min (ji3).toNat 64) = ji7 := hji7
    have hji7z : (ji3) ≤ 64 → ((ji5) / 2 ^ (ji3).toNat) = ji7 := shr_small hji7
    obtain rfl := Option.some.inj H
    go_enter Try.func7, Try.ntmps7
    go_wp2
    go_ret
    exact ⟨by first | rfl | (simp; done) | (simp only [← hji3, ← hji5, ← hji7] <;> (first | rfl | simp)) | (simp [*]; done), by repeat (first | exact Drawn0.refl _ | apply Drawn0.step)⟩
  · rw [if_neg c4] at H
    exact absurd H (by simp)

/-! ### laws_clamped: function 8 -/
def laws_clamped.f (a0 : Int) (a1 : Int) (a2 : Int) : Option (Int) := some (mn (mx a0 a1) a2)
set_option maxHeartbeats 8000000 in
set_option maxRecDepth 100000 in
theorem laws_clamped.calls (a0 : Int) (a1 : Int) (a2 : Int) (r : Int) (w : World) (h : laws_clamped.f a0 a1 a2 = some r) :
    Calls Try.prog 8 #[.int .i64 a0, .int .i64 a1, .int .i64 a2] w fun e w' => e = .returned (.int .i64 r) ∧ Below w.heap.size w w' := by
  have HB := Aside0.mk (Below.refl w.heap.size w)
  have H : (some (mn (mx a0 a1) a2)) = some r := h
  clear h
  obtain ⟨ji4, hji4⟩ : ∃ j_ : Int, (mx a0 a1) = j_ := ⟨_, rfl⟩
  replace H : (some (mn (ji4) a2)) = some r := by first | (rw [hji4] at H; exact H) | (simp only [hji4] at H ⊢; exact H)
  have hji4_ : (if a0 < a1 then a1 else a0) = ji4 := hji4
  obtain ⟨ji5, hji5⟩ : ∃ j_ : Int, (mn (ji4) a2) = j_ := ⟨_, rfl⟩
  replace H : (some ji5) = some r := by first | (rw [hji5] at H; exact H) | (simp only [hji5] at H ⊢; exact H)
  have hji5_ : (if a2 < (ji4) then a2 else (ji4)) = ji5 := hji5
  obtain rfl := Option.some.inj H
  go_enter Try.func8, Try.ntmps8
  go_wp2
  go_ret
  exact ⟨by first | rfl | (simp [errW_none, errW_some] <;> rfl) | (simp only [← hji4, ← hji5]; first | rfl | (simp [errW_none, errW_some] <;> rfl)) | (simp [*, errW_none, errW_some] <;> rfl), by repeat (first | (with_reducible first | exact HB.out | apply below_alloc | apply pw_below_drewN | apply below_drew1) | exact HB.out)⟩

/-! ### laws_FnClamp: function 3 -/
def laws_FnClamp.j0 : Nat → Int → Int → Int → Int → Bool → Int → Option (Bool)
  | 0, _, _, _, _, _, _ => none
  | k + 1, x0, x1, x2, x3, x9, x10 => (spec_IsWidth.f x10).bind fun t117 => (if t117 = true then ((spec_Signed.f x10 x1).bind fun t118 => ((spec_Signed.f x10 x2).bind fun t119 => ((spec_Signed.f x10 x3).bind fun t120 => (if x9 = true then (if t119 > t120 then (some true) else ((impl_Clamp.f x0 t118 t119 t120).bind fun t121 => ((laws_clamped.f t118 t119 t120).bind fun t122 => (some (t121 == t122))))) else (some false))))) else (some x9))
def laws_FnClamp.f (k : Nat) (a0 : Int) (a1 : Int) (a2 : Int) (a3 : Int) : Option (Bool) := (impl_Clamp.f 8 5 1 3).bind fun t116 => (if a0 = 1 then (laws_FnClamp.j0 k a0 a1 a2 a3 (t116 == 3) 64) else (laws_FnClamp.j0 k a0 a1 a2 a3 (t116 == 3) a0))
theorem laws_FnClamp.mono_l : ∀ k, (∀ y0 y1 y2 y3 y4 y5, LeO (laws_FnClamp.j0 k y0 y1 y2 y3 y4 y5) (laws_FnClamp.j0 (k + 1) y0 y1 y2 y3 y4 y5))
  | 0 => fun _ _ _ _ _ _ r h => by simp [laws_FnClamp.j0] at h
  | k + 1 => by
    have ih0 := laws_FnClamp.mono_l k
    · intro y0 y1 y2 y3 y4 y5
      unfold laws_FnClamp.j0
      repeat' first
      | (with_reducible exact ih0 _ _ _ _ _ _)
      | (with_reducible exact LeO.refl _)
      | (with_reducible exact LeO.none _)
      | (with_reducible refine LeO.ite ?_ ?_)
      | (with_reducible refine LeO.bind ?_ (fun _ => ?_))
      | exact ih0 _ _ _ _ _ _
      | exact LeO.none _
      | refine LeO.ite ?_ ?_
      | refine LeO.bind ?_ (fun _ => ?_)
theorem laws_FnClamp.mono : ∀ a0 a1 a2 a3 k, LeO (laws_FnClamp.f k a0 a1 a2 a3) (laws_FnClamp.f (k + 1) a0 a1 a2 a3) := by
  intro a0 a1 a2 a3 k
  have ih0 := laws_FnClamp.mono_l k
  unfold laws_FnClamp.f
  repeat' first
      | (with_reducible exact ih0 _ _ _ _ _ _)
      | (with_reducible exact LeO.refl _)
      | (with_reducible exact LeO.none _)
      | (with_reducible refine LeO.ite ?_ ?_)
      | (with_reducible refine LeO.bind ?_ (fun _ => ?_))
      | exact ih0 _ _ _ _ _ _
      | exact LeO.none _
      | refine LeO.ite ?_ ?_
      | refine LeO.bind ?_ (fun _ => ?_)
set_option maxHeartbeats 8000000 in
set_option maxRecDepth 100000 in
theorem laws_FnClamp.calls (k : Nat) (a0 : Int) (a1 : Int) (a2 : Int) (a3 : Int) (r : Bool) (w : World) (h : laws_FnClamp.f k a0 a1 a2 a3 = some r) :
    Calls Try.prog 3 #[.int .i64 a0, .int .i64 a1, .int .i64 a2, .int .i64 a3] w fun e w' => e = .returned (.bool r) ∧ Below w.heap.size w w' := by
  have HB := Aside0.mk (Below.refl w.heap.size w)
  have H : ((impl_Clamp.f 8 5 1 3).bind fun t116 => (if a0 = 1 then (laws_FnClamp.j0 k a0 a1 a2 a3 (t116 == 3) 64) else (laws_FnClamp.j0 k a0 a1 a2 a3 (t116 == 3) a0))) = some r := h
  clear h
  replace H := Option.bind_eq_some_iff.mp H
  obtain ⟨t116, A50, H⟩ := H
  replace H : (if a0 = 1 then (laws_FnClamp.j0 k a0 a1 a2 a3 (t116 == 3) 64) else (laws_FnClamp.j0 k a0 a1 a2 a3 (t116 == 3) a0)) = some r := H
  have A5 := Aside0.mk A50
  clear A50
  have HC6 := Aside0.mk H
  clear H
  go_enter Try.func3, Try.ntmps3
  go_upto_if 15 with (first | ((with_reducible refine gate_callee (f := 5) rfl ?_); refine goesL_ (some 11) rfl rfl Try.func5 (by kernel_rfl) rfl #[.int .i64 8, .int .i64 5, .int .i64 1, .int .i64 3] rfl (by (try simp only [List.map_toArray, List.map_cons, List.map_nil]); first | done | rfl | (simp only [List.length_drop, List.length_take]; rfl)) ?_; (with_reducible refine (impl_Clamp.calls 8 5 1 3 t116 _ A5.out).mono ?_); rintro e w' ⟨rfl, ⟨nd, rfl⟩⟩; refine ⟨_, rfl, ?_⟩))
  (try simp only [Act.put, List.setIfInBounds_toArray, List.set_cons_zero, List.set_cons_succ])
  go_cut [10] (fun v10 wc => ∃ (kq : Nat) (x10_5 : Int), v10 = .int .i64 x10_5 ∧ Aside0 (laws_FnClamp.j0 kq a0 a1 a2 a3 (t116 == 3) x10_5 = some r) ∧ Aside0 (kq ≤ k) ∧ Aside0 (Below w.heap.size w wc))
  case first =>
    have H := HC6.out
    clear HC6
    by_cases c7 : a0 = 1
    · rw [if_pos c7] at H
      have c7b0 : (a0 == 1) = true := beq_iff_eq.mpr c7
      have c7b1 : (a0 != 1) = false := bne_eq_false_iff_eq.mpr c7
      clear c7
      (first | rw [c7b0] | (simp only [i64_w, i32_w]; rw [c7b0]) | skip)
      have H' := Aside0.mk H
      clear H
      go_wp2
      go_meet
      case rel => exact ⟨_, (64), (by first | rfl | (simp; done) | (simp [*]; done)), H', ⟨by first | omega | exact Nat.le_refl _⟩, ⟨by repeat (first | (with_reducible first | exact HB.out | apply below_alloc | apply pw_below_drewN | apply below_drew1) | exact HB.out)⟩⟩
    · rw [if_neg c7] at H
      have c7b0 : (a0 == 1) = false := beq_eq_false_iff_ne.mpr c7
      have c7b1 : (a0 != 1) = true := bne_iff_ne.mpr c7
      (first | rw [c7b0] | (simp only [i64_w, i32_w]; rw [c7b0]) | skip)
      have H' := Aside0.mk H
      clear H
      go_wp2
      go_meet
      case rel => exact ⟨_, (a0), (by first | rfl | (simp; done) | (simp [*]; done)), H', ⟨by first | omega | exact Nat.le_refl _⟩, ⟨by repeat (first | (with_reducible first | exact HB.out | apply below_alloc | apply pw_below_drewN | apply below_drew1) | exact HB.out)⟩⟩
  case rest =>
    clear HC6
    try clear p2
    try clear c3
    try clear c5
    try clear c7
    try clear c7b0
    try clear c7b1
    obtain ⟨kq, x10_5, rfl, HA, HJ5, HB⟩ := hcut
    cases kq with
    | zero => exact absurd HA.out (by simp [laws_FnClamp.j0])
    | succ kj5 =>
      have H := HA.out
      clear HA
      simp only [laws_FnClamp.j0] at H
      replace H := Option.bind_eq_some_iff.mp H
      obtain ⟨t117, A80, H⟩ := H
      replace H : (if t117 = true then ((spec_Signed.f x10_5 a1).bind fun t118 => ((spec_Signed.f x10_5 a2).bind fun t119 => ((spec_Signed.f x10_5 a3).bind fun t120 => (if (t116 == 3) = true then (if t119 > t120 then (some true) else ((impl_Clamp.f a0 t118 t119 t120).bind fun t121 => ((laws_clamped.f t118 t119 t120).bind fun t122 => (some (t121 == t122))))) else (some false))))) else (some (t116 == 3))) = some r := H
      have A8 := Aside0.mk A80
      clear A80
      by_cases c9 : t117 = true
      · subst c9
        have H1 : ((spec_Signed.f x10_5 a1).bind fun t118 => ((spec_Signed.f x10_5 a2).bind fun t119 => ((spec_Signed.f x10_5 a3).bind fun t120 => (if (t116 == 3) = true then (if t119 > t120 then (some true) else ((impl_Clamp.f a0 t118 t119 t120).bind fun t121 => ((laws_clamped.f t118 t119 t120).bind fun t122 => (some (t121 == t122))))) else (some false))))) = some r := by rw [if_pos rfl] at H; exact H
        clear H
        have H := H1
        clear H1
        replace H := Option.bind_eq_some_iff.mp H
        obtain ⟨t118, A100, H⟩ := H
        replace H : ((spec_Signed.f x10_5 a2).bind fun t119 => ((spec_Signed.f x10_5 a3).bind fun t120 => (if (t116 == 3) = true then (if t119 > t120 then (some true) else ((impl_Clamp.f a0 t118 t119 t120).bind fun t121 => ((laws_clamped.f t118 t119 t120).bind fun t122 => (some (t121 == t122))))) else (some false)))) = some r := H
        have A10 := Aside0.mk A100
        clear A100
        replace H := Option.bind_eq_some_iff.mp H
        obtain ⟨t119, A110, H⟩ := H
        replace H : ((spec_Signed.f x10_5 a3).bind fun t120 => (if (t116 == 3) = true then (if t119 > t120 then (some true) else ((impl_Clamp.f a0 t118 t119 t120).bind fun t121 => ((laws_clamped.f t118 t119 t120).bind fun t122 => (some (t121 == t122))))) else (some false))) = some r := H
        have A11 := Aside0.mk A110
        clear A110
        replace H := Option.bind_eq_some_iff.mp H
        obtain ⟨t120, A120, H⟩ := H
        replace H : (if (t116 == 3) = true then (if t119 > t120 then (some true) else ((impl_Clamp.f a0 t118 t119 t120).bind fun t121 => ((laws_clamped.f t118 t119 t120).bind fun t122 => (some (t121 == t122))))) else (some false)) = some r := H
        have A12 := Aside0.mk A120
        clear A120
        by_cases c13 : (t116 == 3) = true
        · rw [if_pos c13] at H
          have c13b0 : (t116 == 3) = true := c13
          (try (have c13b1 : decide (t116 = 3) = true := by simpa using c13))
          (try (have c13b2 : (t116 == 3) = true := by simpa using c13))
          clear c13
          by_cases c14 : t119 > t120
          · rw [if_pos c14] at H
            have c14b0 : decide (t120 < t119) = true := decide_eq_true c14
            clear c14
            obtain rfl := Option.some.inj H
            go_wp2_with (first | ((with_reducible refine gate_callee (f := 6) rfl ?_); refine goesL_ (some 17) rfl rfl Try.func6 (by kernel_rfl) rfl #[.int .i64 x10_5] rfl (by (try simp only [List.map_toArray, List.map_cons, List.map_nil]); first | done | rfl | (simp only [List.length_drop, List.length_take]; rfl)) ?_; (with_reducible refine (spec_IsWidth.calls x10_5 true _ A8.out).mono ?_); rintro e w' ⟨rfl, ⟨nd, rfl⟩⟩; refine ⟨_, rfl, ?_⟩) | ((with_reducible refine gate_callee (f := 7) rfl ?_); refine goesL_ (some 22) rfl rfl Try.func7 (by kernel_rfl) rfl #[.int .i64 x10_5, .int .i64 a1] rfl (by (try simp only [List.map_toArray, List.map_cons, List.map_nil]); first | done | rfl | (simp only [List.length_drop, List.length_take]; rfl)) ?_; (with_reducible refine (spec_Signed.calls x10_5 a1 t118 _ A10.out).mono ?_); rintro e w' ⟨rfl, ⟨nd, rfl⟩⟩; refine ⟨_, rfl, ?_⟩) | ((with_reducible refine gate_callee (f := 7) rfl ?_); refine goesL_ (some 25) rfl rfl Try.func7 (by kernel_rfl) rfl #[.int .i64 x10_5, .int .i64 a2] rfl (by (try simp only [List.map_toArray, List.map_cons, List.map_nil]); first | done | rfl | (simp only [List.length_drop, List.length_take]; rfl)) ?_; (with_reducible refine (spec_Signed.calls x10_5 a2 t119 _ A11.out).mono ?_); rintro e w' ⟨rfl, ⟨nd, rfl⟩⟩; refine ⟨_, rfl, ?_⟩) | ((with_reducible refine gate_callee (f := 7) rfl ?_); refine goesL_ (some 28) rfl rfl Try.func7 (by kernel_rfl) rfl #[.int .i64 x10_5, .int .i64 a3] rfl (by (try simp only [List.map_toArray, List.map_cons, List.map_nil]); first | done | rfl | (simp only [List.length_drop, List.length_take]; rfl)) ?_; (with_reducible refine (spec_Signed.calls x10_5 a3 t120 _ A12.out).mono ?_); rintro e w' ⟨rfl, ⟨nd, rfl⟩⟩; refine ⟨_, rfl, ?_⟩))
            go_ret
            exact ⟨by first | rfl | (simp [errW_none, errW_some] <;> rfl) | (simp [*, errW_none, errW_some] <;> rfl), by repeat (first | (with_reducible first | exact HB.out | apply below_alloc | apply pw_below_drewN | apply below_drew1) | exact HB.out)⟩
          · rw [if_neg c14] at H
            have c14b0 : decide (t120 < t119) = false := decide_eq_false c14
            clear c14
            replace H := Option.bind_eq_some_iff.mp H
            obtain ⟨t121, A150, H⟩ := H
            replace H : ((laws_clamped.f t118 t119 t120).bind fun t122 => (some (t121 == t122))) = some r := H
            have A15 := Aside0.mk A150
            clear A150
            replace H := Option.bind_eq_some_iff.mp H
            obtain ⟨t122, A160, H⟩ := H
            replace H : (some (t121 == t122)) = some r := H
            have A16 := Aside0.mk A160
            clear A160
            obtain rfl := Option.some.inj H
            go_wp2_with (first | ((with_reducible refine gate_callee (f := 6) rfl ?_); refine goesL_ (some 17) rfl rfl Try.func6 (by kernel_rfl) rfl #[.int .i64 x10_5] rfl (by (try simp only [List.map_toArray, List.map_cons, List.map_nil]); first | done | rfl | (simp only [List.length_drop, List.length_take]; rfl)) ?_; (with_reducible refine (spec_IsWidth.calls x10_5 true _ A8.out).mono ?_); rintro e w' ⟨rfl, ⟨nd, rfl⟩⟩; refine ⟨_, rfl, ?_⟩) | ((with_reducible refine gate_callee (f := 7) rfl ?_); refine goesL_ (some 22) rfl rfl Try.func7 (by kernel_rfl) rfl #[.int .i64 x10_5, .int .i64 a1] rfl (by (try simp only [List.map_toArray, List.map_cons, List.map_nil]); first | done | rfl | (simp only [List.length_drop, List.length_take]; rfl)) ?_; (with_reducible refine (spec_Signed.calls x10_5 a1 t118 _ A10.out).mono ?_); rintro e w' ⟨rfl, ⟨nd, rfl⟩⟩; refine ⟨_, rfl, ?_⟩) | ((with_reducible refine gate_callee (f := 7) rfl ?_); refine goesL_ (some 25) rfl rfl Try.func7 (by kernel_rfl) rfl #[.int .i64 x10_5, .int .i64 a2] rfl (by (try simp only [List.map_toArray, List.map_cons, List.map_nil]); first | done | rfl | (simp only [List.length_drop, List.length_take]; rfl)) ?_; (with_reducible refine (spec_Signed.calls x10_5 a2 t119 _ A11.out).mono ?_); rintro e w' ⟨rfl, ⟨nd, rfl⟩⟩; refine ⟨_, rfl, ?_⟩) | ((with_reducible refine gate_callee (f := 7) rfl ?_); refine goesL_ (some 28) rfl rfl Try.func7 (by kernel_rfl) rfl #[.int .i64 x10_5, .int .i64 a3] rfl (by (try simp only [List.map_toArray, List.map_cons, List.map_nil]); first | done | rfl | (simp only [List.length_drop, List.length_take]; rfl)) ?_; (with_reducible refine (spec_Signed.calls x10_5 a3 t120 _ A12.out).mono ?_); rintro e w' ⟨rfl, ⟨nd, rfl⟩⟩; refine ⟨_, rfl, ?_⟩) | (go_at_call 5; (with_reducible refine (impl_Clamp.calls a0 t118 t119 t120 t121 _ A15.out).mono ?_); rintro e w' ⟨rfl, ⟨nd, rfl⟩⟩) | (go_at_call 8; (with_reducible refine (laws_clamped.calls t118 t119 t120 t122 _ A16.out).mono ?_); rintro e w17 ⟨rfl, hb⟩; have n0_ := Aside0.mk (below_step (by repeat (first | (with_reducible first | exact HB.out | apply below_alloc | apply pw_below_drewN | apply below_drew1) | exact HB.out)) hb); clear HB; have HB := n0_; clear n0_; (try clear hb); (try clear hb2); (try clear hk); (try clear hi)))
            go_ret
            exact ⟨by first | rfl | (simp [errW_none, errW_some] <;> rfl) | (simp [*, errW_none, errW_some] <;> rfl), by repeat (first | (with_reducible first | exact HB.out | apply below_alloc | apply pw_below_drewN | apply below_drew1) | exact HB.out)⟩
        · rw [if_neg c13] at H
          have c13b0 : (t116 == 3) = false := by simpa using c13
          (try (have c13b1 : decide (t116 = 3) = false := by simpa using c13))
          (try (have c13b2 : (t116 == 3) = false := by simpa using c13))
          (try (have c13b3 : ¬ (t116 = 3) := by simpa using c13))
          clear c13
          obtain rfl := Option.some.inj H
          go_wp2_with (first | ((with_reducible refine gate_callee (f := 6) rfl ?_); refine goesL_ (some 17) rfl rfl Try.func6 (by kernel_rfl) rfl #[.int .i64 x10_5] rfl (by (try simp only [List.map_toArray, List.map_cons, List.map_nil]); first | done | rfl | (simp only [List.length_drop, List.length_take]; rfl)) ?_; (with_reducible refine (spec_IsWidth.calls x10_5 true _ A8.out).mono ?_); rintro e w' ⟨rfl, ⟨nd, rfl⟩⟩; refine ⟨_, rfl, ?_⟩) | ((with_reducible refine gate_callee (f := 7) rfl ?_); refine goesL_ (some 22) rfl rfl Try.func7 (by kernel_rfl) rfl #[.int .i64 x10_5, .int .i64 a1] rfl (by (try simp only [List.map_toArray, List.map_cons, List.map_nil]); first | done | rfl | (simp only [List.length_drop, List.length_take]; rfl)) ?_; (with_reducible refine (spec_Signed.calls x10_5 a1 t118 _ A10.out).mono ?_); rintro e w' ⟨rfl, ⟨nd, rfl⟩⟩; refine ⟨_, rfl, ?_⟩) | ((with_reducible refine gate_callee (f := 7) rfl ?_); refine goesL_ (some 25) rfl rfl Try.func7 (by kernel_rfl) rfl #[.int .i64 x10_5, .int .i64 a2] rfl (by (try simp only [List.map_toArray, List.map_cons, List.map_nil]); first | done | rfl | (simp only [List.length_drop, List.length_take]; rfl)) ?_; (with_reducible refine (spec_Signed.calls x10_5 a2 t119 _ A11.out).mono ?_); rintro e w' ⟨rfl, ⟨nd, rfl⟩⟩; refine ⟨_, rfl, ?_⟩) | ((with_reducible refine gate_callee (f := 7) rfl ?_); refine goesL_ (some 28) rfl rfl Try.func7 (by kernel_rfl) rfl #[.int .i64 x10_5, .int .i64 a3] rfl (by (try simp only [List.map_toArray, List.map_cons, List.map_nil]); first | done | rfl | (simp only [List.length_drop, List.length_take]; rfl)) ?_; (with_reducible refine (spec_Signed.calls x10_5 a3 t120 _ A12.out).mono ?_); rintro e w' ⟨rfl, ⟨nd, rfl⟩⟩; refine ⟨_, rfl, ?_⟩))
          go_ret
          exact ⟨by first | rfl | (simp [errW_none, errW_some] <;> rfl) | (simp [*, errW_none, errW_some] <;> rfl), by repeat (first | (with_reducible first | exact HB.out | apply below_alloc | apply pw_below_drewN | apply below_drew1) | exact HB.out)⟩
      · replace c9 := Bool.eq_false_iff.mpr c9
        subst c9
        have H1 : (some (t116 == 3)) = some r := by rw [if_neg (show ¬ (false = true) by decide)] at H; exact H
        clear H
        have H := H1
        clear H1
        obtain rfl := Option.some.inj H
        go_wp2_with (first | ((with_reducible refine gate_callee (f := 6) rfl ?_); refine goesL_ (some 17) rfl rfl Try.func6 (by kernel_rfl) rfl #[.int .i64 x10_5] rfl (by (try simp only [List.map_toArray, List.map_cons, List.map_nil]); first | done | rfl | (simp only [List.length_drop, List.length_take]; rfl)) ?_; (with_reducible refine (spec_IsWidth.calls x10_5 false _ A8.out).mono ?_); rintro e w' ⟨rfl, ⟨nd, rfl⟩⟩; refine ⟨_, rfl, ?_⟩))
        go_ret
        exact ⟨by first | rfl | (simp [errW_none, errW_some] <;> rfl) | (simp [*, errW_none, errW_some] <;> rfl), by repeat (first | (with_reducible first | exact HB.out | apply below_alloc | apply pw_below_drewN | apply below_drew1) | exact HB.out)⟩

/-- THE ONE PURE STATEMENT of laws_FnClamp: yours. -/
def laws_FnClamp.Pure : Prop := ∀ (a0 : Int) (a1 : Int) (a2 : Int) (a3 : Int), (Lit.int .i64 a0).wf = true → (Lit.int .i64 a1).wf = true → (Lit.int .i64 a2).wf = true → (Lit.int .i64 a3).wf = true → ∃ k, laws_FnClamp.f k a0 a1 a2 a3 = some true
theorem laws_FnClamp.walk (P : laws_FnClamp.Pure) (a0 : Int) (a1 : Int) (a2 : Int) (a3 : Int) (w : World) (w0 : (Lit.int .i64 a0).wf = true) (w1 : (Lit.int .i64 a1).wf = true) (w2 : (Lit.int .i64 a2).wf = true) (w3 : (Lit.int .i64 a3).wf = true) :
    Calls Try.prog 3 #[.int .i64 a0, .int .i64 a1, .int .i64 a2, .int .i64 a3] w fun e w' => e = .returned (.bool true) ∧ Below w.heap.size w w' := by
  obtain ⟨k, h⟩ := P a0 a1 a2 a3 w0 w1 w2 w3
  refine (laws_FnClamp.calls k a0 a1 a2 a3 true w h).mono ?_
  rintro e w' ⟨rfl, hd⟩
  exact ⟨rfl, hd⟩

end Go.Proofs.Ytfoifemajoebpaa.PFnClamp
