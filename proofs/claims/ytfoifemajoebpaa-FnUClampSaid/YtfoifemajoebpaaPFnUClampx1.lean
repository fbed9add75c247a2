-- PRINTED BY print.sh 35421559b90ae4d0a3588c463048766b98c2df88dd9212a6774a882060cdf62d: not written by this session
import Derived.Test.YtfoifemajoebpaaPFnUClampx0
namespace Go.Proofs.Ytfoifemajoebpaa.PFnUClamp
open Go.RowKit Go.Proofs.YtfoifemajoebpaaW.PrintWords Go.Proofs.YtfoifemajoebpaaW.PrintLast Go.Proofs.YtfoifemajoebpaaW.PrintMore
attribute [local go_sem] max2_int min2_int max_two min_two max_three min_three max_four min_four   -- for this text's walks alone
set_option linter.unusedVariables false
set_option linter.unusedSimpArgs false

/-! ### spec_IsWidth: function 6 -/
def spec_IsWidth.f (a0 : Int) : Option (Bool) := if a0 = 8 then (some true) else (if a0 = 16 then (some true) else (if a0 = 32 then (some true) else (some (a0 == 64))))
set_option maxHeartbeats 8000000 in
set_option maxRecDepth 100000 in
theorem spec_IsWidth.calls (a0 : Int) (r : Bool) (w : World) (h : spec_IsWidth.f a0 = some r) :
    Calls Try.prog 6 #[.int .i64 a0] w fun e w' => e = .returned (.bool r) ∧ Drawn0 w w' := by
  have H : (if a0 = 8 then (some true) else (if a0 = 16 then (some true) else (if a0 = 32 then (some true) else (some (a0 == 64))))) = some r := h
  clear h
  by_cases c2 : a0 = 8
  · rw [if_pos c2] at H
    have c2b0 : (a0 == 8) = true := beq_iff_eq.mpr c2
    have c2b1 : (a0 != 8) = false := bne_eq_false_iff_eq.mpr c2
    clear c2
    obtain rfl := Option.some.inj H
    go_enter Try.func6, Try.ntmps6
    go_wp2
    go_ret
    exact ⟨by first | rfl | (simp; done) | (simp [*]; done), by repeat (first | exact Drawn0.refl _ | apply Drawn0.step)⟩
  · rw [if_neg c2] at H
    have c2b0 : (a0 == 8) = false := beq_eq_false_iff_ne.mpr c2
    have c2b1 : (a0 != 8) = true := bne_iff_ne.mpr c2
    by_cases c3 : a0 = 16
    · rw [if_pos c3] at H
      have c3b0 : (a0 == 16) = true := beq_iff_eq.mpr c3
      have c3b1 : (a0 != 16) = false := bne_eq_false_iff_eq.mpr c3
      clear c3
      obtain rfl := Option.some.inj H
      go_enter Try.func6, Try.ntmps6
      go_wp2
      go_ret
      exact ⟨by first | rfl | (simp; done) | (simp [*]; done), by repeat (first | exact Drawn0.refl _ | apply Drawn0.step)⟩
    · rw [if_neg c3] at H
      have c3b0 : (a0 == 16) = false := beq_eq_false_iff_ne.mpr c3
      have c3b1 : (a0 != 16) = true := bne_iff_ne.mpr c3
      by_cases c4 : a0 = 32
      · rw [if_pos c4] at H
        have c4b0 : (a0 == 32) = true := beq_iff_eq.mpr c4
        have c4b1 : (a0 != 32) = false := bne_eq_false_iff_eq.mpr c4
        clear c4
        obtain rfl := Option.some.inj H
        go_enter Try.func6, Try.ntmps6
        go_wp2
        go_ret
        exact ⟨by first | rfl | (simp; done) | (simp [*]; done), by repeat (first | exact Drawn0.refl _ | apply Drawn0.step)⟩
      · rw [if_neg c4] at H
        have c4b0 : (a0 == 32) = false := beq_eq_false_iff_ne.mpr c4
        have c4b1 : (a0 != 32) = true := bne_iff_ne.mpr c4
        obtain rfl := Option.some.inj H
        go_enter Try.func6, Try.ntmps6
        go_wp2
        go_ret
        exact ⟨by first | rfl | (simp; done) | (simp [*]; done), by repeat (first | exact Drawn0.refl _ | apply Drawn0.step)⟩

/-! ### mathutil_UMin: function 31 -/
def mathutil_UMin.f (a0 : Int) (a1 : Int) : Option (Int) := if a0 < a1 then (some a0) else (some a1)
set_option maxHeartbeats 8000000 in
set_option maxRecDepth 100000 in
theorem mathutil_UMin.calls (a0 : Int) (a1 : Int) (r : Int) (w : World) (h : mathutil_UMin.f a0 a1 = some r) :
    Calls Try.prog 31 #[.int .u64 a0, .int .u64 a1] w fun e w' => e = .returned (.int .u64 r) ∧ Drawn0 w w' := by
  have H : (if a0 < a1 then (some a0) else (some a1)) = some r := h
  clear h
  by_cases c3 : a0 < a1
  · rw [if_pos c3] at H
    have c3b0 : decide (a0 < a1) = true := decide_eq_true c3
    clear c3
    obtain rfl := Option.some.inj H
    go_enter Try.func31, Try.ntmps31
    go_wp2
    go_ret
    exact ⟨by first | rfl | (simp; done) | (simp [*]; done), by repeat (first | exact Drawn0.refl _ | apply Drawn0.step)⟩
  · rw [if_neg c3] at H
    have c3b0 : decide (a0 < a1) = false := decide_eq_false c3
    clear c3
    obtain rfl := Option.some.inj H
    go_enter Try.func31, Try.ntmps31
    go_wp2
    go_ret
    exact ⟨by first | rfl | (simp; done) | (simp [*]; done), by repeat (first | exact Drawn0.refl _ | apply Drawn0.step)⟩

/-! ### mathutil_UMax: function 32 -/
def mathutil_UMax.f (a0 : Int) (a1 : Int) : Option (Int) := if a0 > a1 then (some a0) else (some a1)
set_option maxHeartbeats 8000000 in
set_option maxRecDepth 100000 in
theorem mathutil_UMax.calls (a0 : Int) (a1 : Int) (r : Int) (w : World) (h : mathutil_UMax.f a0 a1 = some r) :
    Calls Try.prog 32 #[.int .u64 a0, .int .u64 a1] w fun e w' => e = .returned (.int .u64 r) ∧ Drawn0 w w' := by
  have H : (if a0 > a1 then (some a0) else (some a1)) = some r := h
  clear h
  by_cases c3 : a0 > a1
  · rw [if_pos c3] at H
    have c3b0 : decide (a1 < a0) = true := decide_eq_true c3
    clear c3
    obtain rfl := Option.some.inj H
    go_enter Try.func32, Try.ntmps32
    go_wp2
    go_ret
    exact ⟨by first | rfl | (simp; done) | (simp [*]; done), by repeat (first | exact Drawn0.refl _ | apply Drawn0.step)⟩
  · rw [if_neg c3] at H
    have c3b0 : decide (a1 < a0) = false := decide_eq_false c3
    clear c3
    obtain rfl := Option.some.inj H
    go_enter Try.func32, Try.ntmps32
    go_wp2
    go_ret
    exact ⟨by first | rfl | (simp; done) | (simp [*]; done), by repeat (first | exact Drawn0.refl _ | apply Drawn0.step)⟩

/-! ### mathutil_UClamp: function 16 -/
def mathutil_UClamp.f (a0 : Int) (a1 : Int) (a2 : Int) : Option (Int) := (mathutil_UMax.f a0 a1).bind fun t101 => ((mathutil_UMin.f t101 a2).bind fun t102 => (some t102))
set_option maxHeartbeats 8000000 in
set_option maxRecDepth 100000 in
theorem mathutil_UClamp.calls (a0 : Int) (a1 : Int) (a2 : Int) (r : Int) (w : World) (h : mathutil_UClamp.f a0 a1 a2 = some r) :
    Calls Try.prog 16 #[.int .u64 a0, .int .u64 a1, .int .u64 a2] w fun e w' => e = .returned (.int .u64 r) ∧ Drawn0 w w' := by
  have H : ((mathutil_UMax.f a0 a1).bind fun t101 => ((mathutil_UMin.f t101 a2).bind fun t102 => (some t102))) = some r := h
  clear h
  replace H := Option.bind_eq_some_iff.mp H
  obtain ⟨t101, A40, H⟩ := H
  replace H : ((mathutil_UMin.f t101 a2).bind fun t102 => (some t102)) = some r := H
  have A4 := Aside0.mk A40
  clear A40
  replace H := Option.bind_eq_some_iff.mp H
  obtain ⟨t102, A50, H⟩ := H
  replace H : (some t102) = some r := H
  have A5 := Aside0.mk A50
  clear A50
  obtain rfl := Option.some.inj H
  go_enter Try.func16, Try.ntmps16
  go_wp2_with (first | ((with_reducible refine gate_callee (f := 32) rfl ?_); refine goesL_ (some 9) rfl rfl Try.func32 (by kernel_rfl) rfl #[.int .u64 a0, .int .u64 a1] rfl (by (try simp only [List.map_toArray, List.map_cons, List.map_nil]); first | done | rfl | (simp only [List.length_drop, List.length_take]; rfl)) ?_; (with_reducible refine (mathutil_UMax.calls a0 a1 t101 _ A4.out).mono ?_); rintro e w' ⟨rfl, ⟨nd, rfl⟩⟩; refine ⟨_, rfl, ?_⟩) | ((with_reducible refine gate_callee (f := 31) rfl ?_); refine goesL_ (some 11) rfl rfl Try.func31 (by kernel_rfl) rfl #[.int .u64 t101, .int .u64 a2] rfl (by (try simp only [List.map_toArray, List.map_cons, List.map_nil]); first | done | rfl | (simp only [List.length_drop, List.length_take]; rfl)) ?_; (with_reducible refine (mathutil_UMin.calls t101 a2 t102 _ A5.out).mono ?_); rintro e w' ⟨rfl, ⟨nd, rfl⟩⟩; refine ⟨_, rfl, ?_⟩))
  go_ret
  exact ⟨by first | rfl | (simp; done) | (simp [*]; done), by repeat (first | exact Drawn0.refl _ | apply Drawn0.step)⟩

/-! ### mathutil_MinByte: function 33 -/
def mathutil_MinByte.f (a0 : Int) (a1 : Int) : Option (Int) := if a0 < a1 then (some a0) else (some a1)
set_option maxHeartbeats 8000000 in
set_option maxRecDepth 100000 in
theorem mathutil_MinByte.calls (a0 : Int) (a1 : Int) (r : Int) (w : World) (h : mathutil_MinByte.f a0 a1 = some r) :
    Calls Try.prog 33 #[.int .u8 a0, .int .u8 a1] w fun e w' => e = .returned (.int .u8 r) ∧ Drawn0 w w' := by
  have H : (if a0 < a1 then (some a0) else (some a1)) = some r := h
  clear h
  by_cases c3 : a0 < a1
  · rw [if_pos c3] at H
    have c3b0 : decide (a0 < a1) = true := decide_eq_true c3
    clear c3
    obtain rfl := Option.some.inj H
    go_enter Try.func33, Try.ntmps33
    go_wp2
    go_ret
    exact ⟨by first | rfl | (simp; done) | (simp [*]; done), by repeat (first | exact Drawn0.refl _ | apply Drawn0.step)⟩
  · rw [if_neg c3] at H
    have c3b0 : decide (a0 < a1) = false := decide_eq_false c3
    clear c3
    obtain rfl := Option.some.inj H
    go_enter Try.func33, Try.ntmps33
    go_wp2
    go_ret
    exact ⟨by first | rfl | (simp; done) | (simp [*]; done), by repeat (first | exact Drawn0.refl _ | apply Drawn0.step)⟩

/-! ### mathutil_MaxByte: function 34 -/
def mathutil_MaxByte.f (a0 : Int) (a1 : Int) : Option (Int) := if a0 > a1 then (some a0) else (some a1)
set_option maxHeartbeats 8000000 in
set_option maxRecDepth 100000 in
theorem mathutil_MaxByte.calls (a0 : Int) (a1 : Int) (r : Int) (w : World) (h : mathutil_MaxByte.f a0 a1 = some r) :
    Calls Try.prog 34 #[.int .u8 a0, .int .u8 a1] w fun e w' => e = .returned (.int .u8 r) ∧ Drawn0 w w' := by
  have H : (if a0 > a1 then (some a0) else (some a1)) = some r := h
  clear h
  by_cases c3 : a0 > a1
  · rw [if_pos c3] at H
    have c3b0 : decide (a1 < a0) = true := decide_eq_true c3
    clear c3
    obtain rfl := Option.some.inj H
    go_enter Try.func34, Try.ntmps34
    go_wp2
    go_ret
    exact ⟨by first | rfl | (simp; done) | (simp [*]; done), by repeat (first | exact Drawn0.refl _ | apply Drawn0.step)⟩
  · rw [if_neg c3] at H
    have c3b0 : decide (a1 < a0) = false := decide_eq_false c3
    clear c3
    obtain rfl := Option.some.inj H
    go_enter Try.func34, Try.ntmps34
    go_wp2
    go_ret
    exact ⟨by first | rfl | (simp; done) | (simp [*]; done), by repeat (first | exact Drawn0.refl _ | apply Drawn0.step)⟩

/-! ### mathutil_ClampByte: function 17 -/
def mathutil_ClampByte.f (a0 : Int) (a1 : Int) (a2 : Int) : Option (Int) := (mathutil_MaxByte.f a0 a1).bind fun t103 => ((mathutil_MinByte.f t103 a2).bind fun t104 => (some t104))
set_option maxHeartbeats 8000000 in
set_option maxRecDepth 100000 in
theorem mathutil_ClampByte.calls (a0 : Int) (a1 : Int) (a2 : Int) (r : Int) (w : World) (h : mathutil_ClampByte.f a0 a1 a2 = some r) :
    Calls Try.prog 17 #[.int .u8 a0, .int .u8 a1, .int .u8 a2] w fun e w' => e = .returned (.int .u8 r) ∧ Drawn0 w w' := by
  have H : ((mathutil_MaxByte.f a0 a1).bind fun t103 => ((mathutil_MinByte.f t103 a2).bind fun t104 => (some t104))) = some r := h
  clear h
  replace H := Option.bind_eq_some_iff.mp H
  obtain ⟨t103, A40, H⟩ := H
  replace H : ((mathutil_MinByte.f t103 a2).bind fun t104 => (some t104)) = some r := H
  have A4 := Aside0.mk A40
  clear A40
  replace H := Option.bind_eq_some_iff.mp H
  obtain ⟨t104, A50, H⟩ := H
  replace H : (some t104) = some r := H
  have A5 := Aside0.mk A50
  clear A50
  obtain rfl := Option.some.inj H
  go_enter Try.func17, Try.ntmps17
  go_wp2_with (first | ((with_reducible refine gate_callee (f := 34) rfl ?_); refine goesL_ (some 9) rfl rfl Try.func34 (by kernel_rfl) rfl #[.int .u8 a0, .int .u8 a1] rfl (by (try simp only [List.map_toArray, List.map_cons, List.map_nil]); first | done | rfl | (simp only [List.length_drop, List.length_take]; rfl)) ?_; (with_reducible refine (mathutil_MaxByte.calls a0 a1 t103 _ A4.out).mono ?_); rintro e w' ⟨rfl, ⟨nd, rfl⟩⟩; refine ⟨_, rfl, ?_⟩) | ((with_reducible refine gate_callee (f := 33) rfl ?_); refine goesL_ (some 11) rfl rfl Try.func33 (by kernel_rfl) rfl #[.int .u8 t103, .int .u8 a2] rfl (by (try simp only [List.map_toArray, List.map_cons, List.map_nil]); first | done | rfl | (simp only [List.length_drop, List.length_take]; rfl)) ?_; (with_reducible refine (mathutil_MinByte.calls t103 a2 t104 _ A5.out).mono ?_); rintro e w' ⟨rfl, ⟨nd, rfl⟩⟩; refine ⟨_, rfl, ?_⟩))
  go_ret
  exact ⟨by first | rfl | (simp; done) | (simp [*]; done), by repeat (first | exact Drawn0.refl _ | apply Drawn0.step)⟩

/-! ### mathutil_MinUint16: function 35 -/
def mathutil_MinUint16.f (a0 : Int) (a1 : Int) : Option (Int) := if a0 < a1 then (some a0) else (some a1)
set_option maxHeartbeats 8000000 in
set_option maxRecDepth 100000 in
theorem mathutil_MinUint16.calls (a0 : Int) (a1 : Int) (r : Int) (w : World) (h : mathutil_MinUint16.f a0 a1 = some r) :
    Calls Try.prog 35 #[.int .u16 a0, .int .u16 a1] w fun e w' => e = .returned (.int .u16 r) ∧ Drawn0 w w' := by
  have H : (if a0 < a1 then (some a0) else (some a1)) = some r := h
  clear h
  by_cases c3 : a0 < a1
  · rw [if_pos c3] at H
    have c3b0 : decide (a0 < a1) = true := decide_eq_true c3
    clear c3
    obtain rfl := Option.some.inj H
    go_enter Try.func35, Try.ntmps35
    go_wp2
    go_ret
    exact ⟨by first | rfl | (simp; done) | (simp [*]; done), by repeat (first | exact Drawn0.refl _ | apply Drawn0.step)⟩
  · rw [if_neg c3] at H
    have c3b0 : decide (a0 < a1) = false := decide_eq_false c3
    clear c3
    obtain rfl := Option.some.inj H
    go_enter Try.func35, Try.ntmps35
    go_wp2
    go_ret
    exact ⟨by first | rfl | (simp; done) | (simp [*]; done), by repeat (first | exact Drawn0.refl _ | apply Drawn0.step)⟩

/-! ### mathutil_MaxUint16: function 36 -/
def mathutil_MaxUint16.f (a0 : Int) (a1 : Int) : Option (Int) := if a0 > a1 then (some a0) else (some a1)
set_option maxHeartbeats 8000000 in
set_option maxRecDepth 100000 in
theorem mathutil_MaxUint16.calls (a0 : Int) (a1 : Int) (r : Int) (w : World) (h : mathutil_MaxUint16.f a0 a1 = some r) :
    Calls Try.prog 36 #[.int .u16 a0, .int .u16 a1] w fun e w' => e = .returned (.int .u16 r) ∧ Drawn0 w w' := by
  have H : (if a0 > a1 then (some a0) else (some a1)) = some r := h
  clear h
  by_cases c3 : a0 > a1
  · rw [if_pos c3] at H
    have c3b0 : decide (a1 < a0) = true := decide_eq_true c3
    clear c3
    obtain rfl := Option.some.inj H
    go_enter Try.func36, Try.ntmps36
    go_wp2
    go_ret
    exact ⟨by first | rfl | (simp; done) | (simp [*]; done), by repeat (first | exact Drawn0.refl _ | apply Drawn0.step)⟩
  · rw [if_neg c3] at H
    have c3b0 : decide (a1 < a0) = false := decide_eq_false c3
    clear c3
    obtain rfl := Option.some.inj H
    go_enter Try.func36, Try.ntmps36
    go_wp2
    go_ret
    exact ⟨by first | rfl | (simp; done) | (simp [*]; done), by repeat (first | exact Drawn0.refl _ | apply Drawn0.step)⟩

/-! ### mathutil_ClampUint16: function 18 -/
def mathutil_ClampUint16.f (a0 : Int) (a1 : Int) (a2 : Int) : Option (Int) := (mathutil_MaxUint16.f a0 a1).bind fun t105 => ((mathutil_MinUint16.f t105 a2).bind fun t106 => (some t106))
set_option maxHeartbeats 8000000 in
set_option maxRecDepth 100000 in
theorem mathutil_ClampUint16.calls (a0 : Int) (a1 : Int) (a2 : Int) (r : Int) (w : World) (h : mathutil_ClampUint16.f a0 a1 a2 = some r) :
    Calls Try.prog 18 #[.int .u16 a0, .int .u16 a1, .int .u16 a2] w fun e w' => e = .returned (.int .u16 r) ∧ Drawn0 w w' := by
  have H : ((mathutil_MaxUint16.f a0 a1).bind fun t105 => ((mathutil_MinUint16.f t105 a2).bind fun t106 => (some t106))) = some r := h
  clear h
  replace H := Option.bind_eq_some_iff.mp H
  obtain ⟨t105, A40, H⟩ := H
  replace H : ((mathutil_MinUint16.f t105 a2).bind fun t106 => (some t106)) = some r := H
  have A4 := Aside0.mk A40
  clear A40
  replace H := Option.bind_eq_some_iff.mp H
  obtain ⟨t106, A50, H⟩ := H
  replace H : (some t106) = some r := H
  have A5 := Aside0.mk A50
  clear A50
  obtain rfl := Option.some.inj H
  go_enter Try.func18, Try.ntmps18
  go_wp2_with (first | ((with_reducible refine gate_callee (f := 36) rfl ?_); refine goesL_ (some 9) rfl rfl Try.func36 (by kernel_rfl) rfl #[.int .u16 a0, .int .u16 a1] rfl (by (try simp only [List.map_toArray, List.map_cons, List.map_nil]); first | done | rfl | (simp only [List.length_drop, List.length_take]; rfl)) ?_; (with_reducible refine (mathutil_MaxUint16.calls a0 a1 t105 _ A4.out).mono ?_); rintro e w' ⟨rfl, ⟨nd, rfl⟩⟩; refine ⟨_, rfl, ?_⟩) | ((with_reducible refine gate_callee (f := 35) rfl ?_); refine goesL_ (some 11) rfl rfl Try.func35 (by kernel_rfl) rfl #[.int .u16 t105, .int .u16 a2] rfl (by (try simp only [List.map_toArray, List.map_cons, List.map_nil]); first | done | rfl | (simp only [List.length_drop, List.length_take]; rfl)) ?_; (with_reducible refine (mathutil_MinUint16.calls t105 a2 t106 _ A5.out).mono ?_); rintro e w' ⟨rfl, ⟨nd, rfl⟩⟩; refine ⟨_, rfl, ?_⟩))
  go_ret
  exact ⟨by first | rfl | (simp; done) | (simp [*]; done), by repeat (first | exact Drawn0.refl _ | apply Drawn0.step)⟩

/-! ### mathutil_MinUint32: function 37 -/
def mathutil_MinUint32.f (a0 : Int) (a1 : Int) : Option (Int) := if a0 < a1 then (some a0) else (some a1)
set_option maxHeartbeats 8000000 in
set_option maxRecDepth 100000 in
theorem mathutil_MinUint32.calls (a0 : Int) (a1 : Int) (r : Int) (w : World) (h : mathutil_MinUint32.f a0 a1 = some r) :
    Calls Try.prog 37 #[.int .u32 a0, .int .u32 a1] w fun e w' => e = .returned (.int .u32 r) ∧ Drawn0 w w' := by
  have H : (if a0 < a1 then (some a0) else (some a1)) = some r := h
  clear h
  by_cases c3 : a0 < a1
  · rw [if_pos c3] at H
    have c3b0 : decide (a0 < a1) = true := decide_eq_true c3
    clear c3
    obtain rfl := Option.some.inj H
    go_enter Try.func37, Try.ntmps37
    go_wp2
    go_ret
    exact ⟨by first | rfl | (simp; done) | (simp [*]; done), by repeat (first | exact Drawn0.refl _ | apply Drawn0.step)⟩
  · rw [if_neg c3] at H
    have c3b0 : decide (a0 < a1) = false := decide_eq_false c3
    clear c3
    obtain rfl := Option.some.inj H
    go_enter Try.func37, Try.ntmps37
    go_wp2
    go_ret
    exact ⟨by first | rfl | (simp; done) | (simp [*]; done), by repeat (first | exact Drawn0.refl _ | apply Drawn0.step)⟩

/-! ### mathutil_MaxUint32: function 38 -/
def mathutil_MaxUint32.f (a0 : Int) (a1 : Int) : Option (Int) := if a0 > a1 then (some a0) else (some a1)
set_option maxHeartbeats 8000000 in
set_option maxRecDepth 100000 in
theorem mathutil_MaxUint32.calls (a0 : Int) (a1 : Int) (r : Int) (w : World) (h : mathutil_MaxUint32.f a0 a1 = some r) :
    Calls Try.prog 38 #[.int .u32 a0, .int .u32 a1] w fun e w' => e = .returned (.int .u32 r) ∧ Drawn0 w w' := by
  have H : (if a0 > a1 then (some a0) else (some a1)) = some r := h
  clear h
  by_cases c3 : a0 > a1
  · rw [if_pos c3] at H
    have c3b0 : decide (a1 < a0) = true := decide_eq_true c3
    clear c3
    obtain rfl := Option.some.inj H
    go_enter Try.func38, Try.ntmps38
    go_wp2
    go_ret
    exact ⟨by first | rfl | (simp; done) | (simp [*]; done), by repeat (first | exact Drawn0.refl _ | apply Drawn0.step)⟩
  · rw [if_neg c3] at H
    have c3b0 : decide (a1 < a0) = false := decide_eq_false c3
    clear c3
    obtain rfl := Option.some.inj H
    go_enter Try.func38, Try.ntmps38
    go_wp2
    go_ret
    exact ⟨by first | rfl | (simp; done) | (simp [*]; done), by repeat (first | exact Drawn0.refl _ | apply Drawn0.step)⟩

/-! ### mathutil_ClampUint32: function 19 -/
def mathutil_ClampUint32.f (a0 : Int) (a1 : Int) (a2 : Int) : Option (Int) := (mathutil_MaxUint32.f a0 a1).bind fun t107 => ((mathutil_MinUint32.f t107 a2).bind fun t108 => (some t108))
set_option maxHeartbeats 8000000 in
set_option maxRecDepth 100000 in
theorem mathutil_ClampUint32.calls (a0 : Int) (a1 : Int) (a2 : Int) (r : Int) (w : World) (h : mathutil_ClampUint32.f a0 a1 a2 = some r) :
    Calls Try.prog 19 #[.int .u32 a0, .int .u32 a1, .int .u32 a2] w fun e w' => e = .returned (.int .u32 r) ∧ Drawn0 w w' := by
  have H : ((mathutil_MaxUint32.f a0 a1).bind fun t107 => ((mathutil_MinUint32.f t107 a2).bind fun t108 => (some t108))) = some r := h
  clear h
  replace H := Option.bind_eq_some_iff.mp H
  obtain ⟨t107, A40, H⟩ := H
  replace H : ((mathutil_MinUint32.f t107 a2).bind fun t108 => (some t108)) = some r := H
  have A4 := Aside0.mk A40
  clear A40
  replace H := Option.bind_eq_some_iff.mp H
  obtain ⟨t108, A50, H⟩ := H
  replace H : (some t108) = some r := H
  have A5 := Aside0.mk A50
  clear A50
  obtain rfl := Option.some.inj H
  go_enter Try.func19, Try.ntmps19
  go_wp2_with (first | ((with_reducible refine gate_callee (f := 38) rfl ?_); refine goesL_ (some 9) rfl rfl Try.func38 (by kernel_rfl) rfl #[.int .u32 a0, .int .u32 a1] rfl (by (try simp only [List.map_toArray, List.map_cons, List.map_nil]); first | done | rfl | (simp only [List.length_drop, List.length_take]; rfl)) ?_; (with_reducible refine (mathutil_MaxUint32.calls a0 a1 t107 _ A4.out).mono ?_); rintro e w' ⟨rfl, ⟨nd, rfl⟩⟩; refine ⟨_, rfl, ?_⟩) | ((with_reducible refine gate_callee (f := 37) rfl ?_); refine goesL_ (some 11) rfl rfl Try.func37 (by kernel_rfl) rfl #[.int .u32 t107, .int .u32 a2] rfl (by (try simp only [List.map_toArray, List.map_cons, List.map_nil]); first | done | rfl | (simp only [List.length_drop, List.length_take]; rfl)) ?_; (with_reducible refine (mathutil_MinUint32.calls t107 a2 t108 _ A5.out).mono ?_); rintro e w' ⟨rfl, ⟨nd, rfl⟩⟩; refine ⟨_, rfl, ?_⟩))
  go_ret
  exact ⟨by first | rfl | (simp; done) | (simp [*]; done), by repeat (first | exact Drawn0.refl _ | apply Drawn0.step)⟩

/-! ### mathutil_MinUint64: function 39 -/
def mathutil_MinUint64.f (a0 : Int) (a1 : Int) : Option (Int) := if a0 < a1 then (some a0) else (some a1)
set_option maxHeartbeats 8000000 in
set_option maxRecDepth 100000 in
theorem mathutil_MinUint64.calls (a0 : Int) (a1 : Int) (r : Int) (w : World) (h : mathutil_MinUint64.f a0 a1 = some r) :
    Calls Try.prog 39 #[.int .u64 a0, .int .u64 a1] w fun e w' => e = .returned (.int .u64 r) ∧ Drawn0 w w' := by
  have H : (if a0 < a1 then (some a0) else (some a1)) = some r := h
  clear h
  by_cases c3 : a0 < a1
  · rw [if_pos c3] at H
    have c3b0 : decide (a0 < a1) = true := decide_eq_true c3
    clear c3
    obtain rfl := Option.some.inj H
    go_enter Try.func39, Try.ntmps39
    go_wp2
    go_ret
    exact ⟨by first | rfl | (simp; done) | (simp [*]; done), by repeat (first | exact Drawn0.refl _ | apply Drawn0.step)⟩
  · rw [if_neg c3] at H
    have c3b0 : decide (a0 < a1) = false := decide_eq_false c3
    clear c3
    obtain rfl := Option.some.inj H
    go_enter Try.func39, Try.ntmps39
    go_wp2
    go_ret
    exact ⟨by first | rfl | (simp; done) | (simp [*]; done), by repeat (first | exact Drawn0.refl _ | apply Drawn0.step)⟩

/-! ### mathutil_MaxUint64: function 40 -/
def mathutil_MaxUint64.f (a0 : Int) (a1 : Int) : Option (Int) := if a0 > a1 then (some a0) else (some a1)
set_option maxHeartbeats 8000000 in
set_option maxRecDepth 100000 in
theorem mathutil_MaxUint64.calls (a0 : Int) (a1 : Int) (r : Int) (w : World) (h : mathutil_MaxUint64.f a0 a1 = some r) :
    Calls Try.prog 40 #[.int .u64 a0, .int .u64 a1] w fun e w' => e = .returned (.int .u64 r) ∧ Drawn0 w w' := by
  have H : (if a0 > a1 then (some a0) else (some a1)) = some r := h
  clear h
  by_cases c3 : a0 > a1
  · rw [if_pos c3] at H
    have c3b0 : decide (a1 < a0) = true := decide_eq_true c3
    clear c3
    obtain rfl := Option.some.inj H
    go_enter Try.func40, Try.ntmps40
    go_wp2
    go_ret
    exact ⟨by first | rfl | (simp; done) | (simp [*]; done), by repeat (first | exact Drawn0.refl _ | apply Drawn0.step)⟩
  · rw [if_neg c3] at H
    have c3b0 : decide (a1 < a0) = false := decide_eq_false c3
    clear c3
    obtain rfl := Option.some.inj H
    go_enter Try.func40, Try.ntmps40
    go_wp2
    go_ret
    exact ⟨by first | rfl | (simp; done) | (simp [*]; done), by repeat (first | exact Drawn0.refl _ | apply Drawn0.step)⟩

/-! ### mathutil_ClampUint64: function 20 -/
def mathutil_ClampUint64.f (a0 : Int) (a1 : Int) (a2 : Int) : Option (Int) := (mathutil_MaxUint64.f a0 a1).bind fun t109 => ((mathutil_MinUint64.f t109 a2).bind fun t110 => (some t110))
set_option maxHeartbeats 8000000 in
set_option maxRecDepth 100000 in
theorem mathutil_ClampUint64.calls (a0 : Int) (a1 : Int) (a2 : Int) (r : Int) (w : World) (h : mathutil_ClampUint64.f a0 a1 a2 = some r) :
    Calls Try.prog 20 #[.int .u64 a0, .int .u64 a1, .int .u64 a2] w fun e w' => e = .returned (.int .u64 r) ∧ Drawn0 w w' := by
  have H : ((mathutil_MaxUint64.f a0 a1).bind fun t109 => ((mathutil_MinUint64.f t109 a2).bind fun t110 => (some t110))) = some r := h
  clear h
  replace H := Option.bind_eq_some_iff.mp H
  obtain ⟨t109, A40, H⟩ := H
  replace H : ((mathutil_MinUint64.f t109 a2).bind fun t110 => (some t110)) = some r := H
  have A4 := Aside0.mk A40
  clear A40
  replace H := Option.bind_eq_some_iff.mp H
  obtain ⟨t110, A50, H⟩ := H
  replace H : (some t110) = some r := H
  have A5 := Aside0.mk A50
  clear A50
  obtain rfl := Option.some.inj H
  go_enter Try.func20, Try.ntmps20
  go_wp2_with (first | ((with_reducible refine gate_callee (f := 40) rfl ?_); refine goesL_ (some 9) rfl rfl Try.func40 (by kernel_rfl) rfl #[.int .u64 a0, .int .u64 a1] rfl (by (try simp only [List.map_toArray, List.map_cons, List.map_nil]); first | done | rfl | (simp only [List.length_drop, List.length_take]; rfl)) ?_; (with_reducible refine (mathutil_MaxUint64.calls a0 a1 t109 _ A4.out).mono ?_); rintro e w' ⟨rfl, ⟨nd, rfl⟩⟩; refine ⟨_, rfl, ?_⟩) | ((with_reducible refine gate_callee (f := 39) rfl ?_); refine goesL_ (some 11) rfl rfl Try.func39 (by kernel_rfl) rfl #[.int .u64 t109, .int .u64 a2] rfl (by (try simp only [List.map_toArray, List.map_cons, List.map_nil]); first | done | rfl | (simp only [List.length_drop, List.length_take]; rfl)) ?_; (with_reducible refine (mathutil_MinUint64.calls t109 a2 t110 _ A5.out).mono ?_); rintro e w' ⟨rfl, ⟨nd, rfl⟩⟩; refine ⟨_, rfl, ?_⟩))
  go_ret
  exact ⟨by first | rfl | (simp; done) | (simp [*]; done), by repeat (first | exact Drawn0.refl _ | apply Drawn0.step)⟩

/-! ### impl_UClamp: function 9 -/
def impl_UClamp.f (a0 : Int) (a1 : Int) (a2 : Int) (a3 : Int) : Option (Int) := if a0 = 1 then ((mathutil_UClamp.f a1 a2 a3).bind fun t111 => (some t111)) else (if a0 = 8 then ((mathutil_ClampByte.f ((a1) % 256) ((a2) % 256) ((a3) % 256)).bind fun t112 => (some (IntKind.u64.wrap (t112)))) else (if a0 = 16 then ((mathutil_ClampUint16.f (IntKind.u16.wrap (a1)) (IntKind.u16.wrap (a2)) (IntKind.u16.wrap (a3))).bind fun t113 => (some (IntKind.u64.wrap (t113)))) else (if a0 = 32 then ((mathutil_ClampUint32.f ((a1) % 4294967296) ((a2) % 4294967296) ((a3) % 4294967296)).bind fun t114 => (some (IntKind.u64.wrap (t114)))) else ((mathutil_ClampUint64.f a1 a2 a3).bind fun t115 => (some t115)))))
set_option maxHeartbeats 8000000 in
set_option maxRecDepth 100000 in
theorem impl_UClamp.calls (a0 : Int) (a1 : Int) (a2 : Int) (a3 : Int) (r : Int) (w : World) (h : impl_UClamp.f a0 a1 a2 a3 = some r) :
    Calls Try.prog 9 #[.int .i64 a0, .int .u64 a1, .int .u64 a2, .int .u64 a3] w fun e w' => e = .returned (.int .u64 r) ∧ Drawn0 w w' := by
  have H : (if a0 = 1 then ((mathutil_UClamp.f a1 a2 a3).bind fun t111 => (some t111)) else (if a0 = 8 then ((mathutil_ClampByte.f ((a1) % 256) ((a2) % 256) ((a3) % 256)).bind fun t112 => (some (IntKind.u64.wrap (t112)))) else (if a0 = 16 then ((mathutil_ClampUint16.f (IntKind.u16.wrap (a1)) (IntKind.u16.wrap (a2)) (IntKind.u16.wrap (a3))).bind fun t113 => (some (IntKind.u64.wrap (t113)))) else (if a0 = 32 then ((mathutil_ClampUint32.f ((a1) % 4294967296) ((a2) % 4294967296) ((a3) % 4294967296)).bind fun t114 => (some (IntKind.u64.wrap (t114)))) else ((mathutil_ClampUint64.f a1 a2 a3).bind fun t115 => (some t115)))))) = some r := h
  clear h
  by_cases c5 : a0 = 1
  · rw [if_pos c5] at H
    have c5b0 : (a0 == 1) = true := beq_iff_eq.mpr c5
    have c5b1 : (a0 != 1) = false := bne_eq_false_iff_eq.mpr c5
    clear c5
    replace H := Option.bind_eq_some_iff.mp H
    obtain ⟨t111, A60, H⟩ := H
    replace H : (some t111) = some r := H
    have A6 := Aside0.mk A60
    clear A60
    obtain rfl := Option.some.inj H
    go_enter Try.func9, Try.ntmps9
    go_wp2_with (first | ((with_reducible refine gate_callee (f := 16) rfl ?_); refine goesL_ (some 15) rfl rfl Try.func16 (by kernel_rfl) rfl #[.int .u64 a1, .int .u64 a2, .int .u64 a3] rfl (by (try simp only [List.map_toArray, List.map_cons, List.map_nil]); first | done | rfl | (simp only [List.length_drop, List.length_take]; rfl)) ?_; (with_reducible refine (mathutil_UClamp.calls a1 a2 a3 t111 _ A6.out).mono ?_); rintro e w' ⟨rfl, ⟨nd, rfl⟩⟩; refine ⟨_, rfl, ?_⟩))
    go_ret
    exact ⟨by first | rfl | (simp; done) | (simp [*]; done), by repeat (first | exact Drawn0.refl _ | apply Drawn0.step)⟩
  · rw [if_neg c5] at H
    have c5b0 : (a0 == 1) = false := beq_eq_false_iff_ne.mpr c5
    have c5b1 : (a0 != 1) = true := bne_iff_ne.mpr c5
    by_cases c7 : a0 = 8
    · rw [if_pos c7] at H
      have c7b0 : (a0 == 8) = true := beq_iff_eq.mpr c7
      have c7b1 : (a0 != 8) = false := bne_eq_false_iff_eq.mpr c7
      clear c7
      replace H := Option.bind_eq_some_iff.mp H
      obtain ⟨t112, A80, H⟩ := H
      replace H : (some (IntKind.u64.wrap (t112))) = some r := H
      have A8 := Aside0.mk A80
      clear A80
      obtain rfl := Option.some.inj H
      go_enter Try.func9, Try.ntmps9
      go_wp2_with (first | ((with_reducible refine gate_callee (f := 17) rfl ?_); refine goesL_ (some 24) rfl rfl Try.func17 (by kernel_rfl) rfl #[.int .u8 ((a1) % 256), .int .u8 ((a2) % 256), .int .u8 ((a3) % 256)] rfl (by (try simp only [List.map_toArray, List.map_cons, List.map_nil]); first | done | rfl | (simp only [List.length_drop, List.length_take]; rfl)) ?_; (with_reducible refine (mathutil_ClampByte.calls ((a1) % 256) ((a2) % 256) ((a3) % 256) t112 _ A8.out).mono ?_); rintro e w' ⟨rfl, ⟨nd, rfl⟩⟩; refine ⟨_, rfl, ?_⟩))
      go_ret
      exact ⟨by first | rfl | (simp; done) | (simp [*]; done), by repeat (first | exact Drawn0.refl _ | apply Drawn0.step)⟩
    · rw [if_neg c7] at H
      have c7b0 : (a0 == 8) = false := beq_eq_false_iff_ne.mpr c7
      have c7b1 : (a0 != 8) = true := bne_iff_ne.mpr c7
      by_cases c9 : a0 = 16
      · rw [if_pos c9] at H
        have c9b0 : (a0 == 16) = true := beq_iff_eq.mpr c9
        have c9b1 : (a0 != 16) = false := bne_eq_false_iff_eq.mpr c9
        clear c9
        replace H := Option.bind_eq_some_iff.mp H
        obtain ⟨t113, A100, H⟩ := H
        replace H : (some (IntKind.u64.wrap (t113))) = some r := H
        have A10 := Aside0.mk A100
        clear A100
        obtain rfl := Option.some.inj H
        go_enter Try.func9, Try.ntmps9
        go_wp2_with (first | ((with_reducible refine gate_callee (f := 18) rfl ?_); refine goesL_ (some 34) rfl rfl Try.func18 (by kernel_rfl) rfl #[.int .u16 (IntKind.u16.wrap (a1)), .int .u16 (IntKind.u16.wrap (a2)), .int .u16 (IntKind.u16.wrap (a3))] rfl (by (try simp only [List.map_toArray, List.map_cons, List.map_nil]); first | done | rfl | (simp only [List.length_drop, List.length_take]; rfl)) ?_; (with_reducible refine (mathutil_ClampUint16.calls (IntKind.u16.wrap (a1)) (IntKind.u16.wrap (a2)) (IntKind.u16.wrap (a3)) t113 _ A10.out).mono ?_); rintro e w' ⟨rfl, ⟨nd, rfl⟩⟩; refine ⟨_, rfl, ?_⟩))
        go_ret
        exact ⟨by first | rfl | (simp; done) | (simp [*]; done), by repeat (first | exact Drawn0.refl _ | apply Drawn0.step)⟩
      · rw [if_neg c9] at H
        have c9b0 : (a0 == 16) = false := beq_eq_false_iff_ne.mpr c9
        have c9b1 : (a0 != 16) = true := bne_iff_ne.mpr c9
        by_cases c11 : a0 = 32
        · rw [if_pos c11] at H
          have c11b0 : (a0 == 32) = true := beq_iff_eq.mpr c11
          have c11b1 : (a0 != 32) = false := bne_eq_false_iff_eq.mpr c11
          clear c11
          replace H := Option.bind_eq_some_iff.mp H
          obtain ⟨t114, A120, H⟩ := H
          replace H : (some (IntKind.u64.wrap (t114))) = some r := H
          have A12 := Aside0.mk A120
          clear A120
          obtain rfl := Option.some.inj H
          go_enter Try.func9, Try.ntmps9
          go_wp2_with (first | ((with_reducible refine gate_callee (f := 19) rfl ?_); refine goesL_ (some 44) rfl rfl Try.func19 (by kernel_rfl) rfl #[.int .u32 ((a1) % 4294967296), .int .u32 ((a2) % 4294967296), .int .u32 ((a3) % 4294967296)] rfl (by (try simp only [List.map_toArray, List.map_cons, List.map_nil]); first | done | rfl | (simp only [List.length_drop, List.length_take]; rfl)) ?_; (with_reducible refine (mathutil_ClampUint32.calls ((a1) % 4294967296) ((a2) % 4294967296) ((a3) % 4294967296) t114 _ A12.out).mono ?_); rintro e w' ⟨rfl, ⟨nd, rfl⟩⟩; refine ⟨_, rfl, ?_⟩))
          go_ret
          exact ⟨by first | rfl | (simp; done) | (simp [*]; done), by repeat (first | exact Drawn0.refl _ | apply Drawn0.step)⟩
        · rw [if_neg c11] at H
          have c11b0 : (a0 == 32) = false := beq_eq_false_iff_ne.mpr c11
          have c11b1 : (a0 != 32) = true := bne_iff_ne.mpr c11
          replace H := Option.bind_eq_some_iff.mp H
          obtain ⟨t115, A130, H⟩ := H
          replace H : (some t115) = some r := H
          have A13 := Aside0.mk A130
          clear A130
          obtain rfl := Option.some.inj H
          go_enter Try.func9, Try.ntmps9
          go_wp2_with (first | ((with_reducible refine gate_callee (f := 20) rfl ?_); refine goesL_ (some 49) rfl rfl Try.func20 (by kernel_rfl) rfl #[.int .u64 a1, .int .u64 a2, .int .u64 a3] rfl (by (try simp only [List.map_toArray, List.map_cons, List.map_nil]); first | done | rfl | (simp only [List.length_drop, List.length_take]; rfl)) ?_; (with_reducible refine (mathutil_ClampUint64.calls a1 a2 a3 t115 _ A13.out).mono ?_); rintro e w' ⟨rfl, ⟨nd, rfl⟩⟩; refine ⟨_, rfl, ?_⟩))
          go_ret
          exact ⟨by first | rfl | (simp; done) | (simp [*]; done), by repeat (first | exact Drawn0.refl _ | apply Drawn0.step)⟩

/-! ### spec_Low: function 10 -/
def spec_Low.f (a0 : Int) (a1 : Int) : Option (Int) := if 0 ≤ (wrap64 (64 - a0)) then (some (shr .u64 (shl .u64 a1 (wrap64 (64 - a0))) (wrap64 (64 - a0)))) else (none)
set_option maxHeartbeats 8000000 in
set_option maxRecDepth 100000 in
theorem spec_Low.calls (a0 : Int) (a1 : Int) (r : Int) (w : World) (h : spec_Low.f a0 a1 = some r) :
    Calls Try.prog 10 #[.int .i64 a0, .int .u64 a1] w fun e w' => e = .returned (.int .u64 r) ∧ Drawn0 w w' := by
  have H : (if 0 ≤ (wrap64 (64 - a0)) then (some (shr .u64 (shl .u64 a1 (wrap64 (64 - a0))) (wrap64 (64 - a0)))) else (none)) = some r := h
  clear h
  obtain ⟨ji3, hji3⟩ : ∃ j_ : Int, (wrap64 (64 - a0)) = j_ := ⟨_, rfl⟩
  replace H : (if 0 ≤ (ji3) then (some (shr .u64 (shl .u64 a1 (ji3)) (ji3))) else (none)) = some r := by first | (rw [hji3] at H; exact H) | (simp only [hji3] at H ⊢; exact H)
  have hji3w : (IntKind.i64.wrap (64 - a0)) = ji3 := (i64_w _).trans hji3
  by_cases c4 : 0 ≤ (ji3)
  · rw [if_pos c4] at H
    have c4b0 := eq_true c4
    have c4b1 : decide (0 ≤ (ji3)) = true := decide_eq_true c4
    clear c4
    obtain ⟨ji5, hji5⟩ : ∃ j_ : Int, (shl .u64 a1 (ji3)) = j_ := ⟨_, rfl⟩
    replace H : (some (shr .u64 (ji5) (ji3))) = some r := by first | (rw [hji5] at H; exact H) | (simp only [hji5] at H ⊢; exact H)
    have hji5_ : (IntKind.u64.wrap (a1 * 2 ^ min (ji3).toNat 64)) = ji5 := hji5
    have hji5z : (ji3) ≤ 64 → (IntKind.u64.wrap (a1 * 2 ^ (ji3).toNat)) = ji5 := shl_small hji5
    have c6b0 := eq_true (of_decide_eq_true (by first | (with_reducible assumption) | assumption) : 0 ≤ (ji3))
    obtain ⟨ji7, hji7⟩ : ∃ j_ : Int, (shr .u64 (ji5) (ji3)) = j_ := ⟨_, rfl⟩
    replace H : (some ji7) = some r := by first | (rw [hji7] at H; exact H) | (simp only [hji7] at H ⊢; exact H)
    have hji7_ : ((ji5) / 2 ^ min (ji3).toNat 64) = ji7 := hji7
    have hji7z : (ji3) ≤ 64 → ((ji5) / 2 ^ (ji3).toNat) = ji7 := shr_small hji7
    obtain rfl := Option.some.inj H
    go_enter Try.func10, Try.ntmps10
    go_wp2
    go_ret
    exact ⟨by first | rfl | (simp; done) | (simp only [← hji3, ← hji5, ← hji7] <;> (first | rfl | simp)) | (simp [*]; done), by repeat (first | exact Drawn0.refl _ | apply Drawn0.step)⟩
  · rw [if_neg c4] at H
    exact absurd H (by simp)

/-! ### laws_FnUClamp: function 4 -/
def laws_FnUClamp.j0 : Nat → Int → Int → Int → Int → Bool → Int → Option (Bool)
  | 0, _, _, _, _, _, _ => none
  | k + 1, x0, x1, x2, x3, x9, x10 => (spec_IsWidth.f x10).bind fun t117 => (if t117 = true then ((spec_Low.f x10 x1).bind fun t118 => ((spec_Low.f x10 x2).bind fun t119 => ((spec_Low.f x10 x3).bind fun t120 => (if x9 = true then (if t119 > t120 then (some true) else ((impl_UClamp.f x0 t118 t119 t120).bind fun t121 => (some (t121 == (mn (mx t118 t119) t120))))) else (some false))))) else (some x9))
def laws_FnUClamp.f (k : Nat) (a0 : Int) (a1 : Int) (a2 : Int) (a3 : Int) : Option (Bool) := (impl_UClamp.f 8 5 1 3).bind fun t116 => (if a0 = 1 then (laws_FnUClamp.j0 k a0 a1 a2 a3 (t116 == 3) 64) else (laws_FnUClamp.j0 k a0 a1 a2 a3 (t116 == 3) a0))
theorem laws_FnUClamp.mono_l : ∀ k, (∀ y0 y1 y2 y3 y4 y5, LeO (laws_FnUClamp.j0 k y0 y1 y2 y3 y4 y5) (laws_FnUClamp.j0 (k + 1) y0 y1 y2 y3 y4 y5))
  | 0 => fun _ _ _ _ _ _ r h => by simp [laws_FnUClamp.j0] at h
  | k + 1 => by
    have ih0 := laws_FnUClamp.mono_l k
    · intro y0 y1 y2 y3 y4 y5
      unfold laws_FnUClamp.j0
      repeat' first
      | (with_reducible exact ih0 _ _ _ _ _ _)
      | (with_reducible exact LeO.refl _)
      | (with_reducible exact LeO.none _)
      | (with_reducible refine LeO.ite ?_ ?_)
      | (with_reducible refine LeO.bind ?_ (fun _ => ?_))
      | exact ih0 _ _ _ _ _ _
      | exact LeO.none _
      | refine LeO.ite ?_ ?_
      | refine LeO.bind ?_ (fun _ => ?_)
theorem laws_FnUClamp.mono : ∀ a0 a1 a2 a3 k, LeO (laws_FnUClamp.f k a0 a1 a2 a3) (laws_FnUClamp.f (k + 1) a0 a1 a2 a3) := by
  intro a0 a1 a2 a3 k
  have ih0 := laws_FnUClamp.mono_l k
  unfold laws_FnUClamp.f
  repeat' first
      | (with_reducible exact ih0 _ _ _ _ _ _)
      | (with_reducible exact LeO.refl _)
      | (with_reducible exact LeO.none _)
      | (with_reducible refine LeO.ite ?_ ?_)
      | (with_reducible refine LeO.bind ?_ (fun _ => ?_))
      | exact ih0 _ _ _ _ _ _
      | exact LeO.none _
      | refine LeO.ite ?_ ?_
      | refine LeO.bind ?_ (fun _ => ?_)
set_option maxHeartbeats 8000000 in
set_option maxRecDepth 100000 in
theorem laws_FnUClamp.calls (k : Nat) (a0 : Int) (a1 : Int) (a2 : Int) (a3 : Int) (r : Bool) (w : World) (h : laws_FnUClamp.f k a0 a1 a2 a3 = some r) :
    Calls Try.prog 4 #[.int .i64 a0, .int .u64 a1, .int .u64 a2, .int .u64 a3] w fun e w' => e = .returned (.bool r) ∧ Below w.heap.size w w' := by
  have HB := Aside0.mk (Below.refl w.heap.size w)
  have H : ((impl_UClamp.f 8 5 1 3).bind fun t116 => (if a0 = 1 then (laws_FnUClamp.j0 k a0 a1 a2 a3 (t116 == 3) 64) else (laws_FnUClamp.j0 k a0 a1 a2 a3 (t116 == 3) a0))) = some r := h
  clear h
  replace H := Option.bind_eq_some_iff.mp H
  obtain ⟨t116, A50, H⟩ := H
  replace H : (if a0 = 1 then (laws_FnUClamp.j0 k a0 a1 a2 a3 (t116 == 3) 64) else (laws_FnUClamp.j0 k a0 a1 a2 a3 (t116 == 3) a0)) = some r := H
  have A5 := Aside0.mk A50
  clear A50
  have HC6 := Aside0.mk H
  clear H
  go_enter Try.func4, Try.ntmps4
  go_upto_if 15 with (first | ((with_reducible refine gate_callee (f := 9) rfl ?_); refine goesL_ (some 11) rfl rfl Try.func9 (by kernel_rfl) rfl #[.int .i64 8, .int .u64 5, .int .u64 1, .int .u64 3] rfl (by (try simp only [List.map_toArray, List.map_cons, List.map_nil]); first | done | rfl | (simp only [List.length_drop, List.length_take]; rfl)) ?_; (with_reducible refine (impl_UClamp.calls 8 5 1 3 t116 _ A5.out).mono ?_); rintro e w' ⟨rfl, ⟨nd, rfl⟩⟩; refine ⟨_, rfl, ?_⟩))
  (try simp only [Act.put, List.setIfInBounds_toArray, List.set_cons_zero, List.set_cons_succ])
  go_cut [10] (fun v10 wc => ∃ (kq : Nat) (x10_5 : Int), v10 = .int .i64 x10_5 ∧ Aside0 (laws_FnUClamp.j0 kq a0 a1 a2 a3 (t116 == 3) x10_5 = some r) ∧ Aside0 (kq ≤ k) ∧ Aside0 (Below w.heap.size w wc))
  case first =>
    have H := HC6.out
    clear HC6
    by_cases c7 : a0 = 1
    · rw [if_pos c7] at H
      have c7b0 : (a0 == 1) = true := beq_iff_eq.mpr c7
      have c7b1 : (a0 != 1) = false := bne_eq_false_iff_eq.mpr c7
      clear c7
      (first | rw [c7b0] | (simp only [i64_w, i32_w]; rw [c7b0]) | skip)
      have H' := Aside0.mk H
      clear H
      go_wp2
      go_meet
      case rel => exact ⟨_, (64), (by first | rfl | (simp; done) | (simp [*]; done)), H', ⟨by first | omega | exact Nat.le_refl _⟩, ⟨by repeat (first | (with_reducible first | exact HB.out | apply below_alloc | apply pw_below_drewN | apply below_drew1) | exact HB.out)⟩⟩
    · rw [if_neg c7] at H
      have c7b0 : (a0 == 1) = false := beq_eq_false_iff_ne.mpr c7
      have c7b1 : (a0 != 1) = true := bne_iff_ne.mpr c7
      (first | rw [c7b0] | (simp only [i64_w, i32_w]; rw [c7b0]) | skip)
      have H' := Aside0.mk H
      clear H
      go_wp2
      go_meet
      case rel => exact ⟨_, (a0), (by first | rfl | (simp; done) | (simp [*]; done)), H', ⟨by first | omega | exact Nat.le_refl _⟩, ⟨by repeat (first | (with_reducible first | exact HB.out | apply below_alloc | apply pw_below_drewN | apply below_drew1) | exact HB.out)⟩⟩
  case rest =>
    clear HC6
    try clear p2
    try clear c4
    try clear c7
    try clear c7b0
    try clear c7b1
    obtain ⟨kq, x10_5, rfl, HA, HJ5, HB⟩ := hcut
    cases kq with
    | zero => exact absurd HA.out (by simp [laws_FnUClamp.j0])
    | succ kj5 =>
      have H := HA.out
      clear HA
      simp only [laws_FnUClamp.j0] at H
      replace H := Option.bind_eq_some_iff.mp H
      obtain ⟨t117, A80, H⟩ := H
      replace H : (if t117 = true then ((spec_Low.f x10_5 a1).bind fun t118 => ((spec_Low.f x10_5 a2).bind fun t119 => ((spec_Low.f x10_5 a3).bind fun t120 => (if (t116 == 3) = true then (if t119 > t120 then (some true) else ((impl_UClamp.f a0 t118 t119 t120).bind fun t121 => (some (t121 == (mn (mx t118 t119) t120))))) else (some false))))) else (some (t116 == 3))) = some r := H
      have A8 := Aside0.mk A80
      clear A80
      by_cases c9 : t117 = true
      · subst c9
        have H1 : ((spec_Low.f x10_5 a1).bind fun t118 => ((spec_Low.f x10_5 a2).bind fun t119 => ((spec_Low.f x10_5 a3).bind fun t120 => (if (t116 == 3) = true then (if t119 > t120 then (some true) else ((impl_UClamp.f a0 t118 t119 t120).bind fun t121 => (some (t121 == (mn (mx t118 t119) t120))))) else (some false))))) = some r := by rw [if_pos rfl] at H; exact H
        clear H
        have H := H1
        clear H1
        replace H := Option.bind_eq_some_iff.mp H
        obtain ⟨t118, A100, H⟩ := H
        replace H : ((spec_Low.f x10_5 a2).bind fun t119 => ((spec_Low.f x10_5 a3).bind fun t120 => (if (t116 == 3) = true then (if t119 > t120 then (some true) else ((impl_UClamp.f a0 t118 t119 t120).bind fun t121 => (some (t121 == (mn (mx t118 t119) t120))))) else (some false)))) = some r := H
        have A10 := Aside0.mk A100
        clear A100
        replace H := Option.bind_eq_some_iff.mp H
        obtain ⟨t119, A110, H⟩ := H
        replace H : ((spec_Low.f x10_5 a3).bind fun t120 => (if (t116 == 3) = true then (if t119 > t120 then (some true) else ((impl_UClamp.f a0 t118 t119 t120).bind fun t121 => (some (t121 == (mn (mx t118 t119) t120))))) else (some false))) = some r := H
        have A11 := Aside0.mk A110
        clear A110
        replace H := Option.bind_eq_some_iff.mp H
        obtain ⟨t120, A120, H⟩ := H
        replace H : (if (t116 == 3) = true then (if t119 > t120 then (some true) else ((impl_UClamp.f a0 t118 t119 t120).bind fun t121 => (some (t121 == (mn (mx t118 t119) t120))))) else (some false)) = some r := H
        have A12 := Aside0.mk A120
        clear A120
        by_cases c13 : (t116 == 3) = true
        · rw [if_pos c13] at H
          have c13b0 : (t116 == 3) = true := c13
          (try (have c13b1 : decide (t116 = 3) = true := by simpa using c13))
          (try (have c13b2 : (t116 == 3) = true := by simpa using c13))
          clear c13
          by_cases c14 : t119 > t120
          · rw [if_pos c14] at H
            have c14b0 : decide (t120 < t119) = true := decide_eq_true c14
            clear c14
            obtain rfl := Option.some.inj H
            go_wp2_with (first | ((with_reducible refine gate_callee (f := 6) rfl ?_); refine goesL_ (some 17) rfl rfl Try.func6 (by kernel_rfl) rfl #[.int .i64 x10_5] rfl (by (try simp only [List.map_toArray, List.map_cons, List.map_nil]); first | done | rfl | (simp only [List.length_drop, List.length_take]; rfl)) ?_; (with_reducible refine (spec_IsWidth.calls x10_5 true _ A8.out).mono ?_); rintro e w' ⟨rfl, ⟨nd, rfl⟩⟩; refine ⟨_, rfl, ?_⟩) | ((with_reducible refine gate_callee (f := 10) rfl ?_); refine goesL_ (some 22) rfl rfl Try.func10 (by kernel_rfl) rfl #[.int .i64 x10_5, .int .u64 a1] rfl (by (try simp only [List.map_toArray, List.map_cons, List.map_nil]); first | done | rfl | (simp only [List.length_drop, List.length_take]; rfl)) ?_; (with_reducible refine (spec_Low.calls x10_5 a1 t118 _ A10.out).mono ?_); rintro e w' ⟨rfl, ⟨nd, rfl⟩⟩; refine ⟨_, rfl, ?_⟩) | ((with_reducible refine gate_callee (f := 10) rfl ?_); refine goesL_ (some 25) rfl rfl Try.func10 (by kernel_rfl) rfl #[.int .i64 x10_5, .int .u64 a2] rfl (by (try simp only [List.map_toArray, List.map_cons, List.map_nil]); first | done | rfl | (simp only [List.length_drop, List.length_take]; rfl)) ?_; (with_reducible refine (spec_Low.calls x10_5 a2 t119 _ A11.out).mono ?_); rintro e w' ⟨rfl, ⟨nd, rfl⟩⟩; refine ⟨_, rfl, ?_⟩) | ((with_reducible refine gate_callee (f := 10) rfl ?_); refine goesL_ (some 28) rfl rfl Try.func10 (by kernel_rfl) rfl #[.int .i64 x10_5, .int .u64 a3] rfl (by (try simp only [List.map_toArray, List.map_cons, List.map_nil]); first | done | rfl | (simp only [List.length_drop, List.length_take]; rfl)) ?_; (with_reducible refine (spec_Low.calls x10_5 a3 t120 _ A12.out).mono ?_); rintro e w' ⟨rfl, ⟨nd, rfl⟩⟩; refine ⟨_, rfl, ?_⟩))
            go_ret
            exact ⟨by first | rfl | (simp [errW_none, errW_some] <;> rfl) | (simp [*, errW_none, errW_some] <;> rfl), by repeat (first | (with_reducible first | exact HB.out | apply below_alloc | apply pw_below_drewN | apply below_drew1) | exact HB.out)⟩
          · rw [if_neg c14] at H
            have c14b0 : decide (t120 < t119) = false := decide_eq_false c14
            clear c14
            replace H := Option.bind_eq_some_iff.mp H
            obtain ⟨t121, A150, H⟩ := H
            replace H : (some (t121 == (mn (mx t118 t119) t120))) = some r := H
            have A15 := Aside0.mk A150
            clear A150
            obtain ⟨ji16, hji16⟩ : ∃ j_ : Int, (mx t118 t119) = j_ := ⟨_, rfl⟩
            replace H : (some (t121 == (mn (ji16) t120))) = some r := by first | (rw [hji16] at H; exact H) | (simp only [hji16] at H ⊢; exact H)
            (try rw [hji16] at A8)
            (try rw [hji16] at A10)
            (try rw [hji16] at A11)
            (try rw [hji16] at A12)
            (try rw [hji16] at A15)
            have hji16_ : (if t118 < t119 then t119 else t118) = ji16 := hji16
            obtain ⟨ji17, hji17⟩ : ∃ j_ : Int, (mn (ji16) t120) = j_ := ⟨_, rfl⟩
            replace H : (some (t121 == (ji17))) = some r := by first | (rw [hji17] at H; exact H) | (simp only [hji17] at H ⊢; exact H)
            (try rw [hji17] at A8)
            (try rw [hji17] at A10)
            (try rw [hji17] at A11)
            (try rw [hji17] at A12)
            (try rw [hji17] at A15)
            have hji17_ : (if t120 < (ji16) then t120 else (ji16)) = ji17 := hji17
            obtain rfl := Option.some.inj H
            go_wp2_with (first | ((with_reducible refine gate_callee (f := 6) rfl ?_); refine goesL_ (some 17) rfl rfl Try.func6 (by kernel_rfl) rfl #[.int .i64 x10_5] rfl (by (try simp only [List.map_toArray, List.map_cons, List.map_nil]); first | done | rfl | (simp only [List.length_drop, List.length_take]; rfl)) ?_; (with_reducible refine (spec_IsWidth.calls x10_5 true _ A8.out).mono ?_); rintro e w' ⟨rfl, ⟨nd, rfl⟩⟩; refine ⟨_, rfl, ?_⟩) | ((with_reducible refine gate_callee (f := 10) rfl ?_); refine goesL_ (some 22) rfl rfl Try.func10 (by kernel_rfl) rfl #[.int .i64 x10_5, .int .u64 a1] rfl (by (try simp only [List.map_toArray, List.map_cons, List.map_nil]); first | done | rfl | (simp only [List.length_drop, List.length_take]; rfl)) ?_; (with_reducible refine (spec_Low.calls x10_5 a1 t118 _ A10.out).mono ?_); rintro e w' ⟨rfl, ⟨nd, rfl⟩⟩; refine ⟨_, rfl, ?_⟩) | ((with_reducible refine gate_callee (f := 10) rfl ?_); refine goesL_ (some 25) rfl rfl Try.func10 (by kernel_rfl) rfl #[.int .i64 x10_5, .int .u64 a2] rfl (by (try simp only [List.map_toArray, List.map_cons, List.map_nil]); first | done | rfl | (simp only [List.length_drop, List.length_take]; rfl)) ?_; (with_reducible refine (spec_Low.calls x10_5 a2 t119 _ A11.out).mono ?_); rintro e w' ⟨rfl, ⟨nd, rfl⟩⟩; refine ⟨_, rfl, ?_⟩) | ((with_reducible refine gate_callee (f := 10) rfl ?_); refine goesL_ (some 28) rfl rfl Try.func10 (by kernel_rfl) rfl #[.int .i64 x10_5, .int .u64 a3] rfl (by (try simp only [List.map_toArray, List.map_cons, List.map_nil]); first | done | rfl | (simp only [List.length_drop, List.length_take]; rfl)) ?_; (with_reducible refine (spec_Low.calls x10_5 a3 t120 _ A12.out).mono ?_); rintro e w' ⟨rfl, ⟨nd, rfl⟩⟩; refine ⟨_, rfl, ?_⟩) | (go_at_call 9; (with_reducible refine (impl_UClamp.calls a0 t118 t119 t120 t121 _ A15.out).mono ?_); rintro e w' ⟨rfl, ⟨nd, rfl⟩⟩))
            go_ret
            exact ⟨by first | rfl | (simp [errW_none, errW_some] <;> rfl) | (simp only [← hji16, ← hji17]; first | rfl | (simp [errW_none, errW_some] <;> rfl)) | (simp [*, errW_none, errW_some] <;> rfl), by repeat (first | (with_reducible first | exact HB.out | apply below_alloc | apply pw_below_drewN | apply below_drew1) | exact HB.out)⟩
        · rw [if_neg c13] at H
          have c13b0 : (t116 == 3) = false := by simpa using c13
          (try (have c13b1 : decide (t116 = 3) = false := by simpa using c13))
          (try (have c13b2 : (t116 == 3) = false := by simpa using c13))
          (try (have c13b3 : ¬ (t116 = 3) := by simpa using c13))
          clear c13
          obtain rfl := Option.some.inj H
          go_wp2_with (first | ((with_reducible refine gate_callee (f := 6) rfl ?_); refine goesL_ (some 17) rfl rfl Try.func6 (by kernel_rfl) rfl #[.int .i64 x10_5] rfl (by (try simp only [List.map_toArray, List.map_cons, List.map_nil]); first | done | rfl | (simp only [List.length_drop, List.length_take]; rfl)) ?_; (with_reducible refine (spec_IsWidth.calls x10_5 true _ A8.out).mono ?_); rintro e w' ⟨rfl, ⟨nd, rfl⟩⟩; refine ⟨_, rfl, ?_⟩) | ((with_reducible refine gate_callee (f := 10) rfl ?_); refine goesL_ (some 22) rfl rfl Try.func10 (by kernel_rfl) rfl #[.int .i64 x10_5, .int .u64 a1] rfl (by (try simp only [List.map_toArray, List.map_cons, List.map_nil]); first | done | rfl | (simp only [List.length_drop, List.length_take]; rfl)) ?_; (with_reducible refine (spec_Low.calls x10_5 a1 t118 _ A10.out).mono ?_); rintro e w' ⟨rfl, ⟨nd, rfl⟩⟩; refine ⟨_, rfl, ?_⟩) | ((with_reducible refine gate_callee (f := 10) rfl ?_); refine goesL_ (some 25) rfl rfl Try.func10 (by kernel_rfl) rfl #[.int .i64 x10_5, .int .u64 a2] rfl (by (try simp only [List.map_toArray, List.map_cons, List.map_nil]); first | done | rfl | (simp only [List.length_drop, List.length_take]; rfl)) ?_; (with_reducible refine (spec_Low.calls x10_5 a2 t119 _ A11.out).mono ?_); rintro e w' ⟨rfl, ⟨nd, rfl⟩⟩; refine ⟨_, rfl, ?_⟩) | ((with_reducible refine gate_callee (f := 10) rfl ?_); refine goesL_ (some 28) rfl rfl Try.func10 (by kernel_rfl) rfl #[.int .i64 x10_5, .int .u64 a3] rfl (by (try simp only [List.map_toArray, List.map_cons, List.map_nil]); first | done | rfl | (simp only [List.length_drop, List.length_take]; rfl)) ?_; (with_reducible refine (spec_Low.calls x10_5 a3 t120 _ A12.out).mono ?_); rintro e w' ⟨rfl, ⟨nd, rfl⟩⟩; refine ⟨_, rfl, ?_⟩))
          go_ret
          exact ⟨by first | rfl | (simp [errW_none, errW_some] <;> rfl) | (simp [*, errW_none, errW_some] <;> rfl), by repeat (first | (with_reducible first | exact HB.out | apply below_alloc | apply pw_below_drewN | apply below_drew1) | exact HB.out)⟩
      · replace c9 := Bool.eq_false_iff.mpr c9
        subst c9
        have H1 : (some (t116 == 3)) = some r := by rw [if_neg (show ¬ (false = true) by decide)] at H; exact H
        clear H
        have H := H1
        clear H1
        obtain rfl := Option.some.inj H
        go_wp2_with (first | ((with_reducible refine gate_callee (f := 6) rfl ?_); refine goesL_ (some 17) rfl rfl Try.func6 (by kernel_rfl) rfl #[.int .i64 x10_5] rfl (by (try simp only [List.map_toArray, List.map_cons, List.map_nil]); first | done | rfl | (simp only [List.length_drop, List.length_take]; rfl)) ?_; (with_reducible refine (spec_IsWidth.calls x10_5 false _ A8.out).mono ?_); rintro e w' ⟨rfl, ⟨nd, rfl⟩⟩; refine ⟨_, rfl, ?_⟩))
        go_ret
        exact ⟨by first | rfl | (simp [errW_none, errW_some] <;> rfl) | (simp [*, errW_none, errW_some] <;> rfl), by repeat (first | (with_reducible first | exact HB.out | apply below_alloc | apply pw_below_drewN | apply below_drew1) | exact HB.out)⟩

/-- THE ONE PURE STATEMENT of laws_FnUClamp: yours. -/
def laws_FnUClamp.Pure : Prop := ∀ (a0 : Int) (a1 : Int) (a2 : Int) (a3 : Int), (Lit.int .i64 a0).wf = true → (Lit.int .u64 a1).wf = true → (Lit.int .u64 a2).wf = true → (Lit.int .u64 a3).wf = true → ∃ k, laws_FnUClamp.f k a0 a1 a2 a3 = some true
theorem laws_FnUClamp.walk (P : laws_FnUClamp.Pure) (a0 : Int) (a1 : Int) (a2 : Int) (a3 : Int) (w : World) (w0 : (Lit.int .i64 a0).wf = true) (w1 : (Lit.int .u64 a1).wf = true) (w2 : (Lit.int .u64 a2).wf = true) (w3 : (Lit.int .u64 a3).wf = true) :
    Calls Try.prog 4 #[.int .i64 a0, .int .u64 a1, .int .u64 a2, .int .u64 a3] w fun e w' => e = .returned (.bool true) ∧ Below w.heap.size w w' := by
  obtain ⟨k, h⟩ := P a0 a1 a2 a3 w0 w1 w2 w3
  refine (laws_FnUClamp.calls k a0 a1 a2 a3 true w h).mono ?_
  rintro e w' ⟨rfl, hd⟩
  exact ⟨rfl, hd⟩

end Go.Proofs.Ytfoifemajoebpaa.PFnUClamp
