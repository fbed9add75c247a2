-- PRINTED BY print.sh 35421559b90ae4d0a3588c463048766b98c2df88dd9212a6774a882060cdf62d: not written by this session
import Derived.Test.YtjfefhjnpokcbaaPFnAbsx0
namespace Go.Proofs.Ytjfefhjnpokcbaa.PFnAbs
open Go.RowKit Go.Proofs.YtjfefhjnpokcbaaW.PrintWords Go.Proofs.YtjfefhjnpokcbaaW.PrintLast Go.Proofs.YtjfefhjnpokcbaaW.PrintMore
attribute [local go_sem] max2_int min2_int max_two min_two max_three min_three max_four min_four   -- for this text's walks alone
set_option linter.unusedVariables false
set_option linter.unusedSimpArgs false

/-! ### mathutil_abs: function 45 -/
def mathutil_abs.f (a0 : Int) : Option (Int) := if a0 ≥ 0 then (some (IntKind.u64.wrap (a0))) else (some (IntKind.u64.wrap (wrap64 (-a0))))
set_option maxHeartbeats 8000000 in
set_option maxRecDepth 100000 in
theorem mathutil_abs.calls (a0 : Int) (r : Int) (w : World) (h : mathutil_abs.f a0 = some r) :
    Calls Try.prog 45 #[.int .i64 a0] w fun e w' => e = .returned (.int .u64 r) ∧ Drawn0 w w' := by
  have H : (if a0 ≥ 0 then (some (IntKind.u64.wrap (a0))) else (some (IntKind.u64.wrap (wrap64 (-a0))))) = some r := h
  clear h
  by_cases c2 : a0 ≥ 0
  · rw [if_pos c2] at H
    have c2b0 : decide (0 ≤ a0) = true := decide_eq_true c2
    clear c2
    obtain rfl := Option.some.inj H
    go_enter Try.func45, Try.ntmps45
    go_wp2
    go_ret
    exact ⟨by first | rfl | (simp; done) | (simp [*]; done), by repeat (first | exact Drawn0.refl _ | apply Drawn0.step)⟩
  · rw [if_neg c2] at H
    have c2b0 : decide (0 ≤ a0) = false := decide_eq_false c2
    clear c2
    obtain rfl := Option.some.inj H
    go_enter Try.func45, Try.ntmps45
    go_wp2
    go_ret
    exact ⟨by first | rfl | (simp; done) | (simp [*]; done), by repeat (first | exact Drawn0.refl _ | apply Drawn0.step)⟩

/-! ### mathutil_ZZAbs: function 39 -/
def mathutil_ZZAbs.f (a0 : Int) : Option (Int) := (mathutil_abs.f a0).bind fun t101 => (some t101)
set_option maxHeartbeats 8000000 in
set_option maxRecDepth 100000 in
theorem mathutil_ZZAbs.calls (a0 : Int) (r : Int) (w : World) (h : mathutil_ZZAbs.f a0 = some r) :
    Calls Try.prog 39 #[.int .i64 a0] w fun e w' => e = .returned (.int .u64 r) ∧ Drawn0 w w' := by
  have H : ((mathutil_abs.f a0).bind fun t101 => (some t101)) = some r := h
  clear h
  replace H := Option.bind_eq_some_iff.mp H
  obtain ⟨t101, A20, H⟩ := H
  replace H : (some t101) = some r := H
  have A2 := Aside0.mk A20
  clear A20
  obtain rfl := Option.some.inj H
  go_enter Try.func39, Try.ntmps39
  go_wp2_with (first | ((with_reducible refine gate_callee (f := 45) rfl ?_); refine goesL_ (some 4) rfl rfl Try.func45 (by kernel_rfl) rfl #[.int .i64 a0] rfl (by (try simp only [List.map_toArray, List.map_cons, List.map_nil]); first | done | rfl | (simp only [List.length_drop, List.length_take]; rfl)) ?_; (with_reducible refine (mathutil_abs.calls a0 t101 _ A2.out).mono ?_); rintro e w' ⟨rfl, ⟨nd, rfl⟩⟩; refine ⟨_, rfl, ?_⟩))
  go_ret
  exact ⟨by first | rfl | (simp; done) | (simp [*]; done), by repeat (first | exact Drawn0.refl _ | apply Drawn0.step)⟩

/-! ### impl_Abs: function 25 -/
def impl_Abs.f (a0 : Int) : Option (Int) := (mathutil_ZZAbs.f a0).bind fun t102 => (some t102)
set_option maxHeartbeats 8000000 in
set_option maxRecDepth 100000 in
theorem impl_Abs.calls (a0 : Int) (r : Int) (w : World) (h : impl_Abs.f a0 = some r) :
    Calls Try.prog 25 #[.int .i64 a0] w fun e w' => e = .returned (.int .u64 r) ∧ Drawn0 w w' := by
  have H : ((mathutil_ZZAbs.f a0).bind fun t102 => (some t102)) = some r := h
  clear h
  replace H := Option.bind_eq_some_iff.mp H
  obtain ⟨t102, A20, H⟩ := H
  replace H : (some t102) = some r := H
  have A2 := Aside0.mk A20
  clear A20
  obtain rfl := Option.some.inj H
  go_enter Try.func25, Try.ntmps25
  go_wp2_with (first | ((with_reducible refine gate_callee (f := 39) rfl ?_); refine goesL_ (some 4) rfl rfl Try.func39 (by kernel_rfl) rfl #[.int .i64 a0] rfl (by (try simp only [List.map_toArray, List.map_cons, List.map_nil]); first | done | rfl | (simp only [List.length_drop, List.length_take]; rfl)) ?_; (with_reducible refine (mathutil_ZZAbs.calls a0 t102 _ A2.out).mono ?_); rintro e w' ⟨rfl, ⟨nd, rfl⟩⟩; refine ⟨_, rfl, ?_⟩))
  go_ret
  exact ⟨by first | rfl | (simp; done) | (simp [*]; done), by repeat (first | exact Drawn0.refl _ | apply Drawn0.step)⟩

/-! ### laws_FnAbs: function 7 -/
def laws_FnAbs.f (a0 : Int) : Option (Bool) := (impl_Abs.f a0).bind fun t103 => ((impl_Abs.f (-3)).bind fun t104 => (if t104 = 3 then (if t103 = (IntKind.u64.wrap (a0)) then (some (decide (t103 ≤ 9223372036854775808))) else (if t103 = (IntKind.u64.wrap (-(IntKind.u64.wrap (a0)))) then (some (decide (t103 ≤ 9223372036854775808))) else (some false))) else (some false)))
set_option maxHeartbeats 8000000 in
set_option maxRecDepth 100000 in
theorem laws_FnAbs.calls (a0 : Int) (r : Bool) (w : World) (h : laws_FnAbs.f a0 = some r) :
    Calls Try.prog 7 #[.int .i64 a0] w fun e w' => e = .returned (.bool r) ∧ Drawn0 w w' := by
  have H : ((impl_Abs.f a0).bind fun t103 => ((impl_Abs.f (-3)).bind fun t104 => (if t104 = 3 then (if t103 = (IntKind.u64.wrap (a0)) then (some (decide (t103 ≤ 9223372036854775808))) else (if t103 = (IntKind.u64.wrap (-(IntKind.u64.wrap (a0)))) then (some (decide (t103 ≤ 9223372036854775808))) else (some false))) else (some false)))) = some r := h
  clear h
  replace H := Option.bind_eq_some_iff.mp H
  obtain ⟨t103, A20, H⟩ := H
  replace H : ((impl_Abs.f (-3)).bind fun t104 => (if t104 = 3 then (if t103 = (IntKind.u64.wrap (a0)) then (some (decide (t103 ≤ 9223372036854775808))) else (if t103 = (IntKind.u64.wrap (-(IntKind.u64.wrap (a0)))) then (some (decide (t103 ≤ 9223372036854775808))) else (some false))) else (some false))) = some r := H
  have A2 := Aside0.mk A20
  clear A20
  replace H := Option.bind_eq_some_iff.mp H
  obtain ⟨t104, A30, H⟩ := H
  replace H : (if t104 = 3 then (if t103 = (IntKind.u64.wrap (a0)) then (some (decide (t103 ≤ 9223372036854775808))) else (if t103 = (IntKind.u64.wrap (-(IntKind.u64.wrap (a0)))) then (some (decide (t103 ≤ 9223372036854775808))) else (some false))) else (some false)) = some r := H
  have A3 := Aside0.mk A30
  clear A30
  by_cases c4 : t104 = 3
  · rw [if_pos c4] at H
    have c4b0 : (t104 == 3) = true := beq_iff_eq.mpr c4
    have c4b1 : (t104 != 3) = false := bne_eq_false_iff_eq.mpr c4
    clear c4
    by_cases c5 : t103 = (IntKind.u64.wrap (a0))
    · rw [if_pos c5] at H
      have c5b0 : (t103 == (IntKind.u64.wrap (a0))) = true := beq_iff_eq.mpr c5
      have c5b1 : (t103 != (IntKind.u64.wrap (a0))) = false := bne_eq_false_iff_eq.mpr c5
      clear c5
      obtain rfl := Option.some.inj H
      go_enter Try.func7, Try.ntmps7
      go_wp2_with (first | ((with_reducible refine gate_callee (f := 25) rfl ?_); refine goesL_ (some 5) rfl rfl Try.func25 (by kernel_rfl) rfl #[.int .i64 a0] rfl (by (try simp only [List.map_toArray, List.map_cons, List.map_nil]); first | done | rfl | (simp only [List.length_drop, List.length_take]; rfl)) ?_; (with_reducible refine (impl_Abs.calls a0 t103 _ A2.out).mono ?_); rintro e w' ⟨rfl, ⟨nd, rfl⟩⟩; refine ⟨_, rfl, ?_⟩) | ((with_reducible refine gate_callee (f := 25) rfl ?_); refine goesL_ (some 6) rfl rfl Try.func25 (by kernel_rfl) rfl #[.int .i64 (-3)] rfl (by (try simp only [List.map_toArray, List.map_cons, List.map_nil]); first | done | rfl | (simp only [List.length_drop, List.length_take]; rfl)) ?_; (with_reducible refine (impl_Abs.calls (-3) t104 _ A3.out).mono ?_); rintro e w' ⟨rfl, ⟨nd, rfl⟩⟩; refine ⟨_, rfl, ?_⟩))
      go_ret
      exact ⟨by first | rfl | (simp; done) | (simp [*]; done), by repeat (first | exact Drawn0.refl _ | apply Drawn0.step)⟩
    · rw [if_neg c5] at H
      have c5b0 : (t103 == (IntKind.u64.wrap (a0))) = false := beq_eq_false_iff_ne.mpr c5
      have c5b1 : (t103 != (IntKind.u64.wrap (a0))) = true := bne_iff_ne.mpr c5
      by_cases c6 : t103 = (IntKind.u64.wrap (-(IntKind.u64.wrap (a0))))
      · rw [if_pos c6] at H
        have c6b0 : (t103 == (IntKind.u64.wrap (-(IntKind.u64.wrap (a0))))) = true := beq_iff_eq.mpr c6
        have c6b1 : (t103 != (IntKind.u64.wrap (-(IntKind.u64.wrap (a0))))) = false := bne_eq_false_iff_eq.mpr c6
        clear c6
        obtain rfl := Option.some.inj H
        go_enter Try.func7, Try.ntmps7
        go_wp2_with (first | ((with_reducible refine gate_callee (f := 25) rfl ?_); refine goesL_ (some 5) rfl rfl Try.func25 (by kernel_rfl) rfl #[.int .i64 a0] rfl (by (try simp only [List.map_toArray, List.map_cons, List.map_nil]); first | done | rfl | (simp only [List.length_drop, List.length_take]; rfl)) ?_; (with_reducible refine (impl_Abs.calls a0 t103 _ A2.out).mono ?_); rintro e w' ⟨rfl, ⟨nd, rfl⟩⟩; refine ⟨_, rfl, ?_⟩) | ((with_reducible refine gate_callee (f := 25) rfl ?_); refine goesL_ (some 6) rfl rfl Try.func25 (by kernel_rfl) rfl #[.int .i64 (-3)] rfl (by (try simp only [List.map_toArray, List.map_cons, List.map_nil]); first | done | rfl | (simp only [List.length_drop, List.length_take]; rfl)) ?_; (with_reducible refine (impl_Abs.calls (-3) t104 _ A3.out).mono ?_); rintro e w' ⟨rfl, ⟨nd, rfl⟩⟩; refine ⟨_, rfl, ?_⟩))
        go_ret
        exact ⟨by first | rfl | (simp; done) | (simp [*]; done), by repeat (first | exact Drawn0.refl _ | apply Drawn0.step)⟩
      · rw [if_neg c6] at H
        have c6b0 : (t103 == (IntKind.u64.wrap (-(IntKind.u64.wrap (a0))))) = false := beq_eq_false_iff_ne.mpr c6
        have c6b1 : (t103 != (IntKind.u64.wrap (-(IntKind.u64.wrap (a0))))) = true := bne_iff_ne.mpr c6
        obtain rfl := Option.some.inj H
        go_enter Try.func7, Try.ntmps7
        go_wp2_with (first | ((with_reducible refine gate_callee (f := 25) rfl ?_); refine goesL_ (some 5) rfl rfl Try.func25 (by kernel_rfl) rfl #[.int .i64 a0] rfl (by (try simp only [List.map_toArray, List.map_cons, List.map_nil]); first | done | rfl | (simp only [List.length_drop, List.length_take]; rfl)) ?_; (with_reducible refine (impl_Abs.calls a0 t103 _ A2.out).mono ?_); rintro e w' ⟨rfl, ⟨nd, rfl⟩⟩; refine ⟨_, rfl, ?_⟩) | ((with_reducible refine gate_callee (f := 25) rfl ?_); refine goesL_ (some 6) rfl rfl Try.func25 (by kernel_rfl) rfl #[.int .i64 (-3)] rfl (by (try simp only [List.map_toArray, List.map_cons, List.map_nil]); first | done | rfl | (simp only [List.length_drop, List.length_take]; rfl)) ?_; (with_reducible refine (impl_Abs.calls (-3) t104 _ A3.out).mono ?_); rintro e w' ⟨rfl, ⟨nd, rfl⟩⟩; refine ⟨_, rfl, ?_⟩))
        go_ret
        exact ⟨by first | rfl | (simp; done) | (simp [*]; done), by repeat (first | exact Drawn0.refl _ | apply Drawn0.step)⟩
  · rw [if_neg c4] at H
    have c4b0 : (t104 == 3) = false := beq_eq_false_iff_ne.mpr c4
    have c4b1 : (t104 != 3) = true := bne_iff_ne.mpr c4
    obtain rfl := Option.some.inj H
    go_enter Try.func7, Try.ntmps7
    go_wp2_with (first | ((with_reducible refine gate_callee (f := 25) rfl ?_); refine goesL_ (some 5) rfl rfl Try.func25 (by kernel_rfl) rfl #[.int .i64 a0] rfl (by (try simp only [List.map_toArray, List.map_cons, List.map_nil]); first | done | rfl | (simp only [List.length_drop, List.length_take]; rfl)) ?_; (with_reducible refine (impl_Abs.calls a0 t103 _ A2.out).mono ?_); rintro e w' ⟨rfl, ⟨nd, rfl⟩⟩; refine ⟨_, rfl, ?_⟩) | ((with_reducible refine gate_callee (f := 25) rfl ?_); refine goesL_ (some 6) rfl rfl Try.func25 (by kernel_rfl) rfl #[.int .i64 (-3)] rfl (by (try simp only [List.map_toArray, List.map_cons, List.map_nil]); first | done | rfl | (simp only [List.length_drop, List.length_take]; rfl)) ?_; (with_reducible refine (impl_Abs.calls (-3) t104 _ A3.out).mono ?_); rintro e w' ⟨rfl, ⟨nd, rfl⟩⟩; refine ⟨_, rfl, ?_⟩))
    go_ret
    exact ⟨by first | rfl | (simp; done) | (simp [*]; done), by repeat (first | exact Drawn0.refl _ | apply Drawn0.step)⟩

/-- THE ONE PURE STATEMENT of laws_FnAbs: yours. -/
def laws_FnAbs.Pure : Prop := ∀ (a0 : Int), (Lit.int .i64 a0).wf = true → laws_FnAbs.f a0 = some true
theorem laws_FnAbs.walk (P : laws_FnAbs.Pure) (a0 : Int) (w : World) (w0 : (Lit.int .i64 a0).wf = true) :
    Calls Try.prog 7 #[.int .i64 a0] w fun e w' => e = .returned (.bool true) ∧ Below w.heap.size w w' := by
  have h := P a0 w0
  refine (laws_FnAbs.calls a0 true w h).mono ?_
  rintro e w' ⟨rfl, hd⟩
  exact ⟨rfl, hd.below⟩

end Go.Proofs.Ytjfefhjnpokcbaa.PFnAbs
