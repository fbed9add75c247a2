-- PRINTED BY print.sh 35421559b90ae4d0a3588c463048766b98c2df88dd9212a6774a882060cdf62d: not written by this session
import Derived.Test.YtjfefhjnpokcbaaPFnPlus128x0
namespace Go.Proofs.Ytjfefhjnpokcbaa.PFnPlus128
open Go.RowKit Go.Proofs.YtjfefhjnpokcbaaW.PrintWords Go.Proofs.YtjfefhjnpokcbaaW.PrintLast Go.Proofs.YtjfefhjnpokcbaaW.PrintMore
attribute [local go_sem] max2_int min2_int max_two min_two max_three min_three max_four min_four   -- for this text's walks alone
set_option linter.unusedVariables false
set_option linter.unusedSimpArgs false

/-! ### mathutil_AddUint128_64: function 38 -/
def mathutil_AddUint128_64.f (a0 : Int) (a1 : Int) : Option (Int × Int) := if (IntKind.u64.wrap (a0 + a1)) < a0 then (some (1, IntKind.u64.wrap (a0 + a1))) else (some (0, IntKind.u64.wrap (a0 + a1)))
set_option maxHeartbeats 8000000 in
set_option maxRecDepth 100000 in
theorem mathutil_AddUint128_64.calls (a0 : Int) (a1 : Int) (r1 : Int) (r2 : Int) (w : World) (h : mathutil_AddUint128_64.f a0 a1 = some (r1, r2)) :
    Calls Try.prog 38 #[.int .u64 a0, .int .u64 a1] w fun e w' => e = .returned (.tuple #[.int .u64 r1, .int .u64 r2]) ∧ Drawn0 w w' := by
  have H : (if (IntKind.u64.wrap (a0 + a1)) < a0 then (some (1, IntKind.u64.wrap (a0 + a1))) else (some (0, IntKind.u64.wrap (a0 + a1)))) = some (r1, r2) := h
  clear h
  by_cases c3 : (IntKind.u64.wrap (a0 + a1)) < a0
  · rw [if_pos c3] at H
    have c3b0 : decide ((IntKind.u64.wrap (a0 + a1)) < a0) = true := decide_eq_true c3
    clear c3
    simp only [Option.some.injEq, Prod.mk.injEq] at H
    obtain ⟨rfl, rfl⟩ := H
    go_enter Try.func38, Try.ntmps38
    go_wp2
    go_ret2
    exact ⟨by first | rfl | (simp; done) | (simp [*]; done), by repeat (first | exact Drawn0.refl _ | apply Drawn0.step)⟩
  · rw [if_neg c3] at H
    have c3b0 : decide ((IntKind.u64.wrap (a0 + a1)) < a0) = false := decide_eq_false c3
    clear c3
    simp only [Option.some.injEq, Prod.mk.injEq] at H
    obtain ⟨rfl, rfl⟩ := H
    go_enter Try.func38, Try.ntmps38
    go_wp2
    go_ret2
    exact ⟨by first | rfl | (simp; done) | (simp [*]; done), by repeat (first | exact Drawn0.refl _ | apply Drawn0.step)⟩

/-! ### impl_AddUint128: function 23 -/
def impl_AddUint128.f (a0 : Int) (a1 : Int) : Option (Int × Int) := (mathutil_AddUint128_64.f a0 a1).bind fun bt101 => (some (bt101.1, bt101.2))
set_option maxHeartbeats 8000000 in
set_option maxRecDepth 100000 in
theorem impl_AddUint128.calls (a0 : Int) (a1 : Int) (r1 : Int) (r2 : Int) (w : World) (h : impl_AddUint128.f a0 a1 = some (r1, r2)) :
    Calls Try.prog 23 #[.int .u64 a0, .int .u64 a1] w fun e w' => e = .returned (.tuple #[.int .u64 r1, .int .u64 r2]) ∧ Drawn0 w w' := by
  have H : ((mathutil_AddUint128_64.f a0 a1).bind fun bt101 => (some (bt101.1, bt101.2))) = some (r1, r2) := h
  clear h
  replace H := Option.bind_eq_some_iff.mp H
  obtain ⟨⟨t101, t102⟩, A30, H⟩ := H
  replace H : (some (t101, t102)) = some (r1, r2) := H
  have A3 := Aside0.mk A30
  clear A30
  simp only [Option.some.injEq, Prod.mk.injEq] at H
  obtain ⟨rfl, rfl⟩ := H
  go_enter Try.func23, Try.ntmps23
  go_wp2_with (first | ((with_reducible refine gate_callee (f := 38) rfl ?_); refine goesL_ (some 8) rfl rfl Try.func38 (by kernel_rfl) rfl #[.int .u64 a0, .int .u64 a1] rfl (by (try simp only [List.map_toArray, List.map_cons, List.map_nil]); first | done | rfl | (simp only [List.length_drop, List.length_take]; rfl)) ?_; (with_reducible refine (mathutil_AddUint128_64.calls a0 a1 t101 t102 _ A3.out).mono ?_); rintro e w' ⟨rfl, ⟨nd, rfl⟩⟩; refine ⟨_, rfl, ?_⟩))
  go_ret2
  exact ⟨by first | rfl | (simp; done) | (simp [*]; done), by repeat (first | exact Drawn0.refl _ | apply Drawn0.step)⟩

/-! ### spec_Plus: function 24 -/
def spec_Plus.f (a0 : Int) (a1 : Int) : Option (Int × Int) := if (IntKind.u64.wrap (a0 + a1)) < a0 then (some (1, IntKind.u64.wrap (a0 + a1))) else (some (0, IntKind.u64.wrap (a0 + a1)))
set_option maxHeartbeats 8000000 in
set_option maxRecDepth 100000 in
theorem spec_Plus.calls (a0 : Int) (a1 : Int) (r1 : Int) (r2 : Int) (w : World) (h : spec_Plus.f a0 a1 = some (r1, r2)) :
    Calls Try.prog 24 #[.int .u64 a0, .int .u64 a1] w fun e w' => e = .returned (.tuple #[.int .u64 r1, .int .u64 r2]) ∧ Drawn0 w w' := by
  have H : (if (IntKind.u64.wrap (a0 + a1)) < a0 then (some (1, IntKind.u64.wrap (a0 + a1))) else (some (0, IntKind.u64.wrap (a0 + a1)))) = some (r1, r2) := h
  clear h
  by_cases c3 : (IntKind.u64.wrap (a0 + a1)) < a0
  · rw [if_pos c3] at H
    have c3b0 : decide ((IntKind.u64.wrap (a0 + a1)) < a0) = true := decide_eq_true c3
    clear c3
    simp only [Option.some.injEq, Prod.mk.injEq] at H
    obtain ⟨rfl, rfl⟩ := H
    go_enter Try.func24, Try.ntmps24
    go_wp2
    go_ret2
    exact ⟨by first | rfl | (simp; done) | (simp [*]; done), by repeat (first | exact Drawn0.refl _ | apply Drawn0.step)⟩
  · rw [if_neg c3] at H
    have c3b0 : decide ((IntKind.u64.wrap (a0 + a1)) < a0) = false := decide_eq_false c3
    clear c3
    simp only [Option.some.injEq, Prod.mk.injEq] at H
    obtain ⟨rfl, rfl⟩ := H
    go_enter Try.func24, Try.ntmps24
    go_wp2
    go_ret2
    exact ⟨by first | rfl | (simp; done) | (simp [*]; done), by repeat (first | exact Drawn0.refl _ | apply Drawn0.step)⟩

/-! ### laws_FnPlus128: function 6 -/
def laws_FnPlus128.f (a0 : Int) (a1 : Int) : Option (Bool) := (impl_AddUint128.f a0 a1).bind fun bt103 => ((impl_AddUint128.f 2 3).bind fun bt105 => ((spec_Plus.f a0 a1).bind fun bt107 => (if bt105.2 = 5 then (if bt103.1 = bt107.1 then (some (bt103.2 == bt107.2)) else (some false)) else (some false))))
set_option maxHeartbeats 8000000 in
set_option maxRecDepth 100000 in
theorem laws_FnPlus128.calls (a0 : Int) (a1 : Int) (r : Bool) (w : World) (h : laws_FnPlus128.f a0 a1 = some r) :
    Calls Try.prog 6 #[.int .u64 a0, .int .u64 a1] w fun e w' => e = .returned (.bool r) ∧ Drawn0 w w' := by
  have H : ((impl_AddUint128.f a0 a1).bind fun bt103 => ((impl_AddUint128.f 2 3).bind fun bt105 => ((spec_Plus.f a0 a1).bind fun bt107 => (if bt105.2 = 5 then (if bt103.1 = bt107.1 then (some (bt103.2 == bt107.2)) else (some false)) else (some false))))) = some r := h
  clear h
  replace H := Option.bind_eq_some_iff.mp H
  obtain ⟨⟨t103, t104⟩, A30, H⟩ := H
  replace H : ((impl_AddUint128.f 2 3).bind fun bt105 => ((spec_Plus.f a0 a1).bind fun bt107 => (if bt105.2 = 5 then (if t103 = bt107.1 then (some (t104 == bt107.2)) else (some false)) else (some false)))) = some r := H
  have A3 := Aside0.mk A30
  clear A30
  replace H := Option.bind_eq_some_iff.mp H
  obtain ⟨⟨t105, t106⟩, A40, H⟩ := H
  replace H : ((spec_Plus.f a0 a1).bind fun bt107 => (if t106 = 5 then (if t103 = bt107.1 then (some (t104 == bt107.2)) else (some false)) else (some false))) = some r := H
  have A4 := Aside0.mk A40
  clear A40
  replace H := Option.bind_eq_some_iff.mp H
  obtain ⟨⟨t107, t108⟩, A50, H⟩ := H
  replace H : (if t106 = 5 then (if t103 = t107 then (some (t104 == t108)) else (some false)) else (some false)) = some r := H
  have A5 := Aside0.mk A50
  clear A50
  by_cases c6 : t106 = 5
  · rw [if_pos c6] at H
    have c6b0 : (t106 == 5) = true := beq_iff_eq.mpr c6
    have c6b1 : (t106 != 5) = false := bne_eq_false_iff_eq.mpr c6
    clear c6
    by_cases c7 : t103 = t107
    · rw [if_pos c7] at H
      have c7b0 : (t103 == t107) = true := beq_iff_eq.mpr c7
      have c7b1 : (t103 != t107) = false := bne_eq_false_iff_eq.mpr c7
      clear c7
      obtain rfl := Option.some.inj H
      go_enter Try.func6, Try.ntmps6
      go_wp2_with (first | ((with_reducible refine gate_callee (f := 23) rfl ?_); refine goesL_ (some 14) rfl rfl Try.func23 (by kernel_rfl) rfl #[.int .u64 a0, .int .u64 a1] rfl (by (try simp only [List.map_toArray, List.map_cons, List.map_nil]); first | done | rfl | (simp only [List.length_drop, List.length_take]; rfl)) ?_; (with_reducible refine (impl_AddUint128.calls a0 a1 t103 t104 _ A3.out).mono ?_); rintro e w' ⟨rfl, ⟨nd, rfl⟩⟩; refine ⟨_, rfl, ?_⟩) | ((with_reducible refine gate_callee (f := 23) rfl ?_); refine goesL_ (some 18) rfl rfl Try.func23 (by kernel_rfl) rfl #[.int .u64 2, .int .u64 3] rfl (by (try simp only [List.map_toArray, List.map_cons, List.map_nil]); first | done | rfl | (simp only [List.length_drop, List.length_take]; rfl)) ?_; (with_reducible refine (impl_AddUint128.calls 2 3 t105 t106 _ A4.out).mono ?_); rintro e w' ⟨rfl, ⟨nd, rfl⟩⟩; refine ⟨_, rfl, ?_⟩) | ((with_reducible refine gate_callee (f := 24) rfl ?_); refine goesL_ (some 24) rfl rfl Try.func24 (by kernel_rfl) rfl #[.int .u64 a0, .int .u64 a1] rfl (by (try simp only [List.map_toArray, List.map_cons, List.map_nil]); first | done | rfl | (simp only [List.length_drop, List.length_take]; rfl)) ?_; (with_reducible refine (spec_Plus.calls a0 a1 t107 t108 _ A5.out).mono ?_); rintro e w' ⟨rfl, ⟨nd, rfl⟩⟩; refine ⟨_, rfl, ?_⟩))
      go_ret
      exact ⟨by first | rfl | (simp; done) | (simp [*]; done), by repeat (first | exact Drawn0.refl _ | apply Drawn0.step)⟩
    · rw [if_neg c7] at H
      have c7b0 : (t103 == t107) = false := beq_eq_false_iff_ne.mpr c7
      have c7b1 : (t103 != t107) = true := bne_iff_ne.mpr c7
      obtain rfl := Option.some.inj H
      go_enter Try.func6, Try.ntmps6
      go_wp2_with (first | ((with_reducible refine gate_callee (f := 23) rfl ?_); refine goesL_ (some 14) rfl rfl Try.func23 (by kernel_rfl) rfl #[.int .u64 a0, .int .u64 a1] rfl (by (try simp only [List.map_toArray, List.map_cons, List.map_nil]); first | done | rfl | (simp only [List.length_drop, List.length_take]; rfl)) ?_; (with_reducible refine (impl_AddUint128.calls a0 a1 t103 t104 _ A3.out).mono ?_); rintro e w' ⟨rfl, ⟨nd, rfl⟩⟩; refine ⟨_, rfl, ?_⟩) | ((with_reducible refine gate_callee (f := 23) rfl ?_); refine goesL_ (some 18) rfl rfl Try.func23 (by kernel_rfl) rfl #[.int .u64 2, .int .u64 3] rfl (by (try simp only [List.map_toArray, List.map_cons, List.map_nil]); first | done | rfl | (simp only [List.length_drop, List.length_take]; rfl)) ?_; (with_reducible refine (impl_AddUint128.calls 2 3 t105 t106 _ A4.out).mono ?_); rintro e w' ⟨rfl, ⟨nd, rfl⟩⟩; refine ⟨_, rfl, ?_⟩) | ((with_reducible refine gate_callee (f := 24) rfl ?_); refine goesL_ (some 24) rfl rfl Try.func24 (by kernel_rfl) rfl #[.int .u64 a0, .int .u64 a1] rfl (by (try simp only [List.map_toArray, List.map_cons, List.map_nil]); first | done | rfl | (simp only [List.length_drop, List.length_take]; rfl)) ?_; (with_reducible refine (spec_Plus.calls a0 a1 t107 t108 _ A5.out).mono ?_); rintro e w' ⟨rfl, ⟨nd, rfl⟩⟩; refine ⟨_, rfl, ?_⟩))
      go_ret
      exact ⟨by first | rfl | (simp; done) | (simp [*]; done), by repeat (first | exact Drawn0.refl _ | apply Drawn0.step)⟩
  · rw [if_neg c6] at H
    have c6b0 : (t106 == 5) = false := beq_eq_false_iff_ne.mpr c6
    have c6b1 : (t106 != 5) = true := bne_iff_ne.mpr c6
    obtain rfl := Option.some.inj H
    go_enter Try.func6, Try.ntmps6
    go_wp2_with (first | ((with_reducible refine gate_callee (f := 23) rfl ?_); refine goesL_ (some 14) rfl rfl Try.func23 (by kernel_rfl) rfl #[.int .u64 a0, .int .u64 a1] rfl (by (try simp only [List.map_toArray, List.map_cons, List.map_nil]); first | done | rfl | (simp only [List.length_drop, List.length_take]; rfl)) ?_; (with_reducible refine (impl_AddUint128.calls a0 a1 t103 t104 _ A3.out).mono ?_); rintro e w' ⟨rfl, ⟨nd, rfl⟩⟩; refine ⟨_, rfl, ?_⟩) | ((with_reducible refine gate_callee (f := 23) rfl ?_); refine goesL_ (some 18) rfl rfl Try.func23 (by kernel_rfl) rfl #[.int .u64 2, .int .u64 3] rfl (by (try simp only [List.map_toArray, List.map_cons, List.map_nil]); first | done | rfl | (simp only [List.length_drop, List.length_take]; rfl)) ?_; (with_reducible refine (impl_AddUint128.calls 2 3 t105 t106 _ A4.out).mono ?_); rintro e w' ⟨rfl, ⟨nd, rfl⟩⟩; refine ⟨_, rfl, ?_⟩) | ((with_reducible refine gate_callee (f := 24) rfl ?_); refine goesL_ (some 24) rfl rfl Try.func24 (by kernel_rfl) rfl #[.int .u64 a0, .int .u64 a1] rfl (by (try simp only [List.map_toArray, List.map_cons, List.map_nil]); first | done | rfl | (simp only [List.length_drop, List.length_take]; rfl)) ?_; (with_reducible refine (spec_Plus.calls a0 a1 t107 t108 _ A5.out).mono ?_); rintro e w' ⟨rfl, ⟨nd, rfl⟩⟩; refine ⟨_, rfl, ?_⟩))
    go_ret
    exact ⟨by first | rfl | (simp; done) | (simp [*]; done), by repeat (first | exact Drawn0.refl _ | apply Drawn0.step)⟩

/-- THE ONE PURE STATEMENT of laws_FnPlus128: yours. -/
def laws_FnPlus128.Pure : Prop := ∀ (a0 : Int) (a1 : Int), (Lit.int .u64 a0).wf = true → (Lit.int .u64 a1).wf = true → laws_FnPlus128.f a0 a1 = some true
theorem laws_FnPlus128.walk (P : laws_FnPlus128.Pure) (a0 : Int) (a1 : Int) (w : World) (w0 : (Lit.int .u64 a0).wf = true) (w1 : (Lit.int .u64 a1).wf = true) :
    Calls Try.prog 6 #[.int .u64 a0, .int .u64 a1] w fun e w' => e = .returned (.bool true) ∧ Below w.heap.size w w' := by
  have h := P a0 a1 w0 w1
  refine (laws_FnPlus128.calls a0 a1 true w h).mono ?_
  rintro e w' ⟨rfl, hd⟩
  exact ⟨rfl, hd.below⟩

end Go.Proofs.Ytjfefhjnpokcbaa.PFnPlus128
