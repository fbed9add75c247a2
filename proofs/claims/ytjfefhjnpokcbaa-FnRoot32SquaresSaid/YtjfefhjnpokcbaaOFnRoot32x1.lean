/- The functions that the law 'FnRoot32' reaches, each with its contract. -/
import Derived.Test.YtjfefhjnpokcbaaOFnRoot32x0
namespace Go.Proofs.Ytjfefhjnpokcbaa.PFnRoot32
open Go.RowKit Go.Proofs.YtjfefhjnpokcbaaW.PrintWords Go.Proofs.YtjfefhjnpokcbaaW.PrintLast Go.Proofs.YtjfefhjnpokcbaaW.PrintMore
attribute [local go_sem] max2_int min2_int max_two min_two max_three min_three max_four min_four   -- for this text's walks alone
set_option linter.unusedVariables false
set_option linter.unusedSimpArgs false

/-! ### mathutil_ISqrt: function 42 -/
def mathutil_ISqrt.l0 : Nat → Int → Int → Int → Option (Int)
  | 0, _, _, _ => none
  | k + 1, x0, x2, x3 => if x2 = 0 then (none) else (if (((x2 + (Int.tdiv x0 x2)) % 4294967296) / 2) = x2 then (some x2) else (if (((x2 + (Int.tdiv x0 x2)) % 4294967296) / 2) = x3 then (some x2) else (mathutil_ISqrt.l0 k x0 (((x2 + (Int.tdiv x0 x2)) % 4294967296) / 2) x2)))
def mathutil_ISqrt.f (k : Nat) (a0 : Int) : Option (Int) := if a0 = 0 then (some 0) else (if a0 ≥ 4294836225 then (some 65535) else (mathutil_ISqrt.l0 k a0 a0 0))
theorem mathutil_ISqrt.mono_l : ∀ k, (∀ y0 y1 y2, LeO (mathutil_ISqrt.l0 k y0 y1 y2) (mathutil_ISqrt.l0 (k + 1) y0 y1 y2))
  | 0 => fun _ _ _ r h => by simp [mathutil_ISqrt.l0] at h
  | k + 1 => by
    have ih0 := mathutil_ISqrt.mono_l k
    · intro y0 y1 y2
      unfold mathutil_ISqrt.l0
      repeat' first
      | (with_reducible exact ih0 _ _ _)
      | (with_reducible exact LeO.refl _)
      | (with_reducible exact LeO.none _)
      | (with_reducible refine LeO.ite ?_ ?_)
      | (with_reducible refine LeO.bind ?_ (fun _ => ?_))
      | exact ih0 _ _ _
      | exact LeO.none _
      | refine LeO.ite ?_ ?_
      | refine LeO.bind ?_ (fun _ => ?_)
theorem mathutil_ISqrt.mono : ∀ a0 k, LeO (mathutil_ISqrt.f k a0) (mathutil_ISqrt.f (k + 1) a0) := by
  intro a0 k
  have ih0 := mathutil_ISqrt.mono_l k
  unfold mathutil_ISqrt.f
  repeat' first
      | (with_reducible exact ih0 _ _ _)
      | (with_reducible exact LeO.refl _)
      | (with_reducible exact LeO.none _)
      | (with_reducible refine LeO.ite ?_ ?_)
      | (with_reducible refine LeO.bind ?_ (fun _ => ?_))
      | exact ih0 _ _ _
      | exact LeO.none _
      | refine LeO.ite ?_ ?_
      | refine LeO.bind ?_ (fun _ => ?_)
set_option maxHeartbeats 8000000 in
set_option maxRecDepth 100000 in
theorem mathutil_ISqrt.calls (k : Nat) (a0 : Int) (r : Int) (w : World) (h : mathutil_ISqrt.f k a0 = some r) :
    Calls Try.prog 42 #[.int .u32 a0] w fun e w' => e = .returned (.int .u32 r) ∧ Drawn0 w w' := by
  have H : (if a0 = 0 then (some 0) else (if a0 ≥ 4294836225 then (some 65535) else (mathutil_ISqrt.l0 k a0 a0 0))) = some r := h
  clear h
  by_cases c2 : a0 = 0
  · rw [if_pos c2] at H
    have c2b0 : (a0 == 0) = true := beq_iff_eq.mpr c2
    have c2b1 : (a0 != 0) = false := bne_eq_false_iff_eq.mpr c2
    clear c2
    obtain rfl := Option.some.inj H
    go_enter Try.func42, Try.ntmps42
    go_wp2
    go_ret
    exact ⟨by first | rfl | (simp; done) | (simp [*]; done), by repeat (first | exact Drawn0.refl _ | apply Drawn0.step)⟩
  · rw [if_neg c2] at H
    have c2b0 : (a0 == 0) = false := beq_eq_false_iff_ne.mpr c2
    have c2b1 : (a0 != 0) = true := bne_iff_ne.mpr c2
    by_cases c3 : a0 ≥ 4294836225
    · rw [if_pos c3] at H
      have c3b0 : decide (4294836225 ≤ a0) = true := decide_eq_true c3
      clear c3
      obtain rfl := Option.some.inj H
      go_enter Try.func42, Try.ntmps42
      go_wp2
      go_ret
      exact ⟨by first | rfl | (simp; done) | (simp [*]; done), by repeat (first | exact Drawn0.refl _ | apply Drawn0.step)⟩
    · rw [if_neg c3] at H
      have c3b0 : decide (4294836225 ≤ a0) = false := decide_eq_false c3
      clear c3
      have H' := Aside0.mk H
      clear H
      go_enter Try.func42, Try.ntmps42
      go_wp2
      go_loopg [2, 3] k (fun kq v2 v3 w' => ∃ (x2_1 : Int) (x3_1 : Int), v2 = .int .u32 x2_1 ∧ v3 = .int .u32 x3_1 ∧ Aside0 (mathutil_ISqrt.l0 kq a0 x2_1 x3_1 = some r) ∧ Aside0 (kq ≤ k) ∧ Drawn0 w w')
      case atStart => exact ⟨(a0), (0), (by first | rfl | (simp; done) | (simp [*]; done)), (by first | rfl | (simp; done) | (simp [*]; done)), H', ⟨Nat.le_refl _⟩, by repeat (first | exact Drawn0.refl _ | apply Drawn0.step)⟩
      case round =>
        clear H'
        try clear c2
        try clear c2b0
        try clear c2b1
        try clear p2
        try clear c3
        try clear c3b0
        obtain ⟨x2_1, x3_1, rfl, rfl, HA, HK1, ⟨m1, rfl⟩⟩ := hrel
        cases gk with
        | zero => exact absurd HA.out (by simp [mathutil_ISqrt.l0])
        | succ k1 =>
          have H := HA.out
          clear HA
          simp only [mathutil_ISqrt.l0] at H
          by_cases c4 : x2_1 = 0
          · rw [if_pos c4] at H
            exact absurd H (by simp)
          · rw [if_neg c4] at H
            have c4b0 : (x2_1 == 0) = false := beq_eq_false_iff_ne.mpr c4
            have c4b1 : (x2_1 != 0) = true := bne_iff_ne.mpr c4
            by_cases c5 : (((x2_1 + (Int.tdiv a0 x2_1)) % 4294967296) / 2) = x2_1
            · rw [if_pos c5] at H
              have c5b0 : ((((x2_1 + (Int.tdiv a0 x2_1)) % 4294967296) / 2) == x2_1) = true := beq_iff_eq.mpr c5
              have c5b1 : ((((x2_1 + (Int.tdiv a0 x2_1)) % 4294967296) / 2) != x2_1) = false := bne_eq_false_iff_eq.mpr c5
              clear c5
              obtain rfl := Option.some.inj H
              go_wp2
              go_ret
              exact ⟨by first | rfl | (simp; done) | (simp [*]; done), by repeat (first | exact Drawn0.refl _ | apply Drawn0.step)⟩
            · rw [if_neg c5] at H
              have c5b0 : ((((x2_1 + (Int.tdiv a0 x2_1)) % 4294967296) / 2) == x2_1) = false := beq_eq_false_iff_ne.mpr c5
              have c5b1 : ((((x2_1 + (Int.tdiv a0 x2_1)) % 4294967296) / 2) != x2_1) = true := bne_iff_ne.mpr c5
              by_cases c6 : (((x2_1 + (Int.tdiv a0 x2_1)) % 4294967296) / 2) = x3_1
              · rw [if_pos c6] at H
                have c6b0 : ((((x2_1 + (Int.tdiv a0 x2_1)) % 4294967296) / 2) == x3_1) = true := beq_iff_eq.mpr c6
                have c6b1 : ((((x2_1 + (Int.tdiv a0 x2_1)) % 4294967296) / 2) != x3_1) = false := bne_eq_false_iff_eq.mpr c6
                clear c6
                obtain rfl := Option.some.inj H
                go_wp2
                go_ret
                exact ⟨by first | rfl | (simp; done) | (simp [*]; done), by repeat (first | exact Drawn0.refl _ | apply Drawn0.step)⟩
              · rw [if_neg c6] at H
                have c6b0 : ((((x2_1 + (Int.tdiv a0 x2_1)) % 4294967296) / 2) == x3_1) = false := beq_eq_false_iff_ne.mpr c6
                have c6b1 : ((((x2_1 + (Int.tdiv a0 x2_1)) % 4294967296) / 2) != x3_1) = true := bne_iff_ne.mpr c6
                have H' := Aside0.mk H
                clear H
                go_wp2
                go_roundg k1
                case measure => have := HK1.out; omega
                case rel => exact ⟨(((x2_1 + (Int.tdiv a0 x2_1)) % 4294967296) / 2), (x2_1), (by first | rfl | (simp; done) | (simp [*]; done)), (by first | rfl | (simp; done) | (simp [*]; done)), H', ⟨by have := HK1.out; omega⟩, by repeat (first | exact Drawn0.refl _ | apply Drawn0.step)⟩

/-! ### impl_ISqrt: function 29 -/
def impl_ISqrt.f (k : Nat) (a0 : Int) : Option (Int) := (mathutil_ISqrt.f k a0).bind fun t101 => (some t101)
theorem impl_ISqrt.mono : ∀ a0 k, LeO (impl_ISqrt.f k a0) (impl_ISqrt.f (k + 1) a0) := by
  intro a0 k
  unfold impl_ISqrt.f
  repeat' first
      | (with_reducible exact mathutil_ISqrt.mono _ _)
      | (with_reducible exact LeO.refl _)
      | (with_reducible exact LeO.none _)
      | (with_reducible refine LeO.ite ?_ ?_)
      | (with_reducible refine LeO.bind ?_ (fun _ => ?_))
      | exact mathutil_ISqrt.mono _ _
      | exact LeO.none _
      | refine LeO.ite ?_ ?_
      | refine LeO.bind ?_ (fun _ => ?_)
set_option maxHeartbeats 8000000 in
set_option maxRecDepth 100000 in
theorem impl_ISqrt.calls (k : Nat) (a0 : Int) (r : Int) (w : World) (h : impl_ISqrt.f k a0 = some r) :
    Calls Try.prog 29 #[.int .u32 a0] w fun e w' => e = .returned (.int .u32 r) ∧ Drawn0 w w' := by
  have H : ((mathutil_ISqrt.f k a0).bind fun t101 => (some t101)) = some r := h
  clear h
  replace H := Option.bind_eq_some_iff.mp H
  obtain ⟨t101, A20, H⟩ := H
  replace H : (some t101) = some r := H
  have A2 := Aside0.mk A20
  clear A20
  obtain rfl := Option.some.inj H
  go_enter Try.func29, Try.ntmps29
  go_wp2_with (first | ((with_reducible refine gate_callee (f := 42) rfl ?_); refine goesL_ (some 4) rfl rfl Try.func42 (by kernel_rfl) rfl #[.int .u32 a0] rfl (by (try simp only [List.map_toArray, List.map_cons, List.map_nil]); first | done | rfl | (simp only [List.length_drop, List.length_take]; rfl)) ?_; (with_reducible refine (mathutil_ISqrt.calls k a0 t101 _ A2.out).mono ?_); rintro e w' ⟨rfl, ⟨nd, rfl⟩⟩; refine ⟨_, rfl, ?_⟩))
  go_ret
  exact ⟨by first | rfl | (simp; done) | (simp [*]; done), by repeat (first | exact Drawn0.refl _ | apply Drawn0.step)⟩

/-! ### spec_IsRoot: function 30 -/
def spec_IsRoot.f (a0 : Int) (a1 : Int) : Option (Bool) := if a0 ≤ 4294967295 then (if (IntKind.u64.wrap (a0 * a0)) ≤ a1 then (if a0 = 4294967295 then (some true) else (some (decide ((IntKind.u64.wrap ((IntKind.u64.wrap (a0 + 1)) * (IntKind.u64.wrap (a0 + 1)))) > a1)))) else (some false)) else (some false)
set_option maxHeartbeats 8000000 in
set_option maxRecDepth 100000 in
theorem spec_IsRoot.calls (a0 : Int) (a1 : Int) (r : Bool) (w : World) (h : spec_IsRoot.f a0 a1 = some r) :
    Calls Try.prog 30 #[.int .u64 a0, .int .u64 a1] w fun e w' => e = .returned (.bool r) ∧ Drawn0 w w' := by
  have H : (if a0 ≤ 4294967295 then (if (IntKind.u64.wrap (a0 * a0)) ≤ a1 then (if a0 = 4294967295 then (some true) else (some (decide ((IntKind.u64.wrap ((IntKind.u64.wrap (a0 + 1)) * (IntKind.u64.wrap (a0 + 1)))) > a1)))) else (some false)) else (some false)) = some r := h
  clear h
  by_cases c3 : a0 ≤ 4294967295
  · rw [if_pos c3] at H
    have c3b0 : decide (a0 ≤ 4294967295) = true := decide_eq_true c3
    clear c3
    by_cases c4 : (IntKind.u64.wrap (a0 * a0)) ≤ a1
    · rw [if_pos c4] at H
      have c4b0 : decide ((IntKind.u64.wrap (a0 * a0)) ≤ a1) = true := decide_eq_true c4
      clear c4
      by_cases c5 : a0 = 4294967295
      · rw [if_pos c5] at H
        have c5b0 : (a0 == 4294967295) = true := beq_iff_eq.mpr c5
        have c5b1 : (a0 != 4294967295) = false := bne_eq_false_iff_eq.mpr c5
        clear c5
        obtain rfl := Option.some.inj H
        go_enter Try.func30, Try.ntmps30
        go_wp2
        go_ret
        exact ⟨by first | rfl | (simp; done) | (simp [*]; done), by repeat (first | exact Drawn0.refl _ | apply Drawn0.step)⟩
      · rw [if_neg c5] at H
        have c5b0 : (a0 == 4294967295) = false := beq_eq_false_iff_ne.mpr c5
        have c5b1 : (a0 != 4294967295) = true := bne_iff_ne.mpr c5
        obtain rfl := Option.some.inj H
        go_enter Try.func30, Try.ntmps30
        go_wp2
        go_ret
        exact ⟨by first | rfl | (simp; done) | (simp [*]; done), by repeat (first | exact Drawn0.refl _ | apply Drawn0.step)⟩
    · rw [if_neg c4] at H
      have c4b0 : decide ((IntKind.u64.wrap (a0 * a0)) ≤ a1) = false := decide_eq_false c4
      clear c4
      obtain rfl := Option.some.inj H
      go_enter Try.func30, Try.ntmps30
      go_wp2
      go_ret
      exact ⟨by first | rfl | (simp; done) | (simp [*]; done), by repeat (first | exact Drawn0.refl _ | apply Drawn0.step)⟩
  · rw [if_neg c3] at H
    have c3b0 : decide (a0 ≤ 4294967295) = false := decide_eq_false c3
    clear c3
    obtain rfl := Option.some.inj H
    go_enter Try.func30, Try.ntmps30
    go_wp2
    go_ret
    exact ⟨by first | rfl | (simp; done) | (simp [*]; done), by repeat (first | exact Drawn0.refl _ | apply Drawn0.step)⟩

/-! ### laws_FnRoot32: function 10 -/
def laws_FnRoot32.f (k : Nat) (a0 : Int) : Option (Bool) := (impl_ISqrt.f k 9).bind fun t102 => (if t102 = 3 then ((impl_ISqrt.f k a0).bind fun t103 => ((spec_IsRoot.f (IntKind.u64.wrap (t103)) (IntKind.u64.wrap (a0))).bind fun t104 => (some t104))) else (some false))
theorem laws_FnRoot32.mono : ∀ a0 k, LeO (laws_FnRoot32.f k a0) (laws_FnRoot32.f (k + 1) a0) := by
  intro a0 k
  unfold laws_FnRoot32.f
  repeat' first
      | (with_reducible exact impl_ISqrt.mono _ _)
      | (with_reducible exact LeO.refl _)
      | (with_reducible exact LeO.none _)
      | (with_reducible refine LeO.ite ?_ ?_)
      | (with_reducible refine LeO.bind ?_ (fun _ => ?_))
      | exact impl_ISqrt.mono _ _
      | exact LeO.none _
      | refine LeO.ite ?_ ?_
      | refine LeO.bind ?_ (fun _ => ?_)
set_option maxHeartbeats 8000000 in
set_option maxRecDepth 100000 in
theorem laws_FnRoot32.calls (k : Nat) (a0 : Int) (r : Bool) (w : World) (h : laws_FnRoot32.f k a0 = some r) :
    Calls Try.prog 10 #[.int .u32 a0] w fun e w' => e = .returned (.bool r) ∧ Drawn0 w w' := by
  have H : ((impl_ISqrt.f k 9).bind fun t102 => (if t102 = 3 then ((impl_ISqrt.f k a0).bind fun t103 => ((spec_IsRoot.f (IntKind.u64.wrap (t103)) (IntKind.u64.wrap (a0))).bind fun t104 => (some t104))) else (some false))) = some r := h
  clear h
  replace H := Option.bind_eq_some_iff.mp H
  obtain ⟨t102, A20, H⟩ := H
  replace H : (if t102 = 3 then ((impl_ISqrt.f k a0).bind fun t103 => ((spec_IsRoot.f (IntKind.u64.wrap (t103)) (IntKind.u64.wrap (a0))).bind fun t104 => (some t104))) else (some false)) = some r := H
  have A2 := Aside0.mk A20
  clear A20
  by_cases c3 : t102 = 3
  · rw [if_pos c3] at H
    have c3b0 : (t102 == 3) = true := beq_iff_eq.mpr c3
    have c3b1 : (t102 != 3) = false := bne_eq_false_iff_eq.mpr c3
    clear c3
    replace H := Option.bind_eq_some_iff.mp H
    obtain ⟨t103, A40, H⟩ := H
    replace H : ((spec_IsRoot.f (IntKind.u64.wrap (t103)) (IntKind.u64.wrap (a0))).bind fun t104 => (some t104)) = some r := H
    have A4 := Aside0.mk A40
    clear A40
    replace H := Option.bind_eq_some_iff.mp H
    obtain ⟨t104, A50, H⟩ := H
    replace H : (some t104) = some r := H
    have A5 := Aside0.mk A50
    clear A50
    obtain rfl := Option.some.inj H
    go_enter Try.func10, Try.ntmps10
    go_wp2_with (first | ((with_reducible refine gate_callee (f := 29) rfl ?_); refine goesL_ (some 3) rfl rfl Try.func29 (by kernel_rfl) rfl #[.int .u32 9] rfl (by (try simp only [List.map_toArray, List.map_cons, List.map_nil]); first | done | rfl | (simp only [List.length_drop, List.length_take]; rfl)) ?_; (with_reducible refine (impl_ISqrt.calls k 9 t102 _ A2.out).mono ?_); rintro e w' ⟨rfl, ⟨nd, rfl⟩⟩; refine ⟨_, rfl, ?_⟩) | (go_at_call 29; (with_reducible refine (impl_ISqrt.calls k a0 t103 _ A4.out).mono ?_); rintro e w' ⟨rfl, ⟨nd, rfl⟩⟩) | (go_at_call 30; (with_reducible refine (spec_IsRoot.calls (IntKind.u64.wrap (t103)) (IntKind.u64.wrap (a0)) t104 _ A5.out).mono ?_); rintro e w' ⟨rfl, ⟨nd, rfl⟩⟩))
    go_ret
    exact ⟨by first | rfl | (simp; done) | (simp [*]; done), by repeat (first | exact Drawn0.refl _ | apply Drawn0.step)⟩
  · rw [if_neg c3] at H
    have c3b0 : (t102 == 3) = false := beq_eq_false_iff_ne.mpr c3
    have c3b1 : (t102 != 3) = true := bne_iff_ne.mpr c3
    obtain rfl := Option.some.inj H
    go_enter Try.func10, Try.ntmps10
    go_wp2_with (first | ((with_reducible refine gate_callee (f := 29) rfl ?_); refine goesL_ (some 3) rfl rfl Try.func29 (by kernel_rfl) rfl #[.int .u32 9] rfl (by (try simp only [List.map_toArray, List.map_cons, List.map_nil]); first | done | rfl | (simp only [List.length_drop, List.length_take]; rfl)) ?_; (with_reducible refine (impl_ISqrt.calls k 9 t102 _ A2.out).mono ?_); rintro e w' ⟨rfl, ⟨nd, rfl⟩⟩; refine ⟨_, rfl, ?_⟩))
    go_ret
    exact ⟨by first | rfl | (simp; done) | (simp [*]; done), by repeat (first | exact Drawn0.refl _ | apply Drawn0.step)⟩

/-- THE ONE PURE STATEMENT of laws_FnRoot32: yours. -/
def laws_FnRoot32.Pure : Prop := ∀ (a0 : Int), (Lit.int .u32 a0).wf = true → ∃ k, laws_FnRoot32.f k a0 = some true
theorem laws_FnRoot32.walk (P : laws_FnRoot32.Pure) (a0 : Int) (w : World) (w0 : (Lit.int .u32 a0).wf = true) :
    Calls Try.prog 10 #[.int .u32 a0] w fun e w' => e = .returned (.bool true) ∧ Below w.heap.size w w' := by
  obtain ⟨k, h⟩ := P a0 w0
  refine (laws_FnRoot32.calls k a0 true w h).mono ?_
  rintro e w' ⟨rfl, hd⟩
  exact ⟨rfl, hd.below⟩

end Go.Proofs.Ytjfefhjnpokcbaa.PFnRoot32
