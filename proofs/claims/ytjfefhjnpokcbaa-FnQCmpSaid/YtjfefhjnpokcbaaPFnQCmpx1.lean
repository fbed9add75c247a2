-- PRINTED BY print.sh 35421559b90ae4d0a3588c463048766b98c2df88dd9212a6774a882060cdf62d: not written by this session
import Derived.Test.YtjfefhjnpokcbaaPFnQCmpx0
namespace Go.Proofs.Ytjfefhjnpokcbaa.PFnQCmp
open Go.RowKit Go.Proofs.YtjfefhjnpokcbaaW.PrintWords Go.Proofs.YtjfefhjnpokcbaaW.PrintLast Go.Proofs.YtjfefhjnpokcbaaW.PrintMore
attribute [local go_sem] max2_int min2_int max_two min_two max_three min_three max_four min_four   -- for this text's walks alone
set_option linter.unusedVariables false
set_option linter.unusedSimpArgs false

/-! ### mathutil_QCmpUint32: function 41 -/
def mathutil_QCmpUint32.f (a0 : Int) (a1 : Int) (a2 : Int) (a3 : Int) : Option (Int) := if (IntKind.u64.wrap ((IntKind.u64.wrap (a0)) * (IntKind.u64.wrap (a3)))) < (IntKind.u64.wrap ((IntKind.u64.wrap (a1)) * (IntKind.u64.wrap (a2)))) then (some (-1)) else (if (IntKind.u64.wrap ((IntKind.u64.wrap (a0)) * (IntKind.u64.wrap (a3)))) = (IntKind.u64.wrap ((IntKind.u64.wrap (a1)) * (IntKind.u64.wrap (a2)))) then (some 0) else (some 1))
set_option maxHeartbeats 8000000 in
set_option maxRecDepth 100000 in
theorem mathutil_QCmpUint32.calls (a0 : Int) (a1 : Int) (a2 : Int) (a3 : Int) (r : Int) (w : World) (h : mathutil_QCmpUint32.f a0 a1 a2 a3 = some r) :
    Calls Try.prog 41 #[.int .u32 a0, .int .u32 a1, .int .u32 a2, .int .u32 a3] w fun e w' => e = .returned (.int .i64 r) ∧ Drawn0 w w' := by
  have H : (if (IntKind.u64.wrap ((IntKind.u64.wrap (a0)) * (IntKind.u64.wrap (a3)))) < (IntKind.u64.wrap ((IntKind.u64.wrap (a1)) * (IntKind.u64.wrap (a2)))) then (some (-1)) else (if (IntKind.u64.wrap ((IntKind.u64.wrap (a0)) * (IntKind.u64.wrap (a3)))) = (IntKind.u64.wrap ((IntKind.u64.wrap (a1)) * (IntKind.u64.wrap (a2)))) then (some 0) else (some 1))) = some r := h
  clear h
  by_cases c5 : (IntKind.u64.wrap ((IntKind.u64.wrap (a0)) * (IntKind.u64.wrap (a3)))) < (IntKind.u64.wrap ((IntKind.u64.wrap (a1)) * (IntKind.u64.wrap (a2))))
  · rw [if_pos c5] at H
    have c5b0 : decide ((IntKind.u64.wrap ((IntKind.u64.wrap (a0)) * (IntKind.u64.wrap (a3)))) < (IntKind.u64.wrap ((IntKind.u64.wrap (a1)) * (IntKind.u64.wrap (a2))))) = true := decide_eq_true c5
    clear c5
    obtain rfl := Option.some.inj H
    go_enter Try.func41, Try.ntmps41
    go_wp2
    go_ret
    exact ⟨by first | rfl | (simp; done) | (simp [*]; done), by repeat (first | exact Drawn0.refl _ | apply Drawn0.step)⟩
  · rw [if_neg c5] at H
    have c5b0 : decide ((IntKind.u64.wrap ((IntKind.u64.wrap (a0)) * (IntKind.u64.wrap (a3)))) < (IntKind.u64.wrap ((IntKind.u64.wrap (a1)) * (IntKind.u64.wrap (a2))))) = false := decide_eq_false c5
    clear c5
    by_cases c6 : (IntKind.u64.wrap ((IntKind.u64.wrap (a0)) * (IntKind.u64.wrap (a3)))) = (IntKind.u64.wrap ((IntKind.u64.wrap (a1)) * (IntKind.u64.wrap (a2))))
    · rw [if_pos c6] at H
      have c6b0 : ((IntKind.u64.wrap ((IntKind.u64.wrap (a0)) * (IntKind.u64.wrap (a3)))) == (IntKind.u64.wrap ((IntKind.u64.wrap (a1)) * (IntKind.u64.wrap (a2))))) = true := beq_iff_eq.mpr c6
      have c6b1 : ((IntKind.u64.wrap ((IntKind.u64.wrap (a0)) * (IntKind.u64.wrap (a3)))) != (IntKind.u64.wrap ((IntKind.u64.wrap (a1)) * (IntKind.u64.wrap (a2))))) = false := bne_eq_false_iff_eq.mpr c6
      clear c6
      obtain rfl := Option.some.inj H
      go_enter Try.func41, Try.ntmps41
      go_wp2
      go_ret
      exact ⟨by first | rfl | (simp; done) | (simp [*]; done), by repeat (first | exact Drawn0.refl _ | apply Drawn0.step)⟩
    · rw [if_neg c6] at H
      have c6b0 : ((IntKind.u64.wrap ((IntKind.u64.wrap (a0)) * (IntKind.u64.wrap (a3)))) == (IntKind.u64.wrap ((IntKind.u64.wrap (a1)) * (IntKind.u64.wrap (a2))))) = false := beq_eq_false_iff_ne.mpr c6
      have c6b1 : ((IntKind.u64.wrap ((IntKind.u64.wrap (a0)) * (IntKind.u64.wrap (a3)))) != (IntKind.u64.wrap ((IntKind.u64.wrap (a1)) * (IntKind.u64.wrap (a2))))) = true := bne_iff_ne.mpr c6
      obtain rfl := Option.some.inj H
      go_enter Try.func41, Try.ntmps41
      go_wp2
      go_ret
      exact ⟨by first | rfl | (simp; done) | (simp [*]; done), by repeat (first | exact Drawn0.refl _ | apply Drawn0.step)⟩

/-! ### impl_QCmp: function 28 -/
def impl_QCmp.f (a0 : Int) (a1 : Int) (a2 : Int) (a3 : Int) : Option (Int) := (mathutil_QCmpUint32.f a0 a1 a2 a3).bind fun t101 => (some t101)
set_option maxHeartbeats 8000000 in
set_option maxRecDepth 100000 in
theorem impl_QCmp.calls (a0 : Int) (a1 : Int) (a2 : Int) (a3 : Int) (r : Int) (w : World) (h : impl_QCmp.f a0 a1 a2 a3 = some r) :
    Calls Try.prog 28 #[.int .u32 a0, .int .u32 a1, .int .u32 a2, .int .u32 a3] w fun e w' => e = .returned (.int .i64 r) ∧ Drawn0 w w' := by
  have H : ((mathutil_QCmpUint32.f a0 a1 a2 a3).bind fun t101 => (some t101)) = some r := h
  clear h
  replace H := Option.bind_eq_some_iff.mp H
  obtain ⟨t101, A50, H⟩ := H
  replace H : (some t101) = some r := H
  have A5 := Aside0.mk A50
  clear A50
  obtain rfl := Option.some.inj H
  go_enter Try.func28, Try.ntmps28
  go_wp2_with (first | ((with_reducible refine gate_callee (f := 41) rfl ?_); refine goesL_ (some 13) rfl rfl Try.func41 (by kernel_rfl) rfl #[.int .u32 a0, .int .u32 a1, .int .u32 a2, .int .u32 a3] rfl (by (try simp only [List.map_toArray, List.map_cons, List.map_nil]); first | done | rfl | (simp only [List.length_drop, List.length_take]; rfl)) ?_; (with_reducible refine (mathutil_QCmpUint32.calls a0 a1 a2 a3 t101 _ A5.out).mono ?_); rintro e w' ⟨rfl, ⟨nd, rfl⟩⟩; refine ⟨_, rfl, ?_⟩))
  go_ret
  exact ⟨by first | rfl | (simp; done) | (simp [*]; done), by repeat (first | exact Drawn0.refl _ | apply Drawn0.step)⟩

/-! ### laws_FnQCmp: function 9 -/
def laws_FnQCmp.j0 : Nat → Int → Int → Int → Int → Bool → Bool → Option (Bool)
  | 0, _, _, _, _, _, _ => none
  | k + 1, x0, x1, x2, x3, x9, x20 => if x20 = true then (some x9) else (if (IntKind.u64.wrap ((IntKind.u64.wrap (x0)) * (IntKind.u64.wrap (x3)))) < (IntKind.u64.wrap ((IntKind.u64.wrap (x2)) * (IntKind.u64.wrap (x1)))) then (if x9 = true then ((impl_QCmp.f x0 x1 x2 x3).bind fun t103 => (some (t103 == (-1)))) else (some false)) else (if (IntKind.u64.wrap ((IntKind.u64.wrap (x0)) * (IntKind.u64.wrap (x3)))) > (IntKind.u64.wrap ((IntKind.u64.wrap (x2)) * (IntKind.u64.wrap (x1)))) then (if x9 = true then ((impl_QCmp.f x0 x1 x2 x3).bind fun t104 => (some (t104 == 1))) else (some false)) else (if x9 = true then ((impl_QCmp.f x0 x1 x2 x3).bind fun t105 => (some (t105 == 0))) else (some false))))
def laws_FnQCmp.f (k : Nat) (a0 : Int) (a1 : Int) (a2 : Int) (a3 : Int) : Option (Bool) := (impl_QCmp.f 1 2 1 3).bind fun t102 => (if a1 = 0 then (laws_FnQCmp.j0 k a0 a1 a2 a3 (t102 == 1) true) else (laws_FnQCmp.j0 k a0 a1 a2 a3 (t102 == 1) (a3 == 0)))
theorem laws_FnQCmp.mono_l : ∀ k, (∀ y0 y1 y2 y3 y4 y5, LeO (laws_FnQCmp.j0 k y0 y1 y2 y3 y4 y5) (laws_FnQCmp.j0 (k + 1) y0 y1 y2 y3 y4 y5))
  | 0 => fun _ _ _ _ _ _ r h => by simp [laws_FnQCmp.j0] at h
  | k + 1 => by
    have ih0 := laws_FnQCmp.mono_l k
    · intro y0 y1 y2 y3 y4 y5
      unfold laws_FnQCmp.j0
      repeat' first
      | (with_reducible exact ih0 _ _ _ _ _ _)
      | (with_reducible exact LeO.refl _)
      | (with_reducible exact LeO.none _)
      | (with_reducible refine LeO.ite ?_ ?_)
      | (with_reducible refine LeO.bind ?_ (fun _ => ?_))
      | exact ih0 _ _ _ _ _ _
      | exact LeO.none _
      | refine LeO.ite ?_ ?_
      | refine LeO.bind ?_ (fun _ => ?_)
theorem laws_FnQCmp.mono : ∀ a0 a1 a2 a3 k, LeO (laws_FnQCmp.f k a0 a1 a2 a3) (laws_FnQCmp.f (k + 1) a0 a1 a2 a3) := by
  intro a0 a1 a2 a3 k
  have ih0 := laws_FnQCmp.mono_l k
  unfold laws_FnQCmp.f
  repeat' first
      | (with_reducible exact ih0 _ _ _ _ _ _)
      | (with_reducible exact LeO.refl _)
      | (with_reducible exact LeO.none _)
      | (with_reducible refine LeO.ite ?_ ?_)
      | (with_reducible refine LeO.bind ?_ (fun _ => ?_))
      | exact ih0 _ _ _ _ _ _
      | exact LeO.none _
      | refine LeO.ite ?_ ?_
      | refine LeO.bind ?_ (fun _ => ?_)
set_option maxHeartbeats 8000000 in
set_option maxRecDepth 100000 in
theorem laws_FnQCmp.calls (k : Nat) (a0 : Int) (a1 : Int) (a2 : Int) (a3 : Int) (r : Bool) (w : World) (h : laws_FnQCmp.f k a0 a1 a2 a3 = some r) :
    Calls Try.prog 9 #[.int .u32 a0, .int .u32 a1, .int .u32 a2, .int .u32 a3] w fun e w' => e = .returned (.bool r) ∧ Drawn0 w w' := by
  have H : ((impl_QCmp.f 1 2 1 3).bind fun t102 => (if a1 = 0 then (laws_FnQCmp.j0 k a0 a1 a2 a3 (t102 == 1) true) else (laws_FnQCmp.j0 k a0 a1 a2 a3 (t102 == 1) (a3 == 0)))) = some r := h
  clear h
  replace H := Option.bind_eq_some_iff.mp H
  obtain ⟨t102, A50, H⟩ := H
  replace H : (if a1 = 0 then (laws_FnQCmp.j0 k a0 a1 a2 a3 (t102 == 1) true) else (laws_FnQCmp.j0 k a0 a1 a2 a3 (t102 == 1) (a3 == 0))) = some r := H
  have A5 := Aside0.mk A50
  clear A50
  have HC6 := Aside0.mk H
  clear H
  go_enter Try.func9, Try.ntmps9
  go_upto_region 2 with (first | ((with_reducible refine gate_callee (f := 28) rfl ?_); refine goesL_ (some 13) rfl rfl Try.func28 (by kernel_rfl) rfl #[.int .u32 1, .int .u32 2, .int .u32 1, .int .u32 3] rfl (by (try simp only [List.map_toArray, List.map_cons, List.map_nil]); first | done | rfl | (simp only [List.length_drop, List.length_take]; rfl)) ?_; (with_reducible refine (impl_QCmp.calls 1 2 1 3 t102 _ A5.out).mono ?_); rintro e w' ⟨rfl, ⟨nd, rfl⟩⟩; refine ⟨_, rfl, ?_⟩))
  (try simp only [Act.put, List.setIfInBounds_toArray, List.set_cons_zero, List.set_cons_succ])
  go_cut [20] (fun v20 wc => ∃ (kq : Nat) (x20_5 : Bool), v20 = .bool x20_5 ∧ Aside0 (laws_FnQCmp.j0 kq a0 a1 a2 a3 (t102 == 1) x20_5 = some r) ∧ Aside0 (kq ≤ k) ∧ Drawn0 w wc)
  case first =>
    have H := HC6.out
    clear HC6
    by_cases c7 : a1 = 0
    · rw [if_pos c7] at H
      have c7b0 : (a1 == 0) = true := beq_iff_eq.mpr c7
      have c7b1 : (a1 != 0) = false := bne_eq_false_iff_eq.mpr c7
      clear c7
      (first | rw [c7b0] | (simp only [i64_w, i32_w]; rw [c7b0]) | skip)
      have H' := Aside0.mk H
      clear H
      go_wp2
      go_meet
      case rel => exact ⟨_, (true), (by first | rfl | (simp; done) | (simp [*]; done)), H', ⟨by first | omega | exact Nat.le_refl _⟩, by repeat (first | exact Drawn0.refl _ | apply Drawn0.step)⟩
    · rw [if_neg c7] at H
      have c7b0 : (a1 == 0) = false := beq_eq_false_iff_ne.mpr c7
      have c7b1 : (a1 != 0) = true := bne_iff_ne.mpr c7
      (first | rw [c7b0] | (simp only [i64_w, i32_w]; rw [c7b0]) | skip)
      have H' := Aside0.mk H
      clear H
      go_wp2
      go_meet
      case rel => exact ⟨_, ((a3 == 0)), (by first | rfl | (simp; done) | (simp [*]; done)), H', ⟨by first | omega | exact Nat.le_refl _⟩, by repeat (first | exact Drawn0.refl _ | apply Drawn0.step)⟩
  case rest =>
    clear HC6
    try clear c2
    try clear p2
    try clear c7
    try clear c7b0
    try clear c7b1
    obtain ⟨kq, x20_5, rfl, HA, HJ5, ⟨mc5, rfl⟩⟩ := hcut
    cases kq with
    | zero => exact absurd HA.out (by simp [laws_FnQCmp.j0])
    | succ kj5 =>
      have H := HA.out
      clear HA
      simp only [laws_FnQCmp.j0] at H
      by_cases c8 : x20_5 = true
      · subst c8
        have H1 : (some (t102 == 1)) = some r := by rw [if_pos rfl] at H; exact H
        clear H
        have H := H1
        clear H1
        obtain rfl := Option.some.inj H
        go_wp2
        go_ret
        exact ⟨by first | rfl | (simp; done) | (simp [*]; done), by repeat (first | exact Drawn0.refl _ | apply Drawn0.step)⟩
      · replace c8 := Bool.eq_false_iff.mpr c8
        subst c8
        have H1 : (if (IntKind.u64.wrap ((IntKind.u64.wrap (a0)) * (IntKind.u64.wrap (a3)))) < (IntKind.u64.wrap ((IntKind.u64.wrap (a2)) * (IntKind.u64.wrap (a1)))) then (if (t102 == 1) = true then ((impl_QCmp.f a0 a1 a2 a3).bind fun t103 => (some (t103 == (-1)))) else (some false)) else (if (IntKind.u64.wrap ((IntKind.u64.wrap (a0)) * (IntKind.u64.wrap (a3)))) > (IntKind.u64.wrap ((IntKind.u64.wrap (a2)) * (IntKind.u64.wrap (a1)))) then (if (t102 == 1) = true then ((impl_QCmp.f a0 a1 a2 a3).bind fun t104 => (some (t104 == 1))) else (some false)) else (if (t102 == 1) = true then ((impl_QCmp.f a0 a1 a2 a3).bind fun t105 => (some (t105 == 0))) else (some false)))) = some r := by rw [if_neg (show ¬ (false = true) by decide)] at H; exact H
        clear H
        have H := H1
        clear H1
        by_cases c9 : (IntKind.u64.wrap ((IntKind.u64.wrap (a0)) * (IntKind.u64.wrap (a3)))) < (IntKind.u64.wrap ((IntKind.u64.wrap (a2)) * (IntKind.u64.wrap (a1))))
        · rw [if_pos c9] at H
          have c9b0 : decide ((IntKind.u64.wrap ((IntKind.u64.wrap (a0)) * (IntKind.u64.wrap (a3)))) < (IntKind.u64.wrap ((IntKind.u64.wrap (a2)) * (IntKind.u64.wrap (a1))))) = true := decide_eq_true c9
          clear c9
          by_cases c10 : (t102 == 1) = true
          · rw [if_pos c10] at H
            have c10b0 : (t102 == 1) = true := c10
            (try (have c10b1 : decide (t102 = 1) = true := by simpa using c10))
            (try (have c10b2 : (t102 == 1) = true := by simpa using c10))
            clear c10
            replace H := Option.bind_eq_some_iff.mp H
            obtain ⟨t103, A110, H⟩ := H
            replace H : (some (t103 == (-1))) = some r := H
            have A11 := Aside0.mk A110
            clear A110
            obtain rfl := Option.some.inj H
            go_wp2_with (first | (go_at_call 28; (with_reducible refine (impl_QCmp.calls a0 a1 a2 a3 t103 _ A11.out).mono ?_); rintro e w' ⟨rfl, ⟨nd, rfl⟩⟩))
            go_ret
            exact ⟨by first | rfl | (simp; done) | (simp [*]; done), by repeat (first | exact Drawn0.refl _ | apply Drawn0.step)⟩
          · rw [if_neg c10] at H
            have c10b0 : (t102 == 1) = false := by simpa using c10
            (try (have c10b1 : decide (t102 = 1) = false := by simpa using c10))
            (try (have c10b2 : (t102 == 1) = false := by simpa using c10))
            (try (have c10b3 : ¬ (t102 = 1) := by simpa using c10))
            clear c10
            obtain rfl := Option.some.inj H
            go_wp2
            go_ret
            exact ⟨by first | rfl | (simp; done) | (simp [*]; done), by repeat (first | exact Drawn0.refl _ | apply Drawn0.step)⟩
        · rw [if_neg c9] at H
          have c9b0 : decide ((IntKind.u64.wrap ((IntKind.u64.wrap (a0)) * (IntKind.u64.wrap (a3)))) < (IntKind.u64.wrap ((IntKind.u64.wrap (a2)) * (IntKind.u64.wrap (a1))))) = false := decide_eq_false c9
          clear c9
          by_cases c12 : (IntKind.u64.wrap ((IntKind.u64.wrap (a0)) * (IntKind.u64.wrap (a3)))) > (IntKind.u64.wrap ((IntKind.u64.wrap (a2)) * (IntKind.u64.wrap (a1))))
          · rw [if_pos c12] at H
            have c12b0 : decide ((IntKind.u64.wrap ((IntKind.u64.wrap (a2)) * (IntKind.u64.wrap (a1)))) < (IntKind.u64.wrap ((IntKind.u64.wrap (a0)) * (IntKind.u64.wrap (a3))))) = true := decide_eq_true c12
            clear c12
            by_cases c13 : (t102 == 1) = true
            · rw [if_pos c13] at H
              have c13b0 : (t102 == 1) = true := c13
              (try (have c13b1 : decide (t102 = 1) = true := by simpa using c13))
              (try (have c13b2 : (t102 == 1) = true := by simpa using c13))
              clear c13
              replace H := Option.bind_eq_some_iff.mp H
              obtain ⟨t104, A140, H⟩ := H
              replace H : (some (t104 == 1)) = some r := H
              have A14 := Aside0.mk A140
              clear A140
              obtain rfl := Option.some.inj H
              go_wp2_with (first | (go_at_call 28; (with_reducible refine (impl_QCmp.calls a0 a1 a2 a3 t104 _ A14.out).mono ?_); rintro e w' ⟨rfl, ⟨nd, rfl⟩⟩))
              go_ret
              exact ⟨by first | rfl | (simp; done) | (simp [*]; done), by repeat (first | exact Drawn0.refl _ | apply Drawn0.step)⟩
            · rw [if_neg c13] at H
              have c13b0 : (t102 == 1) = false := by simpa using c13
              (try (have c13b1 : decide (t102 = 1) = false := by simpa using c13))
              (try (have c13b2 : (t102 == 1) = false := by simpa using c13))
              (try (have c13b3 : ¬ (t102 = 1) := by simpa using c13))
              clear c13
              obtain rfl := Option.some.inj H
              go_wp2
              go_ret
              exact ⟨by first | rfl | (simp; done) | (simp [*]; done), by repeat (first | exact Drawn0.refl _ | apply Drawn0.step)⟩
          · rw [if_neg c12] at H
            have c12b0 : decide ((IntKind.u64.wrap ((IntKind.u64.wrap (a2)) * (IntKind.u64.wrap (a1)))) < (IntKind.u64.wrap ((IntKind.u64.wrap (a0)) * (IntKind.u64.wrap (a3))))) = false := decide_eq_false c12
            clear c12
            by_cases c15 : (t102 == 1) = true
            · rw [if_pos c15] at H
              have c15b0 : (t102 == 1) = true := c15
              (try (have c15b1 : decide (t102 = 1) = true := by simpa using c15))
              (try (have c15b2 : (t102 == 1) = true := by simpa using c15))
              clear c15
              replace H := Option.bind_eq_some_iff.mp H
              obtain ⟨t105, A160, H⟩ := H
              replace H : (some (t105 == 0)) = some r := H
              have A16 := Aside0.mk A160
              clear A160
              obtain rfl := Option.some.inj H
              go_wp2_with (first | (go_at_call 28; (with_reducible refine (impl_QCmp.calls a0 a1 a2 a3 t105 _ A16.out).mono ?_); rintro e w' ⟨rfl, ⟨nd, rfl⟩⟩))
              go_ret
              exact ⟨by first | rfl | (simp; done) | (simp [*]; done), by repeat (first | exact Drawn0.refl _ | apply Drawn0.step)⟩
            · rw [if_neg c15] at H
              have c15b0 : (t102 == 1) = false := by simpa using c15
              (try (have c15b1 : decide (t102 = 1) = false := by simpa using c15))
              (try (have c15b2 : (t102 == 1) = false := by simpa using c15))
              (try (have c15b3 : ¬ (t102 = 1) := by simpa using c15))
              clear c15
              obtain rfl := Option.some.inj H
              go_wp2
              go_ret
              exact ⟨by first | rfl | (simp; done) | (simp [*]; done), by repeat (first | exact Drawn0.refl _ | apply Drawn0.step)⟩

/-- THE ONE PURE STATEMENT of laws_FnQCmp: yours. -/
def laws_FnQCmp.Pure : Prop := ∀ (a0 : Int) (a1 : Int) (a2 : Int) (a3 : Int), (Lit.int .u32 a0).wf = true → (Lit.int .u32 a1).wf = true → (Lit.int .u32 a2).wf = true → (Lit.int .u32 a3).wf = true → ∃ k, laws_FnQCmp.f k a0 a1 a2 a3 = some true
theorem laws_FnQCmp.walk (P : laws_FnQCmp.Pure) (a0 : Int) (a1 : Int) (a2 : Int) (a3 : Int) (w : World) (w0 : (Lit.int .u32 a0).wf = true) (w1 : (Lit.int .u32 a1).wf = true) (w2 : (Lit.int .u32 a2).wf = true) (w3 : (Lit.int .u32 a3).wf = true) :
    Calls Try.prog 9 #[.int .u32 a0, .int .u32 a1, .int .u32 a2, .int .u32 a3] w fun e w' => e = .returned (.bool true) ∧ Below w.heap.size w w' := by
  obtain ⟨k, h⟩ := P a0 a1 a2 a3 w0 w1 w2 w3
  refine (laws_FnQCmp.calls k a0 a1 a2 a3 true w h).mono ?_
  rintro e w' ⟨rfl, hd⟩
  exact ⟨rfl, hd.below⟩

end Go.Proofs.Ytjfefhjnpokcbaa.PFnQCmp
