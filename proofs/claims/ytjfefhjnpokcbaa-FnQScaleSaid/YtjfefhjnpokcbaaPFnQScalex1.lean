-- PRINTED BY print.sh 35421559b90ae4d0a3588c463048766b98c2df88dd9212a6774a882060cdf62d: not written by this session
import Derived.Test.YtjfefhjnpokcbaaPFnQScalex0
namespace Go.Proofs.Ytjfefhjnpokcbaa.PFnQScale
open Go.RowKit Go.Proofs.YtjfefhjnpokcbaaW.PrintWords Go.Proofs.YtjfefhjnpokcbaaW.PrintLast Go.Proofs.YtjfefhjnpokcbaaW.PrintMore
attribute [local go_sem] max2_int min2_int max_two min_two max_three min_three max_four min_four   -- for this text's walks alone
set_option linter.unusedVariables false
set_option linter.unusedSimpArgs false

/-! ### mathutil_QScaleUint32: function 37 -/
def mathutil_QScaleUint32.f (a0 : Int) (a1 : Int) (a2 : Int) : Option (Int) := if (IntKind.u64.wrap (a2)) = 0 then (none) else (some (IntKind.u64.wrap (1 + (IntKind.u64.wrap (Int.tdiv (IntKind.u64.wrap ((IntKind.u64.wrap (a0)) * (IntKind.u64.wrap (a1)))) (IntKind.u64.wrap (a2)))))))
set_option maxHeartbeats 8000000 in
set_option maxRecDepth 100000 in
theorem mathutil_QScaleUint32.calls (a0 : Int) (a1 : Int) (a2 : Int) (r : Int) (w : World) (h : mathutil_QScaleUint32.f a0 a1 a2 = some r) :
    Calls Try.prog 37 #[.int .u32 a0, .int .u32 a1, .int .u32 a2] w fun e w' => e = .returned (.int .u64 r) ∧ Drawn0 w w' := by
  have H : (if (IntKind.u64.wrap (a2)) = 0 then (none) else (some (IntKind.u64.wrap (1 + (IntKind.u64.wrap (Int.tdiv (IntKind.u64.wrap ((IntKind.u64.wrap (a0)) * (IntKind.u64.wrap (a1)))) (IntKind.u64.wrap (a2)))))))) = some r := h
  clear h
  by_cases c4 : (IntKind.u64.wrap (a2)) = 0
  · rw [if_pos c4] at H
    exact absurd H (by simp)
  · rw [if_neg c4] at H
    have c4b0 : ((IntKind.u64.wrap (a2)) == 0) = false := beq_eq_false_iff_ne.mpr c4
    have c4b1 : ((IntKind.u64.wrap (a2)) != 0) = true := bne_iff_ne.mpr c4
    obtain rfl := Option.some.inj H
    go_enter Try.func37, Try.ntmps37
    go_wp2
    go_ret
    exact ⟨by first | rfl | (simp; done) | (simp [*]; done), by repeat (first | exact Drawn0.refl _ | apply Drawn0.step)⟩

/-! ### impl_QScale: function 22 -/
def impl_QScale.f (a0 : Int) (a1 : Int) (a2 : Int) : Option (Int) := if a2 = 0 then (some 0) else ((mathutil_QScaleUint32.f a0 a1 a2).bind fun t101 => (some t101))
set_option maxHeartbeats 8000000 in
set_option maxRecDepth 100000 in
theorem impl_QScale.calls (a0 : Int) (a1 : Int) (a2 : Int) (r : Int) (w : World) (h : impl_QScale.f a0 a1 a2 = some r) :
    Calls Try.prog 22 #[.int .u32 a0, .int .u32 a1, .int .u32 a2] w fun e w' => e = .returned (.int .u64 r) ∧ Drawn0 w w' := by
  have H : (if a2 = 0 then (some 0) else ((mathutil_QScaleUint32.f a0 a1 a2).bind fun t101 => (some t101))) = some r := h
  clear h
  by_cases c4 : a2 = 0
  · rw [if_pos c4] at H
    have c4b0 : (a2 == 0) = true := beq_iff_eq.mpr c4
    have c4b1 : (a2 != 0) = false := bne_eq_false_iff_eq.mpr c4
    clear c4
    obtain rfl := Option.some.inj H
    go_enter Try.func22, Try.ntmps22
    go_wp2
    go_ret
    exact ⟨by first | rfl | (simp; done) | (simp [*]; done), by repeat (first | exact Drawn0.refl _ | apply Drawn0.step)⟩
  · rw [if_neg c4] at H
    have c4b0 : (a2 == 0) = false := beq_eq_false_iff_ne.mpr c4
    have c4b1 : (a2 != 0) = true := bne_iff_ne.mpr c4
    replace H := Option.bind_eq_some_iff.mp H
    obtain ⟨t101, A50, H⟩ := H
    replace H : (some t101) = some r := H
    have A5 := Aside0.mk A50
    clear A50
    obtain rfl := Option.some.inj H
    go_enter Try.func22, Try.ntmps22
    go_wp2_with (first | ((with_reducible refine gate_callee (f := 37) rfl ?_); refine goesL_ (some 12) rfl rfl Try.func37 (by kernel_rfl) rfl #[.int .u32 a0, .int .u32 a1, .int .u32 a2] rfl (by (try simp only [List.map_toArray, List.map_cons, List.map_nil]); first | done | rfl | (simp only [List.length_drop, List.length_take]; rfl)) ?_; (with_reducible refine (mathutil_QScaleUint32.calls a0 a1 a2 t101 _ A5.out).mono ?_); rintro e w' ⟨rfl, ⟨nd, rfl⟩⟩; refine ⟨_, rfl, ?_⟩))
    go_ret
    exact ⟨by first | rfl | (simp; done) | (simp [*]; done), by repeat (first | exact Drawn0.refl _ | apply Drawn0.step)⟩

/-! ### laws_FnQScale: function 5 -/
def laws_FnQScale.f (a0 : Int) (a1 : Int) (a2 : Int) : Option (Bool) := (impl_QScale.f 2 1 1).bind fun t102 => (if a2 = 0 then (some (decide (t102 ≥ 2))) else (if t102 ≥ 2 then ((impl_QScale.f a0 a1 a2).bind fun t103 => (if (IntKind.u64.wrap (a2)) = 0 then (none) else (some (decide (t103 ≥ (IntKind.u64.wrap (Int.tdiv (IntKind.u64.wrap ((IntKind.u64.wrap ((IntKind.u64.wrap ((IntKind.u64.wrap (a0)) * (IntKind.u64.wrap (a1)))) + (IntKind.u64.wrap (a2)))) - 1)) (IntKind.u64.wrap (a2))))))))) else (some false)))
set_option maxHeartbeats 8000000 in
set_option maxRecDepth 100000 in
theorem laws_FnQScale.calls (a0 : Int) (a1 : Int) (a2 : Int) (r : Bool) (w : World) (h : laws_FnQScale.f a0 a1 a2 = some r) :
    Calls Try.prog 5 #[.int .u32 a0, .int .u32 a1, .int .u32 a2] w fun e w' => e = .returned (.bool r) ∧ Drawn0 w w' := by
  have H : ((impl_QScale.f 2 1 1).bind fun t102 => (if a2 = 0 then (some (decide (t102 ≥ 2))) else (if t102 ≥ 2 then ((impl_QScale.f a0 a1 a2).bind fun t103 => (if (IntKind.u64.wrap (a2)) = 0 then (none) else (some (decide (t103 ≥ (IntKind.u64.wrap (Int.tdiv (IntKind.u64.wrap ((IntKind.u64.wrap ((IntKind.u64.wrap ((IntKind.u64.wrap (a0)) * (IntKind.u64.wrap (a1)))) + (IntKind.u64.wrap (a2)))) - 1)) (IntKind.u64.wrap (a2))))))))) else (some false)))) = some r := h
  clear h
  replace H := Option.bind_eq_some_iff.mp H
  obtain ⟨t102, A40, H⟩ := H
  replace H : (if a2 = 0 then (some (decide (t102 ≥ 2))) else (if t102 ≥ 2 then ((impl_QScale.f a0 a1 a2).bind fun t103 => (if (IntKind.u64.wrap (a2)) = 0 then (none) else (some (decide (t103 ≥ (IntKind.u64.wrap (Int.tdiv (IntKind.u64.wrap ((IntKind.u64.wrap ((IntKind.u64.wrap ((IntKind.u64.wrap (a0)) * (IntKind.u64.wrap (a1)))) + (IntKind.u64.wrap (a2)))) - 1)) (IntKind.u64.wrap (a2))))))))) else (some false))) = some r := H
  have A4 := Aside0.mk A40
  clear A40
  by_cases c5 : a2 = 0
  · rw [if_pos c5] at H
    have c5b0 : (a2 == 0) = true := beq_iff_eq.mpr c5
    have c5b1 : (a2 != 0) = false := bne_eq_false_iff_eq.mpr c5
    clear c5
    obtain rfl := Option.some.inj H
    go_enter Try.func5, Try.ntmps5
    go_wp2_with (first | (go_at_call 22; (with_reducible refine (impl_QScale.calls 2 1 1 t102 _ A4.out).mono ?_); rintro e w' ⟨rfl, ⟨nd, rfl⟩⟩; (try first | exact ⟨rfl, _, World.drewN_drewN _ _ _⟩ | exact ⟨rfl, _, Eq.trans (World.drewN_drewN _ _ _) (congrArg (World.drewN _) (Nat.add_assoc _ _ _))⟩)))
    repeat (go_quiet (first | (go_at_call 22; (with_reducible refine (impl_QScale.calls 2 1 1 t102 _ A4.out).mono ?_); rintro e w' ⟨rfl, ⟨nd, rfl⟩⟩; (try first | exact ⟨rfl, _, World.drewN_drewN _ _ _⟩ | exact ⟨rfl, _, Eq.trans (World.drewN_drewN _ _ _) (congrArg (World.drewN _) (Nat.add_assoc _ _ _))⟩))); try go_wp2_with (first | (go_at_call 22; (with_reducible refine (impl_QScale.calls 2 1 1 t102 _ A4.out).mono ?_); rintro e w' ⟨rfl, ⟨nd, rfl⟩⟩; (try first | exact ⟨rfl, _, World.drewN_drewN _ _ _⟩ | exact ⟨rfl, _, Eq.trans (World.drewN_drewN _ _ _) (congrArg (World.drewN _) (Nat.add_assoc _ _ _))⟩))))
    go_ret
    exact ⟨by first | rfl | (simp; done) | (simp [*]; done), by repeat (first | exact Drawn0.refl _ | apply Drawn0.step)⟩
  · rw [if_neg c5] at H
    have c5b0 : (a2 == 0) = false := beq_eq_false_iff_ne.mpr c5
    have c5b1 : (a2 != 0) = true := bne_iff_ne.mpr c5
    by_cases c6 : t102 ≥ 2
    · rw [if_pos c6] at H
      have c6b0 : decide (2 ≤ t102) = true := decide_eq_true c6
      clear c6
      replace H := Option.bind_eq_some_iff.mp H
      obtain ⟨t103, A70, H⟩ := H
      replace H : (if (IntKind.u64.wrap (a2)) = 0 then (none) else (some (decide (t103 ≥ (IntKind.u64.wrap (Int.tdiv (IntKind.u64.wrap ((IntKind.u64.wrap ((IntKind.u64.wrap ((IntKind.u64.wrap (a0)) * (IntKind.u64.wrap (a1)))) + (IntKind.u64.wrap (a2)))) - 1)) (IntKind.u64.wrap (a2)))))))) = some r := H
      have A7 := Aside0.mk A70
      clear A70
      by_cases c8 : (IntKind.u64.wrap (a2)) = 0
      · rw [if_pos c8] at H
        exact absurd H (by simp)
      · rw [if_neg c8] at H
        have c8b0 : ((IntKind.u64.wrap (a2)) == 0) = false := beq_eq_false_iff_ne.mpr c8
        have c8b1 : ((IntKind.u64.wrap (a2)) != 0) = true := bne_iff_ne.mpr c8
        obtain rfl := Option.some.inj H
        go_enter Try.func5, Try.ntmps5
        go_wp2_with (first | (go_at_call 22; (with_reducible refine (impl_QScale.calls 2 1 1 t102 _ A4.out).mono ?_); rintro e w' ⟨rfl, ⟨nd, rfl⟩⟩; (try first | exact ⟨rfl, _, World.drewN_drewN _ _ _⟩ | exact ⟨rfl, _, Eq.trans (World.drewN_drewN _ _ _) (congrArg (World.drewN _) (Nat.add_assoc _ _ _))⟩)) | (go_at_call 22; (with_reducible refine (impl_QScale.calls a0 a1 a2 t103 _ A7.out).mono ?_); rintro e w' ⟨rfl, ⟨nd, rfl⟩⟩; (try first | exact ⟨rfl, _, World.drewN_drewN _ _ _⟩ | exact ⟨rfl, _, Eq.trans (World.drewN_drewN _ _ _) (congrArg (World.drewN _) (Nat.add_assoc _ _ _))⟩)))
        repeat (go_quiet (first | (go_at_call 22; (with_reducible refine (impl_QScale.calls 2 1 1 t102 _ A4.out).mono ?_); rintro e w' ⟨rfl, ⟨nd, rfl⟩⟩; (try first | exact ⟨rfl, _, World.drewN_drewN _ _ _⟩ | exact ⟨rfl, _, Eq.trans (World.drewN_drewN _ _ _) (congrArg (World.drewN _) (Nat.add_assoc _ _ _))⟩)) | (go_at_call 22; (with_reducible refine (impl_QScale.calls a0 a1 a2 t103 _ A7.out).mono ?_); rintro e w' ⟨rfl, ⟨nd, rfl⟩⟩; (try first | exact ⟨rfl, _, World.drewN_drewN _ _ _⟩ | exact ⟨rfl, _, Eq.trans (World.drewN_drewN _ _ _) (congrArg (World.drewN _) (Nat.add_assoc _ _ _))⟩))); try go_wp2_with (first | (go_at_call 22; (with_reducible refine (impl_QScale.calls 2 1 1 t102 _ A4.out).mono ?_); rintro e w' ⟨rfl, ⟨nd, rfl⟩⟩; (try first | exact ⟨rfl, _, World.drewN_drewN _ _ _⟩ | exact ⟨rfl, _, Eq.trans (World.drewN_drewN _ _ _) (congrArg (World.drewN _) (Nat.add_assoc _ _ _))⟩)) | (go_at_call 22; (with_reducible refine (impl_QScale.calls a0 a1 a2 t103 _ A7.out).mono ?_); rintro e w' ⟨rfl, ⟨nd, rfl⟩⟩; (try first | exact ⟨rfl, _, World.drewN_drewN _ _ _⟩ | exact ⟨rfl, _, Eq.trans (World.drewN_drewN _ _ _) (congrArg (World.drewN _) (Nat.add_assoc _ _ _))⟩))))
        go_ret
        exact ⟨by first | rfl | (simp; done) | (simp [*]; done), by repeat (first | exact Drawn0.refl _ | apply Drawn0.step)⟩
    · rw [if_neg c6] at H
      have c6b0 : decide (2 ≤ t102) = false := decide_eq_false c6
      clear c6
      obtain rfl := Option.some.inj H
      go_enter Try.func5, Try.ntmps5
      go_wp2_with (first | (go_at_call 22; (with_reducible refine (impl_QScale.calls 2 1 1 t102 _ A4.out).mono ?_); rintro e w' ⟨rfl, ⟨nd, rfl⟩⟩; (try first | exact ⟨rfl, _, World.drewN_drewN _ _ _⟩ | exact ⟨rfl, _, Eq.trans (World.drewN_drewN _ _ _) (congrArg (World.drewN _) (Nat.add_assoc _ _ _))⟩)))
      repeat (go_quiet (first | (go_at_call 22; (with_reducible refine (impl_QScale.calls 2 1 1 t102 _ A4.out).mono ?_); rintro e w' ⟨rfl, ⟨nd, rfl⟩⟩; (try first | exact ⟨rfl, _, World.drewN_drewN _ _ _⟩ | exact ⟨rfl, _, Eq.trans (World.drewN_drewN _ _ _) (congrArg (World.drewN _) (Nat.add_assoc _ _ _))⟩))); try go_wp2_with (first | (go_at_call 22; (with_reducible refine (impl_QScale.calls 2 1 1 t102 _ A4.out).mono ?_); rintro e w' ⟨rfl, ⟨nd, rfl⟩⟩; (try first | exact ⟨rfl, _, World.drewN_drewN _ _ _⟩ | exact ⟨rfl, _, Eq.trans (World.drewN_drewN _ _ _) (congrArg (World.drewN _) (Nat.add_assoc _ _ _))⟩))))
      go_ret
      exact ⟨by first | rfl | (simp; done) | (simp [*]; done), by repeat (first | exact Drawn0.refl _ | apply Drawn0.step)⟩

/-- THE ONE PURE STATEMENT of laws_FnQScale: yours. -/
def laws_FnQScale.Pure : Prop := ∀ (a0 : Int) (a1 : Int) (a2 : Int), (Lit.int .u32 a0).wf = true → (Lit.int .u32 a1).wf = true → (Lit.int .u32 a2).wf = true → laws_FnQScale.f a0 a1 a2 = some true
theorem laws_FnQScale.walk (P : laws_FnQScale.Pure) (a0 : Int) (a1 : Int) (a2 : Int) (w : World) (w0 : (Lit.int .u32 a0).wf = true) (w1 : (Lit.int .u32 a1).wf = true) (w2 : (Lit.int .u32 a2).wf = true) :
    Calls Try.prog 5 #[.int .u32 a0, .int .u32 a1, .int .u32 a2] w fun e w' => e = .returned (.bool true) ∧ Below w.heap.size w w' := by
  have h := P a0 a1 a2 w0 w1 w2
  refine (laws_FnQScale.calls a0 a1 a2 true w h).mono ?_
  rintro e w' ⟨rfl, hd⟩
  exact ⟨rfl, hd.below⟩

end Go.Proofs.Ytjfefhjnpokcbaa.PFnQScale
