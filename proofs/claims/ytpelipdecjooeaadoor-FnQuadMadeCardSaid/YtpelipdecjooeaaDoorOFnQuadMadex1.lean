/- The functions that the law 'FnQuadMade' reaches, each with its contract. -/
import Derived.Test.YtpelipdecjooeaaDoorOFnQuadMadex0
import Derived.Test.YtpelipdecjooeaaDoorQpdC
namespace Go.Proofs.YtpelipdecjooeaaDoor.PFnQuadMade
open Go.RowKit Go.Proofs.YtpelipdecjooeaaDoorW.PrintWords Go.Proofs.YtpelipdecjooeaaDoorW.PrintLast Go.Proofs.YtpelipdecjooeaaDoorW.PrintMore
attribute [local go_sem] max2_int min2_int max_two min_two max_three min_three max_four min_four   -- for this text's walks alone
set_option linter.unusedVariables false
set_option linter.unusedSimpArgs false

-- NOT PRINTED: function 15 (mathutil_BitLenUint64)

/-! ### mathutil_abs: function 16 -/
def mathutil_abs.f (a0 : Int) : Option (Int) := if a0 ≥ 0 then (some (IntKind.u64.wrap (a0))) else (some (IntKind.u64.wrap (wrap64 (-a0))))
set_option maxHeartbeats 8000000 in
set_option maxRecDepth 100000 in
theorem mathutil_abs.calls (a0 : Int) (r : Int) (w : World) (h : mathutil_abs.f a0 = some r) :
    Calls Tryd.prog 16 #[.int .i64 a0] w fun e w' => e = .returned (.int .u64 r) ∧ Drawn0 w w' := by
  have H : (if a0 ≥ 0 then (some (IntKind.u64.wrap (a0))) else (some (IntKind.u64.wrap (wrap64 (-a0))))) = some r := h
  clear h
  by_cases c2 : a0 ≥ 0
  · rw [if_pos c2] at H
    have c2b0 : decide (0 ≤ a0) = true := decide_eq_true c2
    clear c2
    obtain rfl := Option.some.inj H
    go_enter Tryd.func16, Tryd.ntmps16
    go_wp2
    go_ret
    exact ⟨by first | rfl | (simp; done) | (simp [*]; done), by repeat (first | exact Drawn0.refl _ | apply Drawn0.step)⟩
  · rw [if_neg c2] at H
    have c2b0 : decide (0 ≤ a0) = false := decide_eq_false c2
    clear c2
    obtain rfl := Option.some.inj H
    go_enter Tryd.func16, Tryd.ntmps16
    go_wp2
    go_ret
    exact ⟨by first | rfl | (simp; done) | (simp [*]; done), by repeat (first | exact Drawn0.refl _ | apply Drawn0.step)⟩

-- NOT PRINTED: function 17 (errors_New)

/-! ### mathutil_SqrtUint64: function 18 -/
def mathutil_SqrtUint64.l0 : Nat → Int → Int → Int → Option (Int)
  | 0, _, _, _ => none
  | k + 1, x0, x2, x3 => if x2 = 0 then (none) else (if (IntKind.u64.wrap (Int.tdiv (IntKind.u64.wrap (x2 + (IntKind.u64.wrap (Int.tdiv x0 x2)))) 2)) = x2 then (some x2) else (if (IntKind.u64.wrap (Int.tdiv (IntKind.u64.wrap (x2 + (IntKind.u64.wrap (Int.tdiv x0 x2)))) 2)) = x3 then (some x2) else (mathutil_SqrtUint64.l0 k x0 (IntKind.u64.wrap (Int.tdiv (IntKind.u64.wrap (x2 + (IntKind.u64.wrap (Int.tdiv x0 x2)))) 2)) x2)))
def mathutil_SqrtUint64.f (k : Nat) (a0 : Int) : Option (Int) := if a0 = 0 then (some 0) else (if a0 ≥ 18446744065119617025 then (some 4294967295) else (mathutil_SqrtUint64.l0 k a0 a0 0))
theorem mathutil_SqrtUint64.mono_l : ∀ k, (∀ y0 y1 y2, LeO (mathutil_SqrtUint64.l0 k y0 y1 y2) (mathutil_SqrtUint64.l0 (k + 1) y0 y1 y2))
  | 0 => fun _ _ _ r h => by simp [mathutil_SqrtUint64.l0] at h
  | k + 1 => by
    have ih0 := mathutil_SqrtUint64.mono_l k
    · intro y0 y1 y2
      unfold mathutil_SqrtUint64.l0
      repeat' first
      | (with_reducible exact ih0 _ _ _)
      | (with_reducible exact LeO.refl _)
      | (with_reducible exact LeO.none _)
      | (with_reducible refine LeO.ite ?_ ?_)
      | (with_reducible refine LeO.bind ?_ (fun _ => ?_))
      | exact ih0 _ _ _
      | exact LeO.none _
      | refine LeO.ite ?_ ?_
      | refine LeO.bind ?_ (fun _ => ?_)
theorem mathutil_SqrtUint64.mono : ∀ a0 k, LeO (mathutil_SqrtUint64.f k a0) (mathutil_SqrtUint64.f (k + 1) a0) := by
  intro a0 k
  have ih0 := mathutil_SqrtUint64.mono_l k
  unfold mathutil_SqrtUint64.f
  repeat' first
      | (with_reducible exact ih0 _ _ _)
      | (with_reducible exact LeO.refl _)
      | (with_reducible exact LeO.none _)
      | (with_reducible refine LeO.ite ?_ ?_)
      | (with_reducible refine LeO.bind ?_ (fun _ => ?_))
      | exact ih0 _ _ _
      | exact LeO.none _
      | refine LeO.ite ?_ ?_
      | refine LeO.bind ?_ (fun _ => ?_)
set_option maxHeartbeats 8000000 in
set_option maxRecDepth 100000 in
theorem mathutil_SqrtUint64.calls (k : Nat) (a0 : Int) (r : Int) (w : World) (h : mathutil_SqrtUint64.f k a0 = some r) :
    Calls Tryd.prog 18 #[.int .u64 a0] w fun e w' => e = .returned (.int .u64 r) ∧ Drawn0 w w' := by
  have H : (if a0 = 0 then (some 0) else (if a0 ≥ 18446744065119617025 then (some 4294967295) else (mathutil_SqrtUint64.l0 k a0 a0 0))) = some r := h
  clear h
  by_cases c2 : a0 = 0
  · rw [if_pos c2] at H
    have c2b0 : (a0 == 0) = true := beq_iff_eq.mpr c2
    have c2b1 : (a0 != 0) = false := bne_eq_false_iff_eq.mpr c2
    clear c2
    obtain rfl := Option.some.inj H
    go_enter Tryd.func18, Tryd.ntmps18
    go_wp2
    go_ret
    exact ⟨by first | rfl | (simp; done) | (simp [*]; done), by repeat (first | exact Drawn0.refl _ | apply Drawn0.step)⟩
  · rw [if_neg c2] at H
    have c2b0 : (a0 == 0) = false := beq_eq_false_iff_ne.mpr c2
    have c2b1 : (a0 != 0) = true := bne_iff_ne.mpr c2
    by_cases c3 : a0 ≥ 18446744065119617025
    · rw [if_pos c3] at H
      have c3b0 : decide (18446744065119617025 ≤ a0) = true := decide_eq_true c3
      clear c3
      obtain rfl := Option.some.inj H
      go_enter Tryd.func18, Tryd.ntmps18
      go_wp2
      go_ret
      exact ⟨by first | rfl | (simp; done) | (simp [*]; done), by repeat (first | exact Drawn0.refl _ | apply Drawn0.step)⟩
    · rw [if_neg c3] at H
      have c3b0 : decide (18446744065119617025 ≤ a0) = false := decide_eq_false c3
      clear c3
      have H' := Aside0.mk H
      clear H
      go_enter Tryd.func18, Tryd.ntmps18
      go_wp2
      go_loopg [2, 3] k (fun kq v2 v3 w' => ∃ (x2_1 : Int) (x3_1 : Int), v2 = .int .u64 x2_1 ∧ v3 = .int .u64 x3_1 ∧ Aside0 (mathutil_SqrtUint64.l0 kq a0 x2_1 x3_1 = some r) ∧ Aside0 (kq ≤ k) ∧ Drawn0 w w')
      case atStart => exact ⟨(a0), (0), (by first | rfl | (simp; done) | (simp [*]; done)), (by first | rfl | (simp; done) | (simp [*]; done)), H', ⟨Nat.le_refl _⟩, by repeat (first | exact Drawn0.refl _ | apply Drawn0.step)⟩
      case round =>
        clear H'
        try clear c1
        try clear c2
        try clear c2b0
        try clear c2b1
        try clear p2
        try clear c3
        try clear c3b0
        obtain ⟨x2_1, x3_1, rfl, rfl, HA, HK1, ⟨m1, rfl⟩⟩ := hrel
        cases gk with
        | zero => exact absurd HA.out (by simp [mathutil_SqrtUint64.l0])
        | succ k1 =>
          have H := HA.out
          clear HA
          simp only [mathutil_SqrtUint64.l0] at H
          by_cases c4 : x2_1 = 0
          · rw [if_pos c4] at H
            exact absurd H (by simp)
          · rw [if_neg c4] at H
            have c4b0 : (x2_1 == 0) = false := beq_eq_false_iff_ne.mpr c4
            have c4b1 : (x2_1 != 0) = true := bne_iff_ne.mpr c4
            by_cases c5 : (IntKind.u64.wrap (Int.tdiv (IntKind.u64.wrap (x2_1 + (IntKind.u64.wrap (Int.tdiv a0 x2_1)))) 2)) = x2_1
            · rw [if_pos c5] at H
              have c5b0 : ((IntKind.u64.wrap (Int.tdiv (IntKind.u64.wrap (x2_1 + (IntKind.u64.wrap (Int.tdiv a0 x2_1)))) 2)) == x2_1) = true := beq_iff_eq.mpr c5
              have c5b1 : ((IntKind.u64.wrap (Int.tdiv (IntKind.u64.wrap (x2_1 + (IntKind.u64.wrap (Int.tdiv a0 x2_1)))) 2)) != x2_1) = false := bne_eq_false_iff_eq.mpr c5
              clear c5
              obtain rfl := Option.some.inj H
              go_wp2
              go_ret
              exact ⟨by first | rfl | (simp; done) | (simp [*]; done), by repeat (first | exact Drawn0.refl _ | apply Drawn0.step)⟩
            · rw [if_neg c5] at H
              have c5b0 : ((IntKind.u64.wrap (Int.tdiv (IntKind.u64.wrap (x2_1 + (IntKind.u64.wrap (Int.tdiv a0 x2_1)))) 2)) == x2_1) = false := beq_eq_false_iff_ne.mpr c5
              have c5b1 : ((IntKind.u64.wrap (Int.tdiv (IntKind.u64.wrap (x2_1 + (IntKind.u64.wrap (Int.tdiv a0 x2_1)))) 2)) != x2_1) = true := bne_iff_ne.mpr c5
              by_cases c6 : (IntKind.u64.wrap (Int.tdiv (IntKind.u64.wrap (x2_1 + (IntKind.u64.wrap (Int.tdiv a0 x2_1)))) 2)) = x3_1
              · rw [if_pos c6] at H
                have c6b0 : ((IntKind.u64.wrap (Int.tdiv (IntKind.u64.wrap (x2_1 + (IntKind.u64.wrap (Int.tdiv a0 x2_1)))) 2)) == x3_1) = true := beq_iff_eq.mpr c6
                have c6b1 : ((IntKind.u64.wrap (Int.tdiv (IntKind.u64.wrap (x2_1 + (IntKind.u64.wrap (Int.tdiv a0 x2_1)))) 2)) != x3_1) = false := bne_eq_false_iff_eq.mpr c6
                clear c6
                obtain rfl := Option.some.inj H
                go_wp2
                go_ret
                exact ⟨by first | rfl | (simp; done) | (simp [*]; done), by repeat (first | exact Drawn0.refl _ | apply Drawn0.step)⟩
              · rw [if_neg c6] at H
                have c6b0 : ((IntKind.u64.wrap (Int.tdiv (IntKind.u64.wrap (x2_1 + (IntKind.u64.wrap (Int.tdiv a0 x2_1)))) 2)) == x3_1) = false := beq_eq_false_iff_ne.mpr c6
                have c6b1 : ((IntKind.u64.wrap (Int.tdiv (IntKind.u64.wrap (x2_1 + (IntKind.u64.wrap (Int.tdiv a0 x2_1)))) 2)) != x3_1) = true := bne_iff_ne.mpr c6
                have H' := Aside0.mk H
                clear H
                go_wp2
                go_roundg k1
                case measure => have := HK1.out; omega
                case rel => exact ⟨(IntKind.u64.wrap (Int.tdiv (IntKind.u64.wrap (x2_1 + (IntKind.u64.wrap (Int.tdiv a0 x2_1)))) 2)), (x2_1), (by first | rfl | (simp; done) | (simp [*]; done)), (by first | rfl | (simp; done) | (simp [*]; done)), H', ⟨by have := HK1.out; omega⟩, by repeat (first | exact Drawn0.refl _ | apply Drawn0.step)⟩

/-! ### mathutil_QuadPolyDiscriminant: function 13 -/
noncomputable def mathutil_QuadPolyDiscriminant.f (a0 : Int) (a1 : Int) (a2 : Int) : Option (Int × Int × Option Int) := QpdC.qpdF a0 a1 a2
theorem mathutil_QuadPolyDiscriminant.calls (a0 : Int) (a1 : Int) (a2 : Int) (r1 : Int) (r2 : Int) (r3 : Option Int) (w : World) (HT : Aside0 (Tab.Tabs w)) (h : mathutil_QuadPolyDiscriminant.f a0 a1 a2 = some (r1, r2, r3)) :
    Calls Tryd.prog 13 #[.int .i64 a0, .int .i64 a1, .int .i64 a2] w fun e w' => e = .returned (.tuple #[.int .i64 r1, .int .i64 r2, errW r3]) ∧ Drawn0 w w' := by
  refine (QpdC.qpd_calls a0 a1 a2 r1 r2 r3 w HT h).mono ?_
  rintro e w' ⟨⟨rfl, rfl⟩, hd⟩
  exact ⟨rfl, hd⟩

/-! ### mathutil_GCDUint64: function 19 -/
def mathutil_GCDUint64.l0 : Nat → Int → Int → Option (Int)
  | 0, _, _ => none
  | k + 1, x0, x1 => if x1 = 0 then (some x0) else (mathutil_GCDUint64.l0 k x1 (Int.tmod x0 x1))
def mathutil_GCDUint64.f (k : Nat) (a0 : Int) (a1 : Int) : Option (Int) := mathutil_GCDUint64.l0 k a0 a1
theorem mathutil_GCDUint64.mono_l : ∀ k, (∀ y0 y1, LeO (mathutil_GCDUint64.l0 k y0 y1) (mathutil_GCDUint64.l0 (k + 1) y0 y1))
  | 0 => fun _ _ r h => by simp [mathutil_GCDUint64.l0] at h
  | k + 1 => by
    have ih0 := mathutil_GCDUint64.mono_l k
    · intro y0 y1
      unfold mathutil_GCDUint64.l0
      repeat' first
      | (with_reducible exact ih0 _ _)
      | (with_reducible exact LeO.refl _)
      | (with_reducible exact LeO.none _)
      | (with_reducible refine LeO.ite ?_ ?_)
      | (with_reducible refine LeO.bind ?_ (fun _ => ?_))
      | exact ih0 _ _
      | exact LeO.none _
      | refine LeO.ite ?_ ?_
      | refine LeO.bind ?_ (fun _ => ?_)
theorem mathutil_GCDUint64.mono : ∀ a0 a1 k, LeO (mathutil_GCDUint64.f k a0 a1) (mathutil_GCDUint64.f (k + 1) a0 a1) := by
  intro a0 a1 k
  have ih0 := mathutil_GCDUint64.mono_l k
  unfold mathutil_GCDUint64.f
  repeat' first
      | (with_reducible exact ih0 _ _)
      | (with_reducible exact LeO.refl _)
      | (with_reducible exact LeO.none _)
      | (with_reducible refine LeO.ite ?_ ?_)
      | (with_reducible refine LeO.bind ?_ (fun _ => ?_))
      | exact ih0 _ _
      | exact LeO.none _
      | refine LeO.ite ?_ ?_
      | refine LeO.bind ?_ (fun _ => ?_)
set_option maxHeartbeats 8000000 in
set_option maxRecDepth 100000 in
theorem mathutil_GCDUint64.calls (k : Nat) (a0 : Int) (a1 : Int) (r : Int) (w : World) (h : mathutil_GCDUint64.f k a0 a1 = some r) :
    Calls Tryd.prog 19 #[.int .u64 a0, .int .u64 a1] w fun e w' => e = .returned (.int .u64 r) ∧ Drawn0 w w' := by
  have H : (mathutil_GCDUint64.l0 k a0 a1) = some r := h
  clear h
  have H' := Aside0.mk H
  clear H
  go_enter Tryd.func19, Tryd.ntmps19
  go_wp2
  repeat (go_quiet (fail); try go_wp2)
  go_loopg [0, 1] k (fun kq v0 v1 w' => ∃ (x0_1 : Int) (x1_1 : Int), v0 = .int .u64 x0_1 ∧ v1 = .int .u64 x1_1 ∧ Aside0 (mathutil_GCDUint64.l0 kq x0_1 x1_1 = some r) ∧ Aside0 (kq ≤ k) ∧ Drawn0 w w')
  case atStart => exact ⟨(a0), (a1), (by first | rfl | (simp; done) | (simp [*]; done)), (by first | rfl | (simp; done) | (simp [*]; done)), H', ⟨Nat.le_refl _⟩, by repeat (first | exact Drawn0.refl _ | apply Drawn0.step)⟩
  case round =>
    clear H'
    try clear c1
    try clear p2
    obtain ⟨x0_1, x1_1, rfl, rfl, HA, HK1, ⟨m1, rfl⟩⟩ := hrel
    cases gk with
    | zero => exact absurd HA.out (by simp [mathutil_GCDUint64.l0])
    | succ k1 =>
      have H := HA.out
      clear HA
      simp only [mathutil_GCDUint64.l0] at H
      by_cases c3 : x1_1 = 0
      · rw [if_pos c3] at H
        have c3b0 : (x1_1 == 0) = true := beq_iff_eq.mpr c3
        have c3b1 : (x1_1 != 0) = false := bne_eq_false_iff_eq.mpr c3
        clear c3
        obtain rfl := Option.some.inj H
        go_wp2
        repeat (go_quiet (fail); try go_wp2)
        go_ret
        exact ⟨by first | rfl | (simp; done) | (simp [*]; done), by repeat (first | exact Drawn0.refl _ | apply Drawn0.step)⟩
      · rw [if_neg c3] at H
        have c3b0 : (x1_1 == 0) = false := beq_eq_false_iff_ne.mpr c3
        have c3b1 : (x1_1 != 0) = true := bne_iff_ne.mpr c3
        have H' := Aside0.mk H
        clear H
        go_wp2
        repeat (go_quiet (fail); try go_wp2)
        go_roundg k1
        case measure => have := HK1.out; omega
        case rel => exact ⟨(x1_1), (Int.tmod x0_1 x1_1), (by first | rfl | (simp; done) | (simp [*]; done)), (by first | rfl | (simp; done) | (simp [*]; done)), H', ⟨by have := HK1.out; omega⟩, by repeat (first | exact Drawn0.refl _ | apply Drawn0.step)⟩

/-! ### mathutil_QuadPolyFactors: function 14 -/
mutual
noncomputable def mathutil_QuadPolyFactors.j0 : Nat → Int → Int → Int → Int → Option (Int × (List (S43)) × Option Int)
  | 0, _, _, _, _ => none
  | k + 1, x0, x1, x2, x6 => if x6 = 0 then (none) else (if (wrap64 (Int.tdiv x0 x6)) = 0 then (if (wrap64 (Int.tdiv x1 x6)) = 0 then (some (x6, (([(⟨0, wrap64 (Int.tdiv x2 x6)⟩ : S43)] : List (S43))), none)) else (if (wrap64 (Int.tdiv x1 x6)) < 0 then (mathutil_QuadPolyFactors.j1 k (wrap64 (Int.tdiv x1 x6)) (wrap64 (Int.tdiv x2 x6)) x6 (decide ((wrap64 (Int.tdiv x2 x6)) < 0))) else (mathutil_QuadPolyFactors.j1 k (wrap64 (Int.tdiv x1 x6)) (wrap64 (Int.tdiv x2 x6)) x6 false))) else ((mathutil_QuadPolyDiscriminant.f (wrap64 (Int.tdiv x0 x6)) (wrap64 (Int.tdiv x1 x6)) (wrap64 (Int.tdiv x2 x6))).bind fun bt122 => (if bt122.2.2.isNone = true then (if bt122.1 < 0 then (mathutil_QuadPolyFactors.j2 k (wrap64 (Int.tdiv x0 x6)) (wrap64 (Int.tdiv x1 x6)) x6 bt122.2.1 true) else (mathutil_QuadPolyFactors.j2 k (wrap64 (Int.tdiv x0 x6)) (wrap64 (Int.tdiv x1 x6)) x6 bt122.2.1 (decide (bt122.2.1 < 0)))) else (some (0, ([] : List (S43)), some (bt122.2.2.getD 0))))))
noncomputable def mathutil_QuadPolyFactors.j1 : Nat → Int → Int → Int → Bool → Option (Int × (List (S43)) × Option Int)
  | 0, _, _, _, _ => none
  | k + 1, x1, x2, x6, x66 => if x66 = true then (if (wrap64 (-x1)) < 0 then (some (x6, (([(⟨wrap64 (-(wrap64 (-x1))), wrap64 (-(wrap64 (-x2)))⟩ : S43)] : List (S43))), none)) else (some (x6, (([(⟨wrap64 (-x1), wrap64 (-x2)⟩ : S43)] : List (S43))), none))) else (if x1 < 0 then (some (x6, (([(⟨wrap64 (-x1), wrap64 (-x2)⟩ : S43)] : List (S43))), none)) else (some (x6, (([(⟨x1, x2⟩ : S43)] : List (S43))), none)))
noncomputable def mathutil_QuadPolyFactors.j2 : Nat → Int → Int → Int → Int → Bool → Option (Int × (List (S43)) × Option Int)
  | 0, _, _, _, _, _ => none
  | k + 1, x0, x1, x6, x10, x98 => if x98 = true then (some (0, ([] : List (S43)), none)) else ((mathutil_abs.f (wrap64 ((wrap64 (-x1)) + x10))).bind fun t126 => ((mathutil_abs.f (wrap64 (2 * x0))).bind fun t127 => ((mathutil_GCDUint64.f k t126 t127).bind fun t128 => (if (wrap64 (t128)) = 0 then (none) else ((mathutil_abs.f (wrap64 ((wrap64 (-x1)) - x10))).bind fun t129 => ((mathutil_abs.f (wrap64 (2 * x0))).bind fun t130 => ((mathutil_GCDUint64.f k t129 t130).bind fun t131 => (if (wrap64 (t131)) = 0 then (none) else (some (x6, (([(⟨wrap64 (Int.tdiv (wrap64 (2 * x0)) (wrap64 (t128))), wrap64 (-(wrap64 (Int.tdiv (wrap64 ((wrap64 (-x1)) + x10)) (wrap64 (t128)))))⟩ : S43), (⟨wrap64 (Int.tdiv (wrap64 (2 * x0)) (wrap64 (t131))), wrap64 (-(wrap64 (Int.tdiv (wrap64 ((wrap64 (-x1)) - x10)) (wrap64 (t131)))))⟩ : S43)] : List (S43))), none))))))))))
end
noncomputable def mathutil_QuadPolyFactors.f (k : Nat) (a0 : Int) (a1 : Int) (a2 : Int) : Option (Int × (List (S43)) × Option Int) := (mathutil_abs.f a0).bind fun t102 => ((mathutil_abs.f a1).bind fun t103 => ((mathutil_abs.f a2).bind fun t104 => ((mathutil_GCDUint64.f k t103 t104).bind fun t105 => ((mathutil_GCDUint64.f k t102 t105).bind fun t106 => (if (wrap64 (t106)) = 0 then (mathutil_QuadPolyFactors.j0 k a0 a1 a2 1) else (if (wrap64 (t106)) > 0 then (if a0 < 0 then (mathutil_QuadPolyFactors.j0 k a0 a1 a2 (wrap64 (-(wrap64 (t106))))) else (if a0 = 0 then (if a1 < 0 then (mathutil_QuadPolyFactors.j0 k a0 a1 a2 (wrap64 (-(wrap64 (t106))))) else (mathutil_QuadPolyFactors.j0 k a0 a1 a2 (wrap64 (t106)))) else (mathutil_QuadPolyFactors.j0 k a0 a1 a2 (wrap64 (t106))))) else (mathutil_QuadPolyFactors.j0 k a0 a1 a2 (wrap64 (t106)))))))))
theorem mathutil_QuadPolyFactors.mono_l : ∀ k, (∀ y0 y1 y2 y3, LeO (mathutil_QuadPolyFactors.j0 k y0 y1 y2 y3) (mathutil_QuadPolyFactors.j0 (k + 1) y0 y1 y2 y3)) ∧ (∀ y0 y1 y2 y3, LeO (mathutil_QuadPolyFactors.j1 k y0 y1 y2 y3) (mathutil_QuadPolyFactors.j1 (k + 1) y0 y1 y2 y3)) ∧ (∀ y0 y1 y2 y3 y4, LeO (mathutil_QuadPolyFactors.j2 k y0 y1 y2 y3 y4) (mathutil_QuadPolyFactors.j2 (k + 1) y0 y1 y2 y3 y4))
  | 0 => ⟨fun _ _ _ _ r h => by simp [mathutil_QuadPolyFactors.j0] at h, fun _ _ _ _ r h => by simp [mathutil_QuadPolyFactors.j1] at h, fun _ _ _ _ _ r h => by simp [mathutil_QuadPolyFactors.j2] at h⟩
  | k + 1 => by
    obtain ⟨ih0, ih1, ih2⟩ := mathutil_QuadPolyFactors.mono_l k
    refine ⟨?_, ?_, ?_⟩
    · intro y0 y1 y2 y3
      unfold mathutil_QuadPolyFactors.j0
      repeat' first
      | (with_reducible exact ih0 _ _ _ _)
      | (with_reducible exact ih1 _ _ _ _)
      | (with_reducible exact ih2 _ _ _ _ _)
      | (with_reducible exact mathutil_GCDUint64.mono _ _ _)
      | (with_reducible exact LeO.refl _)
      | (with_reducible exact LeO.none _)
      | (with_reducible refine LeO.ite ?_ ?_)
      | (with_reducible refine LeO.bind ?_ (fun _ => ?_))
      | exact ih0 _ _ _ _
      | exact ih1 _ _ _ _
      | exact ih2 _ _ _ _ _
      | exact mathutil_GCDUint64.mono _ _ _
      | exact LeO.none _
      | refine LeO.ite ?_ ?_
      | refine LeO.bind ?_ (fun _ => ?_)
    · intro y0 y1 y2 y3
      unfold mathutil_QuadPolyFactors.j1
      repeat' first
      | (with_reducible exact ih0 _ _ _ _)
      | (with_reducible exact ih1 _ _ _ _)
      | (with_reducible exact ih2 _ _ _ _ _)
      | (with_reducible exact mathutil_GCDUint64.mono _ _ _)
      | (with_reducible exact LeO.refl _)
      | (with_reducible exact LeO.none _)
      | (with_reducible refine LeO.ite ?_ ?_)
      | (with_reducible refine LeO.bind ?_ (fun _ => ?_))
      | exact ih0 _ _ _ _
      | exact ih1 _ _ _ _
      | exact ih2 _ _ _ _ _
      | exact mathutil_GCDUint64.mono _ _ _
      | exact LeO.none _
      | refine LeO.ite ?_ ?_
      | refine LeO.bind ?_ (fun _ => ?_)
    · intro y0 y1 y2 y3 y4
      unfold mathutil_QuadPolyFactors.j2
      repeat' first
      | (with_reducible exact ih0 _ _ _ _)
      | (with_reducible exact ih1 _ _ _ _)
      | (with_reducible exact ih2 _ _ _ _ _)
      | (with_reducible exact mathutil_GCDUint64.mono _ _ _)
      | (with_reducible exact LeO.refl _)
      | (with_reducible exact LeO.none _)
      | (with_reducible refine LeO.ite ?_ ?_)
      | (with_reducible refine LeO.bind ?_ (fun _ => ?_))
      | exact ih0 _ _ _ _
      | exact ih1 _ _ _ _
      | exact ih2 _ _ _ _ _
      | exact mathutil_GCDUint64.mono _ _ _
      | exact LeO.none _
      | refine LeO.ite ?_ ?_
      | refine LeO.bind ?_ (fun _ => ?_)
theorem mathutil_QuadPolyFactors.mono : ∀ a0 a1 a2 k, LeO (mathutil_QuadPolyFactors.f k a0 a1 a2) (mathutil_QuadPolyFactors.f (k + 1) a0 a1 a2) := by
  intro a0 a1 a2 k
  obtain ⟨ih0, ih1, ih2⟩ := mathutil_QuadPolyFactors.mono_l k
  unfold mathutil_QuadPolyFactors.f
  repeat' first
      | (with_reducible exact ih0 _ _ _ _)
      | (with_reducible exact ih1 _ _ _ _)
      | (with_reducible exact ih2 _ _ _ _ _)
      | (with_reducible exact mathutil_GCDUint64.mono _ _ _)
      | (with_reducible exact LeO.refl _)
      | (with_reducible exact LeO.none _)
      | (with_reducible refine LeO.ite ?_ ?_)
      | (with_reducible refine LeO.bind ?_ (fun _ => ?_))
      | exact ih0 _ _ _ _
      | exact ih1 _ _ _ _
      | exact ih2 _ _ _ _ _
      | exact mathutil_GCDUint64.mono _ _ _
      | exact LeO.none _
      | refine LeO.ite ?_ ?_
      | refine LeO.bind ?_ (fun _ => ?_)
set_option maxHeartbeats 8000000 in
set_option maxRecDepth 100000 in
theorem mathutil_QuadPolyFactors.calls (k : Nat) (a0 : Int) (a1 : Int) (a2 : Int) (r1 : Int) (r2 : List (S43)) (r3 : Option Int) (w : World) (HT : Aside0 (Tab.Tabs w)) (h : mathutil_QuadPolyFactors.f k a0 a1 a2 = some (r1, r2, r3)) :
    Calls Tryd.prog 14 #[.int .i64 a0, .int .i64 a1, .int .i64 a2] w fun e w' => ∃ v1_ : Value, e = .returned (.tuple #[.int .i64 r1, v1_, errW r3]) ∧ Kd.R k43 43 w' w.heap.size (fun _ => True) v1_ r2 ∧ Below w.heap.size w w' := by
  have hu43 := Tryd.underlying43
  have hu36 := Tryd.underlying36
  have HB := Aside0.mk (Below.refl w.heap.size w)
  have H : ((mathutil_abs.f a0).bind fun t102 => ((mathutil_abs.f a1).bind fun t103 => ((mathutil_abs.f a2).bind fun t104 => ((mathutil_GCDUint64.f k t103 t104).bind fun t105 => ((mathutil_GCDUint64.f k t102 t105).bind fun t106 => (if (wrap64 (t106)) = 0 then (mathutil_QuadPolyFactors.j0 k a0 a1 a2 1) else (if (wrap64 (t106)) > 0 then (if a0 < 0 then (mathutil_QuadPolyFactors.j0 k a0 a1 a2 (wrap64 (-(wrap64 (t106))))) else (if a0 = 0 then (if a1 < 0 then (mathutil_QuadPolyFactors.j0 k a0 a1 a2 (wrap64 (-(wrap64 (t106))))) else (mathutil_QuadPolyFactors.j0 k a0 a1 a2 (wrap64 (t106)))) else (mathutil_QuadPolyFactors.j0 k a0 a1 a2 (wrap64 (t106))))) else (mathutil_QuadPolyFactors.j0 k a0 a1 a2 (wrap64 (t106)))))))))) = some (r1, r2, r3) := h
  clear h
  replace H := Option.bind_eq_some_iff.mp H
  obtain ⟨t102, A40, H⟩ := H
  replace H : ((mathutil_abs.f a1).bind fun t103 => ((mathutil_abs.f a2).bind fun t104 => ((mathutil_GCDUint64.f k t103 t104).bind fun t105 => ((mathutil_GCDUint64.f k t102 t105).bind fun t106 => (if (wrap64 (t106)) = 0 then (mathutil_QuadPolyFactors.j0 k a0 a1 a2 1) else (if (wrap64 (t106)) > 0 then (if a0 < 0 then (mathutil_QuadPolyFactors.j0 k a0 a1 a2 (wrap64 (-(wrap64 (t106))))) else (if a0 = 0 then (if a1 < 0 then (mathutil_QuadPolyFactors.j0 k a0 a1 a2 (wrap64 (-(wrap64 (t106))))) else (mathutil_QuadPolyFactors.j0 k a0 a1 a2 (wrap64 (t106)))) else (mathutil_QuadPolyFactors.j0 k a0 a1 a2 (wrap64 (t106))))) else (mathutil_QuadPolyFactors.j0 k a0 a1 a2 (wrap64 (t106))))))))) = some (r1, r2, r3) := H
  have A4 := Aside0.mk A40
  clear A40
  replace H := Option.bind_eq_some_iff.mp H
  obtain ⟨t103, A50, H⟩ := H
  replace H : ((mathutil_abs.f a2).bind fun t104 => ((mathutil_GCDUint64.f k t103 t104).bind fun t105 => ((mathutil_GCDUint64.f k t102 t105).bind fun t106 => (if (wrap64 (t106)) = 0 then (mathutil_QuadPolyFactors.j0 k a0 a1 a2 1) else (if (wrap64 (t106)) > 0 then (if a0 < 0 then (mathutil_QuadPolyFactors.j0 k a0 a1 a2 (wrap64 (-(wrap64 (t106))))) else (if a0 = 0 then (if a1 < 0 then (mathutil_QuadPolyFactors.j0 k a0 a1 a2 (wrap64 (-(wrap64 (t106))))) else (mathutil_QuadPolyFactors.j0 k a0 a1 a2 (wrap64 (t106)))) else (mathutil_QuadPolyFactors.j0 k a0 a1 a2 (wrap64 (t106))))) else (mathutil_QuadPolyFactors.j0 k a0 a1 a2 (wrap64 (t106)))))))) = some (r1, r2, r3) := H
  have A5 := Aside0.mk A50
  clear A50
  replace H := Option.bind_eq_some_iff.mp H
  obtain ⟨t104, A60, H⟩ := H
  replace H : ((mathutil_GCDUint64.f k t103 t104).bind fun t105 => ((mathutil_GCDUint64.f k t102 t105).bind fun t106 => (if (wrap64 (t106)) = 0 then (mathutil_QuadPolyFactors.j0 k a0 a1 a2 1) else (if (wrap64 (t106)) > 0 then (if a0 < 0 then (mathutil_QuadPolyFactors.j0 k a0 a1 a2 (wrap64 (-(wrap64 (t106))))) else (if a0 = 0 then (if a1 < 0 then (mathutil_QuadPolyFactors.j0 k a0 a1 a2 (wrap64 (-(wrap64 (t106))))) else (mathutil_QuadPolyFactors.j0 k a0 a1 a2 (wrap64 (t106)))) else (mathutil_QuadPolyFactors.j0 k a0 a1 a2 (wrap64 (t106))))) else (mathutil_QuadPolyFactors.j0 k a0 a1 a2 (wrap64 (t106))))))) = some (r1, r2, r3) := H
  have A6 := Aside0.mk A60
  clear A60
  replace H := Option.bind_eq_some_iff.mp H
  obtain ⟨t105, A70, H⟩ := H
  replace H : ((mathutil_GCDUint64.f k t102 t105).bind fun t106 => (if (wrap64 (t106)) = 0 then (mathutil_QuadPolyFactors.j0 k a0 a1 a2 1) else (if (wrap64 (t106)) > 0 then (if a0 < 0 then (mathutil_QuadPolyFactors.j0 k a0 a1 a2 (wrap64 (-(wrap64 (t106))))) else (if a0 = 0 then (if a1 < 0 then (mathutil_QuadPolyFactors.j0 k a0 a1 a2 (wrap64 (-(wrap64 (t106))))) else (mathutil_QuadPolyFactors.j0 k a0 a1 a2 (wrap64 (t106)))) else (mathutil_QuadPolyFactors.j0 k a0 a1 a2 (wrap64 (t106))))) else (mathutil_QuadPolyFactors.j0 k a0 a1 a2 (wrap64 (t106)))))) = some (r1, r2, r3) := H
  have A7 := Aside0.mk A70
  clear A70
  replace H := Option.bind_eq_some_iff.mp H
  obtain ⟨t106, A80, H⟩ := H
  replace H : (if (wrap64 (t106)) = 0 then (mathutil_QuadPolyFactors.j0 k a0 a1 a2 1) else (if (wrap64 (t106)) > 0 then (if a0 < 0 then (mathutil_QuadPolyFactors.j0 k a0 a1 a2 (wrap64 (-(wrap64 (t106))))) else (if a0 = 0 then (if a1 < 0 then (mathutil_QuadPolyFactors.j0 k a0 a1 a2 (wrap64 (-(wrap64 (t106))))) else (mathutil_QuadPolyFactors.j0 k a0 a1 a2 (wrap64 (t106)))) else (mathutil_QuadPolyFactors.j0 k a0 a1 a2 (wrap64 (t106))))) else (mathutil_QuadPolyFactors.j0 k a0 a1 a2 (wrap64 (t106))))) = some (r1, r2, r3) := H
  have A8 := Aside0.mk A80
  clear A80
  have HC9 := Aside0.mk H
  clear H
  go_enter Tryd.func14, Tryd.ntmps14
  go_upto_block 0 with (first | ((with_reducible refine gate_callee (f := 16) rfl ?_); refine goesL_ (some 18) rfl rfl Tryd.func16 (by kernel_rfl) rfl #[.int .i64 a0] rfl (by (try simp only [List.map_toArray, List.map_cons, List.map_nil]); first | done | rfl | (simp only [List.length_drop, List.length_take]; rfl)) ?_; (with_reducible refine (mathutil_abs.calls a0 t102 _ A4.out).mono ?_); rintro e w' ⟨rfl, ⟨nd, rfl⟩⟩; refine ⟨_, rfl, ?_⟩) | ((with_reducible refine gate_callee (f := 16) rfl ?_); refine goesL_ (some 20) rfl rfl Tryd.func16 (by kernel_rfl) rfl #[.int .i64 a1] rfl (by (try simp only [List.map_toArray, List.map_cons, List.map_nil]); first | done | rfl | (simp only [List.length_drop, List.length_take]; rfl)) ?_; (with_reducible refine (mathutil_abs.calls a1 t103 _ A5.out).mono ?_); rintro e w' ⟨rfl, ⟨nd, rfl⟩⟩; refine ⟨_, rfl, ?_⟩) | ((with_reducible refine gate_callee (f := 16) rfl ?_); refine goesL_ (some 22) rfl rfl Tryd.func16 (by kernel_rfl) rfl #[.int .i64 a2] rfl (by (try simp only [List.map_toArray, List.map_cons, List.map_nil]); first | done | rfl | (simp only [List.length_drop, List.length_take]; rfl)) ?_; (with_reducible refine (mathutil_abs.calls a2 t104 _ A6.out).mono ?_); rintro e w' ⟨rfl, ⟨nd, rfl⟩⟩; refine ⟨_, rfl, ?_⟩) | ((with_reducible refine gate_callee (f := 19) rfl ?_); refine goesL_ (some 23) rfl rfl Tryd.func19 (by kernel_rfl) rfl #[.int .u64 t103, .int .u64 t104] rfl (by (try simp only [List.map_toArray, List.map_cons, List.map_nil]); first | done | rfl | (simp only [List.length_drop, List.length_take]; rfl)) ?_; (with_reducible refine (mathutil_GCDUint64.calls k t103 t104 t105 _ A7.out).mono ?_); rintro e w' ⟨rfl, ⟨nd, rfl⟩⟩; refine ⟨_, rfl, ?_⟩) | ((with_reducible refine gate_callee (f := 19) rfl ?_); refine goesL_ (some 24) rfl rfl Tryd.func19 (by kernel_rfl) rfl #[.int .u64 t102, .int .u64 t105] rfl (by (try simp only [List.map_toArray, List.map_cons, List.map_nil]); first | done | rfl | (simp only [List.length_drop, List.length_take]; rfl)) ?_; (with_reducible refine (mathutil_GCDUint64.calls k t102 t105 t106 _ A8.out).mono ?_); rintro e w' ⟨rfl, ⟨nd, rfl⟩⟩; refine ⟨_, rfl, ?_⟩))
  (try simp only [Act.put, List.setIfInBounds_toArray, List.set_cons_zero, List.set_cons_succ])
  go_cut [6] (fun v6 wc => ∃ (kq : Nat) (x6_8 : Int), v6 = .int .i64 x6_8 ∧ Aside0 (mathutil_QuadPolyFactors.j0 kq a0 a1 a2 x6_8 = some (r1, r2, r3)) ∧ Aside0 (kq ≤ k) ∧ Aside0 (Below w.heap.size w wc))
  case first =>
    have H := HC9.out
    clear HC9
    by_cases c10 : (wrap64 (t106)) = 0
    · rw [if_pos c10] at H
      have c10b0 : ((wrap64 (t106)) == 0) = true := beq_iff_eq.mpr c10
      have c10b1 : ((wrap64 (t106)) != 0) = false := bne_eq_false_iff_eq.mpr c10
      clear c10
      (first | rw [c10b0] | (simp only [i64_w, i32_w]; rw [c10b0]) | skip)
      have H' := Aside0.mk H
      clear H
      go_wp2
      go_meet
      case rel => exact ⟨_, (1), (by first | rfl | (simp; done) | (simp [*]; done)), H', ⟨by first | omega | exact Nat.le_refl _⟩, ⟨by repeat (first | (with_reducible first | exact HB.out | apply below_alloc | apply pw_below_drewN | apply below_drew1) | exact HB.out)⟩⟩
    · rw [if_neg c10] at H
      have c10b0 : ((wrap64 (t106)) == 0) = false := beq_eq_false_iff_ne.mpr c10
      have c10b1 : ((wrap64 (t106)) != 0) = true := bne_iff_ne.mpr c10
      (first | rw [c10b0] | (simp only [i64_w, i32_w]; rw [c10b0]) | skip)
      by_cases c11 : (wrap64 (t106)) > 0
      · rw [if_pos c11] at H
        have c11b0 : decide (0 < (wrap64 (t106))) = true := decide_eq_true c11
        clear c11
        by_cases c12 : a0 < 0
        · rw [if_pos c12] at H
          have c12b0 : decide (a0 < 0) = true := decide_eq_true c12
          clear c12
          have H' := Aside0.mk H
          clear H
          go_wp2
          go_meet
          case rel => exact ⟨_, (wrap64 (-(wrap64 (t106)))), (by first | rfl | (simp; done) | (simp [*]; done)), H', ⟨by first | omega | exact Nat.le_refl _⟩, ⟨by repeat (first | (with_reducible first | exact HB.out | apply below_alloc | apply pw_below_drewN | apply below_drew1) | exact HB.out)⟩⟩
        · rw [if_neg c12] at H
          have c12b0 : decide (a0 < 0) = false := decide_eq_false c12
          clear c12
          by_cases c13 : a0 = 0
          · rw [if_pos c13] at H
            have c13b0 : (a0 == 0) = true := beq_iff_eq.mpr c13
            have c13b1 : (a0 != 0) = false := bne_eq_false_iff_eq.mpr c13
            clear c13
            by_cases c14 : a1 < 0
            · rw [if_pos c14] at H
              have c14b0 : decide (a1 < 0) = true := decide_eq_true c14
              clear c14
              have H' := Aside0.mk H
              clear H
              go_wp2
              go_meet
              case rel => exact ⟨_, (wrap64 (-(wrap64 (t106)))), (by first | rfl | (simp; done) | (simp [*]; done)), H', ⟨by first | omega | exact Nat.le_refl _⟩, ⟨by repeat (first | (with_reducible first | exact HB.out | apply below_alloc | apply pw_below_drewN | apply below_drew1) | exact HB.out)⟩⟩
            · rw [if_neg c14] at H
              have c14b0 : decide (a1 < 0) = false := decide_eq_false c14
              clear c14
              have H' := Aside0.mk H
              clear H
              go_wp2
              go_meet
              case rel => exact ⟨_, (wrap64 (t106)), (by first | rfl | (simp; done) | (simp [*]; done)), H', ⟨by first | omega | exact Nat.le_refl _⟩, ⟨by repeat (first | (with_reducible first | exact HB.out | apply below_alloc | apply pw_below_drewN | apply below_drew1) | exact HB.out)⟩⟩
          · rw [if_neg c13] at H
            have c13b0 : (a0 == 0) = false := beq_eq_false_iff_ne.mpr c13
            have c13b1 : (a0 != 0) = true := bne_iff_ne.mpr c13
            have H' := Aside0.mk H
            clear H
            go_wp2
            go_meet
            case rel => exact ⟨_, (wrap64 (t106)), (by first | rfl | (simp; done) | (simp [*]; done)), H', ⟨by first | omega | exact Nat.le_refl _⟩, ⟨by repeat (first | (with_reducible first | exact HB.out | apply below_alloc | apply pw_below_drewN | apply below_drew1) | exact HB.out)⟩⟩
      · rw [if_neg c11] at H
        have c11b0 : decide (0 < (wrap64 (t106))) = false := decide_eq_false c11
        clear c11
        have H' := Aside0.mk H
        clear H
        go_wp2
        go_meet
        case rel => exact ⟨_, (wrap64 (t106)), (by first | rfl | (simp; done) | (simp [*]; done)), H', ⟨by first | omega | exact Nat.le_refl _⟩, ⟨by repeat (first | (with_reducible first | exact HB.out | apply below_alloc | apply pw_below_drewN | apply below_drew1) | exact HB.out)⟩⟩
  case rest =>
    clear HC9
    try clear c1
    try clear p2
    try clear p6
    try clear c10
    try clear c10b0
    try clear c10b1
    try clear c11
    try clear c11b0
    try clear c12
    try clear c12b0
    try clear c13
    try clear c13b0
    try clear c13b1
    try clear c14
    try clear c14b0
    obtain ⟨kq, x6_8, rfl, HA, HJ8, HB⟩ := hcut
    cases kq with
    | zero => exact absurd HA.out (by simp [mathutil_QuadPolyFactors.j0])
    | succ kj8 =>
      have H := HA.out
      clear HA
      simp only [mathutil_QuadPolyFactors.j0] at H
      by_cases c15 : x6_8 = 0
      · rw [if_pos c15] at H
        exact absurd H (by simp)
      · rw [if_neg c15] at H
        have c15b0 : (x6_8 == 0) = false := beq_eq_false_iff_ne.mpr c15
        have c15b1 : (x6_8 != 0) = true := bne_iff_ne.mpr c15
        by_cases c16 : (wrap64 (Int.tdiv a0 x6_8)) = 0
        · rw [if_pos c16] at H
          have c16b0 : ((wrap64 (Int.tdiv a0 x6_8)) == 0) = true := beq_iff_eq.mpr c16
          have c16b1 : ((wrap64 (Int.tdiv a0 x6_8)) != 0) = false := bne_eq_false_iff_eq.mpr c16
          clear c16
          by_cases c17 : (wrap64 (Int.tdiv a1 x6_8)) = 0
          · rw [if_pos c17] at H
            have c17b0 : ((wrap64 (Int.tdiv a1 x6_8)) == 0) = true := beq_iff_eq.mpr c17
            have c17b1 : ((wrap64 (Int.tdiv a1 x6_8)) != 0) = false := bne_eq_false_iff_eq.mpr c17
            clear c17
            obtain ⟨y107, hy107⟩ : ∃ y_ : List (S43), y_ = (([(⟨0, wrap64 (Int.tdiv a2 x6_8)⟩ : S43)] : List (S43))) := ⟨_, rfl⟩
            replace H : (some (x6_8, y107, none)) = some (r1, r2, r3) := by first | (rw [hy107]; with_reducible exact H) | (have H2_ := (Option.bind_some _ _).symm.trans H; rw [hy107]; with_reducible exact H2_) | (have H2_ := (Option.bind_some _ _).symm.trans H; with_reducible exact H2_) | with_reducible exact H | (rw [hy107]; exact H) | exact H
            have Ny107 := Aside0.mk hy107
            clear hy107
            simp only [Option.some.injEq, Prod.mk.injEq] at H
            obtain ⟨rfl, rfl, rfl⟩ := H
            go_wp2_with (first | ((with_reducible refine gate_dst (N := 60) rfl ?_); refine Kd.R_lit k43 _ 43 ?hg (N := 60) ?hd (xs := ([(⟨0, wrap64 (Int.tdiv a2 x6_8)⟩ : S43)] : List (S43))) (inner := [.int .i64 0, .int .i64 (wrap64 (Int.tdiv a2 x6_8))]) (ok := fun _ => True) (okp := fun _ => True) ?hr ?hp (fun _ hk => hk) trivial (Below.refl _ _) (Nat.le_refl _) (by simp) ?_; (case hd => rfl); (case hg => rfl); (case hr => first | (go_simp; done) | (go_simp; rfl)); (case hp => exact (Reps.c2 (show Kd.M k43 _ _ _ (⟨0, wrap64 (Int.tdiv a2 x6_8)⟩ : S43) [.int .i64 0, .int .i64 (wrap64 (Int.tdiv a2 x6_8))] from (k43_mkM _ _ _ (⟨0, wrap64 (Int.tdiv a2 x6_8)⟩ : S43) )) (Reps.none _ _))); intro v108 w18 ho19 hb hg_ hnew_; clear hg_ hnew_; (first | rw [← Ny107.out] at ho19 | (simp only [Int.reduceToNat] at ho19; rw [← Ny107.out] at ho19)); have n0_ := Aside0.mk (Kd.R_lower ho19 (below_size (by repeat (first | (with_reducible first | exact HB.out | apply below_alloc | apply pw_below_drewN | apply below_drew1) | exact HB.out)))); have n1_ := Aside0.mk (below_step (by repeat (first | (with_reducible first | exact HB.out | apply below_alloc | apply pw_below_drewN | apply below_drew1) | exact HB.out)) hb); clear HB; have HO109 := n0_; have HB := n1_; clear n0_ n1_; clear hb ho19))
            go_ret3
            exact ⟨_, by first | rfl | (simp [errW_none, errW_some] <;> rfl) | (simp [*, errW_none, errW_some] <;> rfl), by (with_reducible repeat (first | apply Kd.R_alloc | apply Kd.R_drewN | apply Kd.R_drew)); exact HO109.out, by repeat (first | (with_reducible first | exact HB.out | apply below_alloc | apply pw_below_drewN | apply below_drew1) | exact HB.out)⟩
          · rw [if_neg c17] at H
            have c17b0 : ((wrap64 (Int.tdiv a1 x6_8)) == 0) = false := beq_eq_false_iff_ne.mpr c17
            have c17b1 : ((wrap64 (Int.tdiv a1 x6_8)) != 0) = true := bne_iff_ne.mpr c17
            have HC20 := Aside0.mk H
            clear H
            go_upto_region 13 with (fail)
            go_cut [66] (fun v66 wc => ∃ (kq : Nat) (x66_19 : Bool), v66 = .bool x66_19 ∧ Aside0 (mathutil_QuadPolyFactors.j1 kq (wrap64 (Int.tdiv a1 x6_8)) (wrap64 (Int.tdiv a2 x6_8)) x6_8 x66_19 = some (r1, r2, r3)) ∧ Aside0 (kq ≤ kj8) ∧ Aside0 (Below w.heap.size w wc))
            case first =>
              have H := HC20.out
              clear HC20
              by_cases c21 : (wrap64 (Int.tdiv a1 x6_8)) < 0
              · rw [if_pos c21] at H
                have c21b0 : decide ((wrap64 (Int.tdiv a1 x6_8)) < 0) = true := decide_eq_true c21
                clear c21
                (first | rw [c21b0] | (simp only [i64_w, i32_w]; rw [c21b0]) | skip)
                have H' := Aside0.mk H
                clear H
                go_wp2
                go_meet
                case rel => exact ⟨_, (decide ((wrap64 (Int.tdiv a2 x6_8)) < 0)), (by first | rfl | (simp; done) | (simp [*]; done)), H', ⟨by have := HJ8.out; first | omega | exact Nat.le_refl _⟩, ⟨by repeat (first | (with_reducible first | exact HB.out | apply below_alloc | apply pw_below_drewN | apply below_drew1) | exact HB.out)⟩⟩
              · rw [if_neg c21] at H
                have c21b0 : decide ((wrap64 (Int.tdiv a1 x6_8)) < 0) = false := decide_eq_false c21
                clear c21
                (first | rw [c21b0] | (simp only [i64_w, i32_w]; rw [c21b0]) | skip)
                have H' := Aside0.mk H
                clear H
                go_wp2
                go_meet
                case rel => exact ⟨_, (false), (by first | rfl | (simp; done) | (simp [*]; done)), H', ⟨by have := HJ8.out; first | omega | exact Nat.le_refl _⟩, ⟨by repeat (first | (with_reducible first | exact HB.out | apply below_alloc | apply pw_below_drewN | apply below_drew1) | exact HB.out)⟩⟩
            case rest =>
              clear HC20
              try clear c1
              try clear c2
              try clear p2
              try clear p6
              try clear c10
              try clear c10b0
              try clear c10b1
              try clear c11
              try clear c11b0
              try clear c12
              try clear c12b0
              try clear c13
              try clear c13b0
              try clear c13b1
              try clear c14
              try clear c14b0
              try clear c15
              try clear c15b0
              try clear c15b1
              try clear c16
              try clear c16b0
              try clear c16b1
              try clear c17
              try clear c17b0
              try clear c17b1
              try clear c19
              try clear c21
              try clear c21b0
              try clear p2
              try clear p6
              obtain ⟨kq, x66_19, rfl, HA, HJ19, HB⟩ := hcut
              cases kq with
              | zero => exact absurd HA.out (by simp [mathutil_QuadPolyFactors.j1])
              | succ kj19 =>
                have H := HA.out
                clear HA
                simp only [mathutil_QuadPolyFactors.j1] at H
                by_cases c22 : x66_19 = true
                · subst c22
                  have H1 : (if (wrap64 (-(wrap64 (Int.tdiv a1 x6_8)))) < 0 then (some (x6_8, (([(⟨wrap64 (-(wrap64 (-(wrap64 (Int.tdiv a1 x6_8))))), wrap64 (-(wrap64 (-(wrap64 (Int.tdiv a2 x6_8)))))⟩ : S43)] : List (S43))), none)) else (some (x6_8, (([(⟨wrap64 (-(wrap64 (Int.tdiv a1 x6_8))), wrap64 (-(wrap64 (Int.tdiv a2 x6_8)))⟩ : S43)] : List (S43))), none))) = some (r1, r2, r3) := by rw [if_pos rfl] at H; exact H
                  clear H
                  have H := H1
                  clear H1
                  by_cases c23 : (wrap64 (-(wrap64 (Int.tdiv a1 x6_8)))) < 0
                  · rw [if_pos c23] at H
                    have c23b0 : decide ((wrap64 (-(wrap64 (Int.tdiv a1 x6_8)))) < 0) = true := decide_eq_true c23
                    clear c23
                    obtain ⟨y110, hy110⟩ : ∃ y_ : List (S43), y_ = (([(⟨wrap64 (-(wrap64 (-(wrap64 (Int.tdiv a1 x6_8))))), wrap64 (-(wrap64 (-(wrap64 (Int.tdiv a2 x6_8)))))⟩ : S43)] : List (S43))) := ⟨_, rfl⟩
                    replace H : (some (x6_8, y110, none)) = some (r1, r2, r3) := by first | (rw [hy110]; with_reducible exact H) | (have H2_ := (Option.bind_some _ _).symm.trans H; rw [hy110]; with_reducible exact H2_) | (have H2_ := (Option.bind_some _ _).symm.trans H; with_reducible exact H2_) | with_reducible exact H | (rw [hy110]; exact H) | exact H
                    have Ny110 := Aside0.mk hy110
                    clear hy110
                    simp only [Option.some.injEq, Prod.mk.injEq] at H
                    obtain ⟨rfl, rfl, rfl⟩ := H
                    go_wp2_with (first | ((with_reducible refine gate_dst (N := 81) rfl ?_); refine Kd.R_lit k43 _ 43 ?hg (N := 81) ?hd (xs := ([(⟨wrap64 (-(wrap64 (-(wrap64 (Int.tdiv a1 x6_8))))), wrap64 (-(wrap64 (-(wrap64 (Int.tdiv a2 x6_8)))))⟩ : S43)] : List (S43))) (inner := [.int .i64 (wrap64 (-(wrap64 (-(wrap64 (Int.tdiv a1 x6_8)))))), .int .i64 (wrap64 (-(wrap64 (-(wrap64 (Int.tdiv a2 x6_8))))))]) (ok := fun _ => True) (okp := fun _ => True) ?hr ?hp (fun _ hk => hk) trivial (Below.refl _ _) (Nat.le_refl _) (by simp) ?_; (case hd => rfl); (case hg => rfl); (case hr => first | (go_simp; done) | (go_simp; rfl)); (case hp => exact (Reps.c2 (show Kd.M k43 _ _ _ (⟨wrap64 (-(wrap64 (-(wrap64 (Int.tdiv a1 x6_8))))), wrap64 (-(wrap64 (-(wrap64 (Int.tdiv a2 x6_8)))))⟩ : S43) [.int .i64 (wrap64 (-(wrap64 (-(wrap64 (Int.tdiv a1 x6_8)))))), .int .i64 (wrap64 (-(wrap64 (-(wrap64 (Int.tdiv a2 x6_8))))))] from (k43_mkM _ _ _ (⟨wrap64 (-(wrap64 (-(wrap64 (Int.tdiv a1 x6_8))))), wrap64 (-(wrap64 (-(wrap64 (Int.tdiv a2 x6_8)))))⟩ : S43) )) (Reps.none _ _))); intro v111 w24 ho25 hb hg_ hnew_; clear hg_ hnew_; (first | rw [← Ny110.out] at ho25 | (simp only [Int.reduceToNat] at ho25; rw [← Ny110.out] at ho25)); have n0_ := Aside0.mk (Kd.R_lower ho25 (below_size (by repeat (first | (with_reducible first | exact HB.out | apply below_alloc | apply pw_below_drewN | apply below_drew1) | exact HB.out)))); have n1_ := Aside0.mk (below_step (by repeat (first | (with_reducible first | exact HB.out | apply below_alloc | apply pw_below_drewN | apply below_drew1) | exact HB.out)) hb); clear HB; have HO112 := n0_; have HB := n1_; clear n0_ n1_; clear hb ho25))
                    go_ret3
                    exact ⟨_, by first | rfl | (simp [errW_none, errW_some] <;> rfl) | (simp [*, errW_none, errW_some] <;> rfl), by (with_reducible repeat (first | apply Kd.R_alloc | apply Kd.R_drewN | apply Kd.R_drew)); exact HO112.out, by repeat (first | (with_reducible first | exact HB.out | apply below_alloc | apply pw_below_drewN | apply below_drew1) | exact HB.out)⟩
                  · rw [if_neg c23] at H
                    have c23b0 : decide ((wrap64 (-(wrap64 (Int.tdiv a1 x6_8)))) < 0) = false := decide_eq_false c23
                    clear c23
                    obtain ⟨y113, hy113⟩ : ∃ y_ : List (S43), y_ = (([(⟨wrap64 (-(wrap64 (Int.tdiv a1 x6_8))), wrap64 (-(wrap64 (Int.tdiv a2 x6_8)))⟩ : S43)] : List (S43))) := ⟨_, rfl⟩
                    replace H : (some (x6_8, y113, none)) = some (r1, r2, r3) := by first | (rw [hy113]; with_reducible exact H) | (have H2_ := (Option.bind_some _ _).symm.trans H; rw [hy113]; with_reducible exact H2_) | (have H2_ := (Option.bind_some _ _).symm.trans H; with_reducible exact H2_) | with_reducible exact H | (rw [hy113]; exact H) | exact H
                    have Ny113 := Aside0.mk hy113
                    clear hy113
                    simp only [Option.some.injEq, Prod.mk.injEq] at H
                    obtain ⟨rfl, rfl, rfl⟩ := H
                    go_wp2_with (first | ((with_reducible refine gate_dst (N := 81) rfl ?_); refine Kd.R_lit k43 _ 43 ?hg (N := 81) ?hd (xs := ([(⟨wrap64 (-(wrap64 (Int.tdiv a1 x6_8))), wrap64 (-(wrap64 (Int.tdiv a2 x6_8)))⟩ : S43)] : List (S43))) (inner := [.int .i64 (wrap64 (-(wrap64 (Int.tdiv a1 x6_8)))), .int .i64 (wrap64 (-(wrap64 (Int.tdiv a2 x6_8))))]) (ok := fun _ => True) (okp := fun _ => True) ?hr ?hp (fun _ hk => hk) trivial (Below.refl _ _) (Nat.le_refl _) (by simp) ?_; (case hd => rfl); (case hg => rfl); (case hr => first | (go_simp; done) | (go_simp; rfl)); (case hp => exact (Reps.c2 (show Kd.M k43 _ _ _ (⟨wrap64 (-(wrap64 (Int.tdiv a1 x6_8))), wrap64 (-(wrap64 (Int.tdiv a2 x6_8)))⟩ : S43) [.int .i64 (wrap64 (-(wrap64 (Int.tdiv a1 x6_8)))), .int .i64 (wrap64 (-(wrap64 (Int.tdiv a2 x6_8))))] from (k43_mkM _ _ _ (⟨wrap64 (-(wrap64 (Int.tdiv a1 x6_8))), wrap64 (-(wrap64 (Int.tdiv a2 x6_8)))⟩ : S43) )) (Reps.none _ _))); intro v114 w26 ho27 hb hg_ hnew_; clear hg_ hnew_; (first | rw [← Ny113.out] at ho27 | (simp only [Int.reduceToNat] at ho27; rw [← Ny113.out] at ho27)); have n0_ := Aside0.mk (Kd.R_lower ho27 (below_size (by repeat (first | (with_reducible first | exact HB.out | apply below_alloc | apply pw_below_drewN | apply below_drew1) | exact HB.out)))); have n1_ := Aside0.mk (below_step (by repeat (first | (with_reducible first | exact HB.out | apply below_alloc | apply pw_below_drewN | apply below_drew1) | exact HB.out)) hb); clear HB; have HO115 := n0_; have HB := n1_; clear n0_ n1_; clear hb ho27))
                    go_ret3
                    exact ⟨_, by first | rfl | (simp [errW_none, errW_some] <;> rfl) | (simp [*, errW_none, errW_some] <;> rfl), by (with_reducible repeat (first | apply Kd.R_alloc | apply Kd.R_drewN | apply Kd.R_drew)); exact HO115.out, by repeat (first | (with_reducible first | exact HB.out | apply below_alloc | apply pw_below_drewN | apply below_drew1) | exact HB.out)⟩
                · replace c22 := Bool.eq_false_iff.mpr c22
                  subst c22
                  have H1 : (if (wrap64 (Int.tdiv a1 x6_8)) < 0 then (some (x6_8, (([(⟨wrap64 (-(wrap64 (Int.tdiv a1 x6_8))), wrap64 (-(wrap64 (Int.tdiv a2 x6_8)))⟩ : S43)] : List (S43))), none)) else (some (x6_8, (([(⟨(wrap64 (Int.tdiv a1 x6_8)), (wrap64 (Int.tdiv a2 x6_8))⟩ : S43)] : List (S43))), none))) = some (r1, r2, r3) := by rw [if_neg (show ¬ (false = true) by decide)] at H; exact H
                  clear H
                  have H := H1
                  clear H1
                  by_cases c28 : (wrap64 (Int.tdiv a1 x6_8)) < 0
                  · rw [if_pos c28] at H
                    have c28b0 : decide ((wrap64 (Int.tdiv a1 x6_8)) < 0) = true := decide_eq_true c28
                    clear c28
                    obtain ⟨y116, hy116⟩ : ∃ y_ : List (S43), y_ = (([(⟨wrap64 (-(wrap64 (Int.tdiv a1 x6_8))), wrap64 (-(wrap64 (Int.tdiv a2 x6_8)))⟩ : S43)] : List (S43))) := ⟨_, rfl⟩
                    replace H : (some (x6_8, y116, none)) = some (r1, r2, r3) := by first | (rw [hy116]; with_reducible exact H) | (have H2_ := (Option.bind_some _ _).symm.trans H; rw [hy116]; with_reducible exact H2_) | (have H2_ := (Option.bind_some _ _).symm.trans H; with_reducible exact H2_) | with_reducible exact H | (rw [hy116]; exact H) | exact H
                    have Ny116 := Aside0.mk hy116
                    clear hy116
                    simp only [Option.some.injEq, Prod.mk.injEq] at H
                    obtain ⟨rfl, rfl, rfl⟩ := H
                    go_wp2_with (first | ((with_reducible refine gate_dst (N := 81) rfl ?_); refine Kd.R_lit k43 _ 43 ?hg (N := 81) ?hd (xs := ([(⟨wrap64 (-(wrap64 (Int.tdiv a1 x6_8))), wrap64 (-(wrap64 (Int.tdiv a2 x6_8)))⟩ : S43)] : List (S43))) (inner := [.int .i64 (wrap64 (-(wrap64 (Int.tdiv a1 x6_8)))), .int .i64 (wrap64 (-(wrap64 (Int.tdiv a2 x6_8))))]) (ok := fun _ => True) (okp := fun _ => True) ?hr ?hp (fun _ hk => hk) trivial (Below.refl _ _) (Nat.le_refl _) (by simp) ?_; (case hd => rfl); (case hg => rfl); (case hr => first | (go_simp; done) | (go_simp; rfl)); (case hp => exact (Reps.c2 (show Kd.M k43 _ _ _ (⟨wrap64 (-(wrap64 (Int.tdiv a1 x6_8))), wrap64 (-(wrap64 (Int.tdiv a2 x6_8)))⟩ : S43) [.int .i64 (wrap64 (-(wrap64 (Int.tdiv a1 x6_8)))), .int .i64 (wrap64 (-(wrap64 (Int.tdiv a2 x6_8))))] from (k43_mkM _ _ _ (⟨wrap64 (-(wrap64 (Int.tdiv a1 x6_8))), wrap64 (-(wrap64 (Int.tdiv a2 x6_8)))⟩ : S43) )) (Reps.none _ _))); intro v117 w29 ho30 hb hg_ hnew_; clear hg_ hnew_; (first | rw [← Ny116.out] at ho30 | (simp only [Int.reduceToNat] at ho30; rw [← Ny116.out] at ho30)); have n0_ := Aside0.mk (Kd.R_lower ho30 (below_size (by repeat (first | (with_reducible first | exact HB.out | apply below_alloc | apply pw_below_drewN | apply below_drew1) | exact HB.out)))); have n1_ := Aside0.mk (below_step (by repeat (first | (with_reducible first | exact HB.out | apply below_alloc | apply pw_below_drewN | apply below_drew1) | exact HB.out)) hb); clear HB; have HO118 := n0_; have HB := n1_; clear n0_ n1_; clear hb ho30))
                    go_ret3
                    exact ⟨_, by first | rfl | (simp [errW_none, errW_some] <;> rfl) | (simp [*, errW_none, errW_some] <;> rfl), by (with_reducible repeat (first | apply Kd.R_alloc | apply Kd.R_drewN | apply Kd.R_drew)); exact HO118.out, by repeat (first | (with_reducible first | exact HB.out | apply below_alloc | apply pw_below_drewN | apply below_drew1) | exact HB.out)⟩
                  · rw [if_neg c28] at H
                    have c28b0 : decide ((wrap64 (Int.tdiv a1 x6_8)) < 0) = false := decide_eq_false c28
                    clear c28
                    obtain ⟨y119, hy119⟩ : ∃ y_ : List (S43), y_ = (([(⟨(wrap64 (Int.tdiv a1 x6_8)), (wrap64 (Int.tdiv a2 x6_8))⟩ : S43)] : List (S43))) := ⟨_, rfl⟩
                    replace H : (some (x6_8, y119, none)) = some (r1, r2, r3) := by first | (rw [hy119]; with_reducible exact H) | (have H2_ := (Option.bind_some _ _).symm.trans H; rw [hy119]; with_reducible exact H2_) | (have H2_ := (Option.bind_some _ _).symm.trans H; with_reducible exact H2_) | with_reducible exact H | (rw [hy119]; exact H) | exact H
                    have Ny119 := Aside0.mk hy119
                    clear hy119
                    simp only [Option.some.injEq, Prod.mk.injEq] at H
                    obtain ⟨rfl, rfl, rfl⟩ := H
                    go_wp2_with (first | ((with_reducible refine gate_dst (N := 81) rfl ?_); refine Kd.R_lit k43 _ 43 ?hg (N := 81) ?hd (xs := ([(⟨(wrap64 (Int.tdiv a1 x6_8)), (wrap64 (Int.tdiv a2 x6_8))⟩ : S43)] : List (S43))) (inner := [.int .i64 (wrap64 (Int.tdiv a1 x6_8)), .int .i64 (wrap64 (Int.tdiv a2 x6_8))]) (ok := fun _ => True) (okp := fun _ => True) ?hr ?hp (fun _ hk => hk) trivial (Below.refl _ _) (Nat.le_refl _) (by simp) ?_; (case hd => rfl); (case hg => rfl); (case hr => first | (go_simp; done) | (go_simp; rfl)); (case hp => exact (Reps.c2 (show Kd.M k43 _ _ _ (⟨(wrap64 (Int.tdiv a1 x6_8)), (wrap64 (Int.tdiv a2 x6_8))⟩ : S43) [.int .i64 (wrap64 (Int.tdiv a1 x6_8)), .int .i64 (wrap64 (Int.tdiv a2 x6_8))] from (k43_mkM _ _ _ (⟨(wrap64 (Int.tdiv a1 x6_8)), (wrap64 (Int.tdiv a2 x6_8))⟩ : S43) )) (Reps.none _ _))); intro v120 w31 ho32 hb hg_ hnew_; clear hg_ hnew_; (first | rw [← Ny119.out] at ho32 | (simp only [Int.reduceToNat] at ho32; rw [← Ny119.out] at ho32)); have n0_ := Aside0.mk (Kd.R_lower ho32 (below_size (by repeat (first | (with_reducible first | exact HB.out | apply below_alloc | apply pw_below_drewN | apply below_drew1) | exact HB.out)))); have n1_ := Aside0.mk (below_step (by repeat (first | (with_reducible first | exact HB.out | apply below_alloc | apply pw_below_drewN | apply below_drew1) | exact HB.out)) hb); clear HB; have HO121 := n0_; have HB := n1_; clear n0_ n1_; clear hb ho32))
                    go_ret3
                    exact ⟨_, by first | rfl | (simp [errW_none, errW_some] <;> rfl) | (simp [*, errW_none, errW_some] <;> rfl), by (with_reducible repeat (first | apply Kd.R_alloc | apply Kd.R_drewN | apply Kd.R_drew)); exact HO121.out, by repeat (first | (with_reducible first | exact HB.out | apply below_alloc | apply pw_below_drewN | apply below_drew1) | exact HB.out)⟩
        · rw [if_neg c16] at H
          have c16b0 : ((wrap64 (Int.tdiv a0 x6_8)) == 0) = false := beq_eq_false_iff_ne.mpr c16
          have c16b1 : ((wrap64 (Int.tdiv a0 x6_8)) != 0) = true := bne_iff_ne.mpr c16
          replace H := Option.bind_eq_some_iff.mp H
          obtain ⟨⟨t122, t123, t124⟩, A330, H⟩ := H
          replace H : (if t124.isNone = true then (if t122 < 0 then (mathutil_QuadPolyFactors.j2 kj8 (wrap64 (Int.tdiv a0 x6_8)) (wrap64 (Int.tdiv a1 x6_8)) x6_8 t123 true) else (mathutil_QuadPolyFactors.j2 kj8 (wrap64 (Int.tdiv a0 x6_8)) (wrap64 (Int.tdiv a1 x6_8)) x6_8 t123 (decide (t123 < 0)))) else (some (0, ([] : List (S43)), some (t124.getD 0)))) = some (r1, r2, r3) := H
          have A33 := Aside0.mk A330
          clear A330
          rcases t124 with _ | q125
          · have H1 : (if t122 < 0 then (mathutil_QuadPolyFactors.j2 kj8 (wrap64 (Int.tdiv a0 x6_8)) (wrap64 (Int.tdiv a1 x6_8)) x6_8 t123 true) else (mathutil_QuadPolyFactors.j2 kj8 (wrap64 (Int.tdiv a0 x6_8)) (wrap64 (Int.tdiv a1 x6_8)) x6_8 t123 (decide (t123 < 0)))) = some (r1, r2, r3) := by rw [if_pos (show (none : Option Int).isNone = true by rfl)] at H; exact H
            clear H
            have H := H1
            clear H1
            try simp only [errW_none, errW_some]
            have HC34 := Aside0.mk H
            clear H
            go_upto_region 23 with (first | ((with_reducible refine gate_callee (f := 13) rfl ?_); refine goesL_ (some 86) rfl rfl Tryd.func13 (by kernel_rfl) rfl #[.int .i64 (wrap64 (Int.tdiv a0 x6_8)), .int .i64 (wrap64 (Int.tdiv a1 x6_8)), .int .i64 (wrap64 (Int.tdiv a2 x6_8))] rfl (by (try simp only [List.map_toArray, List.map_cons, List.map_nil]); first | done | rfl | (simp only [List.length_drop, List.length_take]; rfl)) ?_; (with_reducible refine (mathutil_QuadPolyDiscriminant.calls (wrap64 (Int.tdiv a0 x6_8)) (wrap64 (Int.tdiv a1 x6_8)) (wrap64 (Int.tdiv a2 x6_8)) t122 t123 none _ ?sideT A33.out).mono ?_); (case sideT => exact ⟨QpdC.tabs_below HT (by repeat (first | (with_reducible first | exact HB.out | apply below_alloc | apply pw_below_drewN | apply below_drew1) | exact HB.out))⟩); rintro e w' ⟨rfl, ⟨nd, rfl⟩⟩; refine ⟨_, rfl, ?_⟩; (try simp only [errW_none, errW_some])))
            (try simp only [Act.put, List.setIfInBounds_toArray, List.set_cons_zero, List.set_cons_succ])
            go_cut [98] (fun v98 wc => ∃ (kq : Nat) (x98_33 : Bool), v98 = .bool x98_33 ∧ Aside0 (mathutil_QuadPolyFactors.j2 kq (wrap64 (Int.tdiv a0 x6_8)) (wrap64 (Int.tdiv a1 x6_8)) x6_8 t123 x98_33 = some (r1, r2, r3)) ∧ Aside0 (kq ≤ kj8) ∧ Aside0 (Below w.heap.size w wc))
            case first =>
              have H := HC34.out
              clear HC34
              by_cases c35 : t122 < 0
              · rw [if_pos c35] at H
                have c35b0 : decide (t122 < 0) = true := decide_eq_true c35
                clear c35
                (first | rw [c35b0] | (simp only [i64_w, i32_w]; rw [c35b0]) | skip)
                have H' := Aside0.mk H
                clear H
                go_wp2
                go_meet
                case rel => exact ⟨_, (true), (by first | rfl | (simp; done) | (simp [*]; done)), H', ⟨by have := HJ8.out; first | omega | exact Nat.le_refl _⟩, ⟨by repeat (first | (with_reducible first | exact HB.out | apply below_alloc | apply pw_below_drewN | apply below_drew1) | exact HB.out)⟩⟩
              · rw [if_neg c35] at H
                have c35b0 : decide (t122 < 0) = false := decide_eq_false c35
                clear c35
                (first | rw [c35b0] | (simp only [i64_w, i32_w]; rw [c35b0]) | skip)
                have H' := Aside0.mk H
                clear H
                go_wp2
                go_meet
                case rel => exact ⟨_, (decide (t123 < 0)), (by first | rfl | (simp; done) | (simp [*]; done)), H', ⟨by have := HJ8.out; first | omega | exact Nat.le_refl _⟩, ⟨by repeat (first | (with_reducible first | exact HB.out | apply below_alloc | apply pw_below_drewN | apply below_drew1) | exact HB.out)⟩⟩
            case rest =>
              clear HC34
              try clear c1
              try clear q1
              try clear c2
              try clear p2
              try clear c3
              try clear p6
              try clear c10
              try clear c10b0
              try clear c10b1
              try clear c11
              try clear c11b0
              try clear c12
              try clear c12b0
              try clear q12
              try clear c13
              try clear c13b0
              try clear c13b1
              try clear c14
              try clear c14b0
              try clear c15
              try clear c15b0
              try clear c15b1
              try clear c16
              try clear c16b0
              try clear c16b1
              try clear c17
              try clear c17b0
              try clear c17b1
              try clear c19
              try clear c21
              try clear c21b0
              try clear c22
              try clear c23
              try clear c23b0
              try clear c28
              try clear c28b0
              try clear c35
              try clear c35b0
              try clear p2
              try clear p6
              try clear q125
              obtain ⟨kq, x98_33, rfl, HA, HJ33, HB⟩ := hcut
              cases kq with
              | zero => exact absurd HA.out (by simp [mathutil_QuadPolyFactors.j2])
              | succ kj33 =>
                have H := HA.out
                clear HA
                simp only [mathutil_QuadPolyFactors.j2] at H
                by_cases c36 : x98_33 = true
                · subst c36
                  have H1 : (some (0, ([] : List (S43)), none)) = some (r1, r2, r3) := by rw [if_pos rfl] at H; exact H
                  clear H
                  have H := H1
                  clear H1
                  simp only [Option.some.injEq, Prod.mk.injEq] at H
                  obtain ⟨rfl, rfl, rfl⟩ := H
                  go_wp2
                  go_ret3
                  exact ⟨_, by first | rfl | (simp [errW_none, errW_some] <;> rfl) | (simp [*, errW_none, errW_some] <;> rfl), by first | exact Kd.R_nil _ _ _ _ _ | exact Kd.N_nil _ _ _ _ _ | exact Kd.V_nil _ _ _ _ _ | exact Kd.Q_nil _ _ _ _ _ | exact Kd.S_nil _ _ _ _ _, by repeat (first | (with_reducible first | exact HB.out | apply below_alloc | apply pw_below_drewN | apply below_drew1) | exact HB.out)⟩
                · replace c36 := Bool.eq_false_iff.mpr c36
                  subst c36
                  have H1 : ((mathutil_abs.f (wrap64 ((wrap64 (-(wrap64 (Int.tdiv a1 x6_8)))) + t123))).bind fun t126 => ((mathutil_abs.f (wrap64 (2 * (wrap64 (Int.tdiv a0 x6_8))))).bind fun t127 => ((mathutil_GCDUint64.f kj33 t126 t127).bind fun t128 => (if (wrap64 (t128)) = 0 then (none) else ((mathutil_abs.f (wrap64 ((wrap64 (-(wrap64 (Int.tdiv a1 x6_8)))) - t123))).bind fun t129 => ((mathutil_abs.f (wrap64 (2 * (wrap64 (Int.tdiv a0 x6_8))))).bind fun t130 => ((mathutil_GCDUint64.f kj33 t129 t130).bind fun t131 => (if (wrap64 (t131)) = 0 then (none) else (some (x6_8, (([(⟨wrap64 (Int.tdiv (wrap64 (2 * (wrap64 (Int.tdiv a0 x6_8)))) (wrap64 (t128))), wrap64 (-(wrap64 (Int.tdiv (wrap64 ((wrap64 (-(wrap64 (Int.tdiv a1 x6_8)))) + t123)) (wrap64 (t128)))))⟩ : S43), (⟨wrap64 (Int.tdiv (wrap64 (2 * (wrap64 (Int.tdiv a0 x6_8)))) (wrap64 (t131))), wrap64 (-(wrap64 (Int.tdiv (wrap64 ((wrap64 (-(wrap64 (Int.tdiv a1 x6_8)))) - t123)) (wrap64 (t131)))))⟩ : S43)] : List (S43))), none)))))))))) = some (r1, r2, r3) := by rw [if_neg (show ¬ (false = true) by decide)] at H; exact H
                  clear H
                  have H := H1
                  clear H1
                  replace H := Option.bind_eq_some_iff.mp H
                  obtain ⟨t126, A370, H⟩ := H
                  replace H : ((mathutil_abs.f (wrap64 (2 * (wrap64 (Int.tdiv a0 x6_8))))).bind fun t127 => ((mathutil_GCDUint64.f kj33 t126 t127).bind fun t128 => (if (wrap64 (t128)) = 0 then (none) else ((mathutil_abs.f (wrap64 ((wrap64 (-(wrap64 (Int.tdiv a1 x6_8)))) - t123))).bind fun t129 => ((mathutil_abs.f (wrap64 (2 * (wrap64 (Int.tdiv a0 x6_8))))).bind fun t130 => ((mathutil_GCDUint64.f kj33 t129 t130).bind fun t131 => (if (wrap64 (t131)) = 0 then (none) else (some (x6_8, (([(⟨wrap64 (Int.tdiv (wrap64 (2 * (wrap64 (Int.tdiv a0 x6_8)))) (wrap64 (t128))), wrap64 (-(wrap64 (Int.tdiv (wrap64 ((wrap64 (-(wrap64 (Int.tdiv a1 x6_8)))) + t123)) (wrap64 (t128)))))⟩ : S43), (⟨wrap64 (Int.tdiv (wrap64 (2 * (wrap64 (Int.tdiv a0 x6_8)))) (wrap64 (t131))), wrap64 (-(wrap64 (Int.tdiv (wrap64 ((wrap64 (-(wrap64 (Int.tdiv a1 x6_8)))) - t123)) (wrap64 (t131)))))⟩ : S43)] : List (S43))), none))))))))) = some (r1, r2, r3) := H
                  have A37 := Aside0.mk A370
                  clear A370
                  replace H := Option.bind_eq_some_iff.mp H
                  obtain ⟨t127, A380, H⟩ := H
                  replace H : ((mathutil_GCDUint64.f kj33 t126 t127).bind fun t128 => (if (wrap64 (t128)) = 0 then (none) else ((mathutil_abs.f (wrap64 ((wrap64 (-(wrap64 (Int.tdiv a1 x6_8)))) - t123))).bind fun t129 => ((mathutil_abs.f (wrap64 (2 * (wrap64 (Int.tdiv a0 x6_8))))).bind fun t130 => ((mathutil_GCDUint64.f kj33 t129 t130).bind fun t131 => (if (wrap64 (t131)) = 0 then (none) else (some (x6_8, (([(⟨wrap64 (Int.tdiv (wrap64 (2 * (wrap64 (Int.tdiv a0 x6_8)))) (wrap64 (t128))), wrap64 (-(wrap64 (Int.tdiv (wrap64 ((wrap64 (-(wrap64 (Int.tdiv a1 x6_8)))) + t123)) (wrap64 (t128)))))⟩ : S43), (⟨wrap64 (Int.tdiv (wrap64 (2 * (wrap64 (Int.tdiv a0 x6_8)))) (wrap64 (t131))), wrap64 (-(wrap64 (Int.tdiv (wrap64 ((wrap64 (-(wrap64 (Int.tdiv a1 x6_8)))) - t123)) (wrap64 (t131)))))⟩ : S43)] : List (S43))), none)))))))) = some (r1, r2, r3) := H
                  have A38 := Aside0.mk A380
                  clear A380
                  replace H := Option.bind_eq_some_iff.mp H
                  obtain ⟨t128, A390, H⟩ := H
                  replace H : (if (wrap64 (t128)) = 0 then (none) else ((mathutil_abs.f (wrap64 ((wrap64 (-(wrap64 (Int.tdiv a1 x6_8)))) - t123))).bind fun t129 => ((mathutil_abs.f (wrap64 (2 * (wrap64 (Int.tdiv a0 x6_8))))).bind fun t130 => ((mathutil_GCDUint64.f kj33 t129 t130).bind fun t131 => (if (wrap64 (t131)) = 0 then (none) else (some (x6_8, (([(⟨wrap64 (Int.tdiv (wrap64 (2 * (wrap64 (Int.tdiv a0 x6_8)))) (wrap64 (t128))), wrap64 (-(wrap64 (Int.tdiv (wrap64 ((wrap64 (-(wrap64 (Int.tdiv a1 x6_8)))) + t123)) (wrap64 (t128)))))⟩ : S43), (⟨wrap64 (Int.tdiv (wrap64 (2 * (wrap64 (Int.tdiv a0 x6_8)))) (wrap64 (t131))), wrap64 (-(wrap64 (Int.tdiv (wrap64 ((wrap64 (-(wrap64 (Int.tdiv a1 x6_8)))) - t123)) (wrap64 (t131)))))⟩ : S43)] : List (S43))), none))))))) = some (r1, r2, r3) := H
                  have A39 := Aside0.mk A390
                  clear A390
                  by_cases c40 : (wrap64 (t128)) = 0
                  · rw [if_pos c40] at H
                    exact absurd H (by simp)
                  · rw [if_neg c40] at H
                    have c40b0 : ((wrap64 (t128)) == 0) = false := beq_eq_false_iff_ne.mpr c40
                    have c40b1 : ((wrap64 (t128)) != 0) = true := bne_iff_ne.mpr c40
                    replace H := Option.bind_eq_some_iff.mp H
                    obtain ⟨t129, A410, H⟩ := H
                    replace H : ((mathutil_abs.f (wrap64 (2 * (wrap64 (Int.tdiv a0 x6_8))))).bind fun t130 => ((mathutil_GCDUint64.f kj33 t129 t130).bind fun t131 => (if (wrap64 (t131)) = 0 then (none) else (some (x6_8, (([(⟨wrap64 (Int.tdiv (wrap64 (2 * (wrap64 (Int.tdiv a0 x6_8)))) (wrap64 (t128))), wrap64 (-(wrap64 (Int.tdiv (wrap64 ((wrap64 (-(wrap64 (Int.tdiv a1 x6_8)))) + t123)) (wrap64 (t128)))))⟩ : S43), (⟨wrap64 (Int.tdiv (wrap64 (2 * (wrap64 (Int.tdiv a0 x6_8)))) (wrap64 (t131))), wrap64 (-(wrap64 (Int.tdiv (wrap64 ((wrap64 (-(wrap64 (Int.tdiv a1 x6_8)))) - t123)) (wrap64 (t131)))))⟩ : S43)] : List (S43))), none))))) = some (r1, r2, r3) := H
                    have A41 := Aside0.mk A410
                    clear A410
                    replace H := Option.bind_eq_some_iff.mp H
                    obtain ⟨t130, A420, H⟩ := H
                    replace H : ((mathutil_GCDUint64.f kj33 t129 t130).bind fun t131 => (if (wrap64 (t131)) = 0 then (none) else (some (x6_8, (([(⟨wrap64 (Int.tdiv (wrap64 (2 * (wrap64 (Int.tdiv a0 x6_8)))) (wrap64 (t128))), wrap64 (-(wrap64 (Int.tdiv (wrap64 ((wrap64 (-(wrap64 (Int.tdiv a1 x6_8)))) + t123)) (wrap64 (t128)))))⟩ : S43), (⟨wrap64 (Int.tdiv (wrap64 (2 * (wrap64 (Int.tdiv a0 x6_8)))) (wrap64 (t131))), wrap64 (-(wrap64 (Int.tdiv (wrap64 ((wrap64 (-(wrap64 (Int.tdiv a1 x6_8)))) - t123)) (wrap64 (t131)))))⟩ : S43)] : List (S43))), none)))) = some (r1, r2, r3) := H
                    have A42 := Aside0.mk A420
                    clear A420
                    replace H := Option.bind_eq_some_iff.mp H
                    obtain ⟨t131, A430, H⟩ := H
                    replace H : (if (wrap64 (t131)) = 0 then (none) else (some (x6_8, (([(⟨wrap64 (Int.tdiv (wrap64 (2 * (wrap64 (Int.tdiv a0 x6_8)))) (wrap64 (t128))), wrap64 (-(wrap64 (Int.tdiv (wrap64 ((wrap64 (-(wrap64 (Int.tdiv a1 x6_8)))) + t123)) (wrap64 (t128)))))⟩ : S43), (⟨wrap64 (Int.tdiv (wrap64 (2 * (wrap64 (Int.tdiv a0 x6_8)))) (wrap64 (t131))), wrap64 (-(wrap64 (Int.tdiv (wrap64 ((wrap64 (-(wrap64 (Int.tdiv a1 x6_8)))) - t123)) (wrap64 (t131)))))⟩ : S43)] : List (S43))), none))) = some (r1, r2, r3) := H
                    have A43 := Aside0.mk A430
                    clear A430
                    by_cases c44 : (wrap64 (t131)) = 0
                    · rw [if_pos c44] at H
                      exact absurd H (by simp)
                    · rw [if_neg c44] at H
                      have c44b0 : ((wrap64 (t131)) == 0) = false := beq_eq_false_iff_ne.mpr c44
                      have c44b1 : ((wrap64 (t131)) != 0) = true := bne_iff_ne.mpr c44
                      obtain ⟨y132, hy132⟩ : ∃ y_ : List (S43), y_ = (([(⟨wrap64 (Int.tdiv (wrap64 (2 * (wrap64 (Int.tdiv a0 x6_8)))) (wrap64 (t128))), wrap64 (-(wrap64 (Int.tdiv (wrap64 ((wrap64 (-(wrap64 (Int.tdiv a1 x6_8)))) + t123)) (wrap64 (t128)))))⟩ : S43), (⟨wrap64 (Int.tdiv (wrap64 (2 * (wrap64 (Int.tdiv a0 x6_8)))) (wrap64 (t131))), wrap64 (-(wrap64 (Int.tdiv (wrap64 ((wrap64 (-(wrap64 (Int.tdiv a1 x6_8)))) - t123)) (wrap64 (t131)))))⟩ : S43)] : List (S43))) := ⟨_, rfl⟩
                      replace H : (some (x6_8, y132, none)) = some (r1, r2, r3) := by first | (rw [hy132]; with_reducible exact H) | (have H2_ := (Option.bind_some _ _).symm.trans H; rw [hy132]; with_reducible exact H2_) | (have H2_ := (Option.bind_some _ _).symm.trans H; with_reducible exact H2_) | with_reducible exact H | (rw [hy132]; exact H) | exact H
                      have Ny132 := Aside0.mk hy132
                      clear hy132
                      simp only [Option.some.injEq, Prod.mk.injEq] at H
                      obtain ⟨rfl, rfl, rfl⟩ := H
                      go_wp2_with (first | ((with_reducible refine gate_callee (f := 16) rfl ?_); refine goesL_ (some 106) rfl rfl Tryd.func16 (by kernel_rfl) rfl #[.int .i64 (wrap64 ((wrap64 (-(wrap64 (Int.tdiv a1 x6_8)))) + t123))] rfl (by (try simp only [List.map_toArray, List.map_cons, List.map_nil]); first | done | rfl | (simp only [List.length_drop, List.length_take]; rfl)) ?_; (with_reducible refine (mathutil_abs.calls (wrap64 ((wrap64 (-(wrap64 (Int.tdiv a1 x6_8)))) + t123)) t126 _ A37.out).mono ?_); rintro e w' ⟨rfl, ⟨nd, rfl⟩⟩; refine ⟨_, rfl, ?_⟩) | ((with_reducible refine gate_callee (f := 16) rfl ?_); refine goesL_ (some 108) rfl rfl Tryd.func16 (by kernel_rfl) rfl #[.int .i64 (wrap64 (2 * (wrap64 (Int.tdiv a0 x6_8))))] rfl (by (try simp only [List.map_toArray, List.map_cons, List.map_nil]); first | done | rfl | (simp only [List.length_drop, List.length_take]; rfl)) ?_; (with_reducible refine (mathutil_abs.calls (wrap64 (2 * (wrap64 (Int.tdiv a0 x6_8)))) t127 _ A38.out).mono ?_); rintro e w' ⟨rfl, ⟨nd, rfl⟩⟩; refine ⟨_, rfl, ?_⟩) | ((with_reducible refine gate_callee (f := 19) rfl ?_); refine goesL_ (some 109) rfl rfl Tryd.func19 (by kernel_rfl) rfl #[.int .u64 t126, .int .u64 t127] rfl (by (try simp only [List.map_toArray, List.map_cons, List.map_nil]); first | done | rfl | (simp only [List.length_drop, List.length_take]; rfl)) ?_; (with_reducible refine (mathutil_GCDUint64.calls kj33 t126 t127 t128 _ A39.out).mono ?_); rintro e w' ⟨rfl, ⟨nd, rfl⟩⟩; refine ⟨_, rfl, ?_⟩) | ((with_reducible refine gate_callee (f := 16) rfl ?_); refine goesL_ (some 124) rfl rfl Tryd.func16 (by kernel_rfl) rfl #[.int .i64 (wrap64 ((wrap64 (-(wrap64 (Int.tdiv a1 x6_8)))) - t123))] rfl (by (try simp only [List.map_toArray, List.map_cons, List.map_nil]); first | done | rfl | (simp only [List.length_drop, List.length_take]; rfl)) ?_; (with_reducible refine (mathutil_abs.calls (wrap64 ((wrap64 (-(wrap64 (Int.tdiv a1 x6_8)))) - t123)) t129 _ A41.out).mono ?_); rintro e w' ⟨rfl, ⟨nd, rfl⟩⟩; refine ⟨_, rfl, ?_⟩) | ((with_reducible refine gate_callee (f := 16) rfl ?_); refine goesL_ (some 126) rfl rfl Tryd.func16 (by kernel_rfl) rfl #[.int .i64 (wrap64 (2 * (wrap64 (Int.tdiv a0 x6_8))))] rfl (by (try simp only [List.map_toArray, List.map_cons, List.map_nil]); first | done | rfl | (simp only [List.length_drop, List.length_take]; rfl)) ?_; (with_reducible refine (mathutil_abs.calls (wrap64 (2 * (wrap64 (Int.tdiv a0 x6_8)))) t130 _ A42.out).mono ?_); rintro e w' ⟨rfl, ⟨nd, rfl⟩⟩; refine ⟨_, rfl, ?_⟩) | ((with_reducible refine gate_callee (f := 19) rfl ?_); refine goesL_ (some 127) rfl rfl Tryd.func19 (by kernel_rfl) rfl #[.int .u64 t129, .int .u64 t130] rfl (by (try simp only [List.map_toArray, List.map_cons, List.map_nil]); first | done | rfl | (simp only [List.length_drop, List.length_take]; rfl)) ?_; (with_reducible refine (mathutil_GCDUint64.calls kj33 t129 t130 t131 _ A43.out).mono ?_); rintro e w' ⟨rfl, ⟨nd, rfl⟩⟩; refine ⟨_, rfl, ?_⟩) | ((with_reducible refine gate_dst (N := 144) rfl ?_); refine Kd.R_lit k43 _ 43 ?hg (N := 144) ?hd (xs := ([(⟨wrap64 (Int.tdiv (wrap64 (2 * (wrap64 (Int.tdiv a0 x6_8)))) (wrap64 (t128))), wrap64 (-(wrap64 (Int.tdiv (wrap64 ((wrap64 (-(wrap64 (Int.tdiv a1 x6_8)))) + t123)) (wrap64 (t128)))))⟩ : S43), (⟨wrap64 (Int.tdiv (wrap64 (2 * (wrap64 (Int.tdiv a0 x6_8)))) (wrap64 (t131))), wrap64 (-(wrap64 (Int.tdiv (wrap64 ((wrap64 (-(wrap64 (Int.tdiv a1 x6_8)))) - t123)) (wrap64 (t131)))))⟩ : S43)] : List (S43))) (inner := [.int .i64 (wrap64 (Int.tdiv (wrap64 (2 * (wrap64 (Int.tdiv a0 x6_8)))) (wrap64 (t128)))), .int .i64 (wrap64 (-(wrap64 (Int.tdiv (wrap64 ((wrap64 (-(wrap64 (Int.tdiv a1 x6_8)))) + t123)) (wrap64 (t128)))))), .int .i64 (wrap64 (Int.tdiv (wrap64 (2 * (wrap64 (Int.tdiv a0 x6_8)))) (wrap64 (t131)))), .int .i64 (wrap64 (-(wrap64 (Int.tdiv (wrap64 ((wrap64 (-(wrap64 (Int.tdiv a1 x6_8)))) - t123)) (wrap64 (t131))))))]) (ok := fun _ => True) (okp := fun _ => True) ?hr ?hp (fun _ hk => hk) trivial (Below.refl _ _) (Nat.le_refl _) (by simp) ?_; (case hd => rfl); (case hg => rfl); (case hr => first | (go_simp; done) | (go_simp; rfl)); (case hp => exact (Reps.c2 (show Kd.M k43 _ _ _ (⟨wrap64 (Int.tdiv (wrap64 (2 * (wrap64 (Int.tdiv a0 x6_8)))) (wrap64 (t128))), wrap64 (-(wrap64 (Int.tdiv (wrap64 ((wrap64 (-(wrap64 (Int.tdiv a1 x6_8)))) + t123)) (wrap64 (t128)))))⟩ : S43) [.int .i64 (wrap64 (Int.tdiv (wrap64 (2 * (wrap64 (Int.tdiv a0 x6_8)))) (wrap64 (t128)))), .int .i64 (wrap64 (-(wrap64 (Int.tdiv (wrap64 ((wrap64 (-(wrap64 (Int.tdiv a1 x6_8)))) + t123)) (wrap64 (t128))))))] from (k43_mkM _ _ _ (⟨wrap64 (Int.tdiv (wrap64 (2 * (wrap64 (Int.tdiv a0 x6_8)))) (wrap64 (t128))), wrap64 (-(wrap64 (Int.tdiv (wrap64 ((wrap64 (-(wrap64 (Int.tdiv a1 x6_8)))) + t123)) (wrap64 (t128)))))⟩ : S43) )) (Reps.c2 (show Kd.M k43 _ _ _ (⟨wrap64 (Int.tdiv (wrap64 (2 * (wrap64 (Int.tdiv a0 x6_8)))) (wrap64 (t131))), wrap64 (-(wrap64 (Int.tdiv (wrap64 ((wrap64 (-(wrap64 (Int.tdiv a1 x6_8)))) - t123)) (wrap64 (t131)))))⟩ : S43) [.int .i64 (wrap64 (Int.tdiv (wrap64 (2 * (wrap64 (Int.tdiv a0 x6_8)))) (wrap64 (t131)))), .int .i64 (wrap64 (-(wrap64 (Int.tdiv (wrap64 ((wrap64 (-(wrap64 (Int.tdiv a1 x6_8)))) - t123)) (wrap64 (t131))))))] from (k43_mkM _ _ _ (⟨wrap64 (Int.tdiv (wrap64 (2 * (wrap64 (Int.tdiv a0 x6_8)))) (wrap64 (t131))), wrap64 (-(wrap64 (Int.tdiv (wrap64 ((wrap64 (-(wrap64 (Int.tdiv a1 x6_8)))) - t123)) (wrap64 (t131)))))⟩ : S43) )) (Reps.none _ _)))); intro v133 w45 ho46 hb hg_ hnew_; clear hg_ hnew_; (first | rw [← Ny132.out] at ho46 | (simp only [Int.reduceToNat] at ho46; rw [← Ny132.out] at ho46)); have n0_ := Aside0.mk (Kd.R_lower ho46 (below_size (by repeat (first | (with_reducible first | exact HB.out | apply below_alloc | apply pw_below_drewN | apply below_drew1) | exact HB.out)))); have n1_ := Aside0.mk (below_step (by repeat (first | (with_reducible first | exact HB.out | apply below_alloc | apply pw_below_drewN | apply below_drew1) | exact HB.out)) hb); clear HB; have HO134 := n0_; have HB := n1_; clear n0_ n1_; clear hb ho46))
                      go_ret3
                      exact ⟨_, by first | rfl | (simp [errW_none, errW_some] <;> rfl) | (simp [*, errW_none, errW_some] <;> rfl), by (with_reducible repeat (first | apply Kd.R_alloc | apply Kd.R_drewN | apply Kd.R_drew)); exact HO134.out, by repeat (first | (with_reducible first | exact HB.out | apply below_alloc | apply pw_below_drewN | apply below_drew1) | exact HB.out)⟩
          · have H1 : (some (0, ([] : List (S43)), some q125)) = some (r1, r2, r3) := by rw [if_neg (show ¬ (some q125).isNone = true by simp)] at H; exact H
            clear H
            have H := H1
            clear H1
            try simp only [errW_none, errW_some]
            simp only [Option.some.injEq, Prod.mk.injEq] at H
            obtain ⟨rfl, rfl, rfl⟩ := H
            go_wp2_with (first | ((with_reducible refine gate_callee (f := 13) rfl ?_); refine goesL_ (some 86) rfl rfl Tryd.func13 (by kernel_rfl) rfl #[.int .i64 (wrap64 (Int.tdiv a0 x6_8)), .int .i64 (wrap64 (Int.tdiv a1 x6_8)), .int .i64 (wrap64 (Int.tdiv a2 x6_8))] rfl (by (try simp only [List.map_toArray, List.map_cons, List.map_nil]); first | done | rfl | (simp only [List.length_drop, List.length_take]; rfl)) ?_; (with_reducible refine (mathutil_QuadPolyDiscriminant.calls (wrap64 (Int.tdiv a0 x6_8)) (wrap64 (Int.tdiv a1 x6_8)) (wrap64 (Int.tdiv a2 x6_8)) t122 t123 (some q125) _ ?sideT A33.out).mono ?_); (case sideT => exact ⟨QpdC.tabs_below HT (by repeat (first | (with_reducible first | exact HB.out | apply below_alloc | apply pw_below_drewN | apply below_drew1) | exact HB.out))⟩); rintro e w' ⟨rfl, ⟨nd, rfl⟩⟩; refine ⟨_, rfl, ?_⟩; (try simp only [errW_none, errW_some])))
            go_ret3
            exact ⟨_, by first | rfl | (simp [errW_none, errW_some] <;> rfl) | (simp [*, errW_none, errW_some] <;> rfl), by first | exact Kd.R_nil _ _ _ _ _ | exact Kd.N_nil _ _ _ _ _ | exact Kd.V_nil _ _ _ _ _ | exact Kd.Q_nil _ _ _ _ _ | exact Kd.S_nil _ _ _ _ _, by repeat (first | (with_reducible first | exact HB.out | apply below_alloc | apply pw_below_drewN | apply below_drew1) | exact HB.out)⟩

end Go.Proofs.YtpelipdecjooeaaDoor.PFnQuadMade
