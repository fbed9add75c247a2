/- The functions that the law 'FnDiscriminant' reaches, each with its contract. -/
import Derived.Test.YtpelipdecjooeaaDoorOFnDiscriminantx0
namespace Go.Proofs.YtpelipdecjooeaaDoor.PFnDiscriminant
open Go.RowKit Go.Proofs.YtpelipdecjooeaaDoorW.PrintWords Go.Proofs.YtpelipdecjooeaaDoorW.PrintLast Go.Proofs.YtpelipdecjooeaaDoorW.PrintMore
attribute [local go_sem] max2_int min2_int max_two min_two max_three min_three max_four min_four   -- for this text's walks alone
set_option linter.unusedVariables false
set_option linter.unusedSimpArgs false

-- NOT PRINTED: function 15 (mathutil_BitLenUint64)

/-! ### mathutil_abs: function 16 -/
def mathutil_abs.f (a0 : Int) : Option (Int) := if a0 ≥ 0 then (some (IntKind.u64.wrap (a0))) else (some (IntKind.u64.wrap (wrap64 (-a0))))
set_option maxHeartbeats 8000000 in
set_option maxRecDepth 100000 in
theorem mathutil_abs.calls (a0 : Int) (r : Int) (w : World) (h : mathutil_abs.f a0 = some r) :
    Calls Tryd.prog 16 #[.int .i64 a0] w fun e w' => e = .returned (.int .u64 r) ∧ Drawn0 w w' := by
  have H : (if a0 ≥ 0 then (some (IntKind.u64.wrap (a0))) else (some (IntKind.u64.wrap (wrap64 (-a0))))) = some r := h
  clear h
  by_cases c2 : a0 ≥ 0
  · rw [if_pos c2] at H
    have c2b0 : decide (0 ≤ a0) = true := decide_eq_true c2
    clear c2
    obtain rfl := Option.some.inj H
    go_enter Tryd.func16, Tryd.ntmps16
    go_wp2
    go_ret
    exact ⟨by first | rfl | (simp; done) | (simp [*]; done), by repeat (first | exact Drawn0.refl _ | apply Drawn0.step)⟩
  · rw [if_neg c2] at H
    have c2b0 : decide (0 ≤ a0) = false := decide_eq_false c2
    clear c2
    obtain rfl := Option.some.inj H
    go_enter Tryd.func16, Tryd.ntmps16
    go_wp2
    go_ret
    exact ⟨by first | rfl | (simp; done) | (simp [*]; done), by repeat (first | exact Drawn0.refl _ | apply Drawn0.step)⟩

-- NOT PRINTED: function 17 (errors_New)

/-! ### mathutil_SqrtUint64: function 18 -/
def mathutil_SqrtUint64.l0 : Nat → Int → Int → Int → Option (Int)
  | 0, _, _, _ => none
  | k + 1, x0, x2, x3 => if x2 = 0 then (none) else (if (IntKind.u64.wrap (Int.tdiv (IntKind.u64.wrap (x2 + (IntKind.u64.wrap (Int.tdiv x0 x2)))) 2)) = x2 then (some x2) else (if (IntKind.u64.wrap (Int.tdiv (IntKind.u64.wrap (x2 + (IntKind.u64.wrap (Int.tdiv x0 x2)))) 2)) = x3 then (some x2) else (mathutil_SqrtUint64.l0 k x0 (IntKind.u64.wrap (Int.tdiv (IntKind.u64.wrap (x2 + (IntKind.u64.wrap (Int.tdiv x0 x2)))) 2)) x2)))
def mathutil_SqrtUint64.f (k : Nat) (a0 : Int) : Option (Int) := if a0 = 0 then (some 0) else (if a0 ≥ 18446744065119617025 then (some 4294967295) else (mathutil_SqrtUint64.l0 k a0 a0 0))
theorem mathutil_SqrtUint64.mono_l : ∀ k, (∀ y0 y1 y2, LeO (mathutil_SqrtUint64.l0 k y0 y1 y2) (mathutil_SqrtUint64.l0 (k + 1) y0 y1 y2))
  | 0 => fun _ _ _ r h => by simp [mathutil_SqrtUint64.l0] at h
  | k + 1 => by
    have ih0 := mathutil_SqrtUint64.mono_l k
    · intro y0 y1 y2
      unfold mathutil_SqrtUint64.l0
      repeat' first
      | (with_reducible exact ih0 _ _ _)
      | (with_reducible exact LeO.refl _)
      | (with_reducible exact LeO.none _)
      | (with_reducible refine LeO.ite ?_ ?_)
      | (with_reducible refine LeO.bind ?_ (fun _ => ?_))
      | exact ih0 _ _ _
      | exact LeO.none _
      | refine LeO.ite ?_ ?_
      | refine LeO.bind ?_ (fun _ => ?_)
theorem mathutil_SqrtUint64.mono : ∀ a0 k, LeO (mathutil_SqrtUint64.f k a0) (mathutil_SqrtUint64.f (k + 1) a0) := by
  intro a0 k
  have ih0 := mathutil_SqrtUint64.mono_l k
  unfold mathutil_SqrtUint64.f
  repeat' first
      | (with_reducible exact ih0 _ _ _)
      | (with_reducible exact LeO.refl _)
      | (with_reducible exact LeO.none _)
      | (with_reducible refine LeO.ite ?_ ?_)
      | (with_reducible refine LeO.bind ?_ (fun _ => ?_))
      | exact ih0 _ _ _
      | exact LeO.none _
      | refine LeO.ite ?_ ?_
      | refine LeO.bind ?_ (fun _ => ?_)
set_option maxHeartbeats 8000000 in
set_option maxRecDepth 100000 in
theorem mathutil_SqrtUint64.calls (k : Nat) (a0 : Int) (r : Int) (w : World) (h : mathutil_SqrtUint64.f k a0 = some r) :
    Calls Tryd.prog 18 #[.int .u64 a0] w fun e w' => e = .returned (.int .u64 r) ∧ Drawn0 w w' := by
  have H : (if a0 = 0 then (some 0) else (if a0 ≥ 18446744065119617025 then (some 4294967295) else (mathutil_SqrtUint64.l0 k a0 a0 0))) = some r := h
  clear h
  by_cases c2 : a0 = 0
  · rw [if_pos c2] at H
    have c2b0 : (a0 == 0) = true := beq_iff_eq.mpr c2
    have c2b1 : (a0 != 0) = false := bne_eq_false_iff_eq.mpr c2
    clear c2
    obtain rfl := Option.some.inj H
    go_enter Tryd.func18, Tryd.ntmps18
    go_wp2
    go_ret
    exact ⟨by first | rfl | (simp; done) | (simp [*]; done), by repeat (first | exact Drawn0.refl _ | apply Drawn0.step)⟩
  · rw [if_neg c2] at H
    have c2b0 : (a0 == 0) = false := beq_eq_false_iff_ne.mpr c2
    have c2b1 : (a0 != 0) = true := bne_iff_ne.mpr c2
    by_cases c3 : a0 ≥ 18446744065119617025
    · rw [if_pos c3] at H
      have c3b0 : decide (18446744065119617025 ≤ a0) = true := decide_eq_true c3
      clear c3
      obtain rfl := Option.some.inj H
      go_enter Tryd.func18, Tryd.ntmps18
      go_wp2
      go_ret
      exact ⟨by first | rfl | (simp; done) | (simp [*]; done), by repeat (first | exact Drawn0.refl _ | apply Drawn0.step)⟩
    · rw [if_neg c3] at H
      have c3b0 : decide (18446744065119617025 ≤ a0) = false := decide_eq_false c3
      clear c3
      have H' := Aside0.mk H
      clear H
      go_enter Tryd.func18, Tryd.ntmps18
      go_wp2
      go_loopg [2, 3] k (fun kq v2 v3 w' => ∃ (x2_1 : Int) (x3_1 : Int), v2 = .int .u64 x2_1 ∧ v3 = .int .u64 x3_1 ∧ Aside0 (mathutil_SqrtUint64.l0 kq a0 x2_1 x3_1 = some r) ∧ Aside0 (kq ≤ k) ∧ Drawn0 w w')
      case atStart => exact ⟨(a0), (0), (by first | rfl | (simp; done) | (simp [*]; done)), (by first | rfl | (simp; done) | (simp [*]; done)), H', ⟨Nat.le_refl _⟩, by repeat (first | exact Drawn0.refl _ | apply Drawn0.step)⟩
      case round =>
        clear H'
        try clear c1
        try clear c2
        try clear c2b0
        try clear c2b1
        try clear p2
        try clear c3
        try clear c3b0
        obtain ⟨x2_1, x3_1, rfl, rfl, HA, HK1, ⟨m1, rfl⟩⟩ := hrel
        cases gk with
        | zero => exact absurd HA.out (by simp [mathutil_SqrtUint64.l0])
        | succ k1 =>
          have H := HA.out
          clear HA
          simp only [mathutil_SqrtUint64.l0] at H
          by_cases c4 : x2_1 = 0
          · rw [if_pos c4] at H
            exact absurd H (by simp)
          · rw [if_neg c4] at H
            have c4b0 : (x2_1 == 0) = false := beq_eq_false_iff_ne.mpr c4
            have c4b1 : (x2_1 != 0) = true := bne_iff_ne.mpr c4
            by_cases c5 : (IntKind.u64.wrap (Int.tdiv (IntKind.u64.wrap (x2_1 + (IntKind.u64.wrap (Int.tdiv a0 x2_1)))) 2)) = x2_1
            · rw [if_pos c5] at H
              have c5b0 : ((IntKind.u64.wrap (Int.tdiv (IntKind.u64.wrap (x2_1 + (IntKind.u64.wrap (Int.tdiv a0 x2_1)))) 2)) == x2_1) = true := beq_iff_eq.mpr c5
              have c5b1 : ((IntKind.u64.wrap (Int.tdiv (IntKind.u64.wrap (x2_1 + (IntKind.u64.wrap (Int.tdiv a0 x2_1)))) 2)) != x2_1) = false := bne_eq_false_iff_eq.mpr c5
              clear c5
              obtain rfl := Option.some.inj H
              go_wp2
              go_ret
              exact ⟨by first | rfl | (simp; done) | (simp [*]; done), by repeat (first | exact Drawn0.refl _ | apply Drawn0.step)⟩
            · rw [if_neg c5] at H
              have c5b0 : ((IntKind.u64.wrap (Int.tdiv (IntKind.u64.wrap (x2_1 + (IntKind.u64.wrap (Int.tdiv a0 x2_1)))) 2)) == x2_1) = false := beq_eq_false_iff_ne.mpr c5
              have c5b1 : ((IntKind.u64.wrap (Int.tdiv (IntKind.u64.wrap (x2_1 + (IntKind.u64.wrap (Int.tdiv a0 x2_1)))) 2)) != x2_1) = true := bne_iff_ne.mpr c5
              by_cases c6 : (IntKind.u64.wrap (Int.tdiv (IntKind.u64.wrap (x2_1 + (IntKind.u64.wrap (Int.tdiv a0 x2_1)))) 2)) = x3_1
              · rw [if_pos c6] at H
                have c6b0 : ((IntKind.u64.wrap (Int.tdiv (IntKind.u64.wrap (x2_1 + (IntKind.u64.wrap (Int.tdiv a0 x2_1)))) 2)) == x3_1) = true := beq_iff_eq.mpr c6
                have c6b1 : ((IntKind.u64.wrap (Int.tdiv (IntKind.u64.wrap (x2_1 + (IntKind.u64.wrap (Int.tdiv a0 x2_1)))) 2)) != x3_1) = false := bne_eq_false_iff_eq.mpr c6
                clear c6
                obtain rfl := Option.some.inj H
                go_wp2
                go_ret
                exact ⟨by first | rfl | (simp; done) | (simp [*]; done), by repeat (first | exact Drawn0.refl _ | apply Drawn0.step)⟩
              · rw [if_neg c6] at H
                have c6b0 : ((IntKind.u64.wrap (Int.tdiv (IntKind.u64.wrap (x2_1 + (IntKind.u64.wrap (Int.tdiv a0 x2_1)))) 2)) == x3_1) = false := beq_eq_false_iff_ne.mpr c6
                have c6b1 : ((IntKind.u64.wrap (Int.tdiv (IntKind.u64.wrap (x2_1 + (IntKind.u64.wrap (Int.tdiv a0 x2_1)))) 2)) != x3_1) = true := bne_iff_ne.mpr c6
                have H' := Aside0.mk H
                clear H
                go_wp2
                go_roundg k1
                case measure => have := HK1.out; omega
                case rel => exact ⟨(IntKind.u64.wrap (Int.tdiv (IntKind.u64.wrap (x2_1 + (IntKind.u64.wrap (Int.tdiv a0 x2_1)))) 2)), (x2_1), (by first | rfl | (simp; done) | (simp [*]; done)), (by first | rfl | (simp; done) | (simp [*]; done)), H', ⟨by have := HK1.out; omega⟩, by repeat (first | exact Drawn0.refl _ | apply Drawn0.step)⟩

-- NOT PRINTED: function 13 (mathutil_QuadPolyDiscriminant)

-- NOT PRINTED: function 6 (impl_Discriminant)

/-! ### spec_IsCoef: function 7 -/
def spec_IsCoef.f (a0 : Int) : Option (Bool) := if a0 ≥ (-1000000) then (some (decide (a0 ≤ 1000000))) else (some false)
set_option maxHeartbeats 8000000 in
set_option maxRecDepth 100000 in
theorem spec_IsCoef.calls (a0 : Int) (r : Bool) (w : World) (h : spec_IsCoef.f a0 = some r) :
    Calls Tryd.prog 7 #[.int .i64 a0] w fun e w' => e = .returned (.bool r) ∧ Drawn0 w w' := by
  have H : (if a0 ≥ (-1000000) then (some (decide (a0 ≤ 1000000))) else (some false)) = some r := h
  clear h
  by_cases c2 : a0 ≥ (-1000000)
  · rw [if_pos c2] at H
    have c2b0 : decide ((-1000000) ≤ a0) = true := decide_eq_true c2
    clear c2
    obtain rfl := Option.some.inj H
    go_enter Tryd.func7, Tryd.ntmps7
    go_wp2
    go_ret
    exact ⟨by first | rfl | (simp; done) | (simp [*]; done), by repeat (first | exact Drawn0.refl _ | apply Drawn0.step)⟩
  · rw [if_neg c2] at H
    have c2b0 : decide ((-1000000) ≤ a0) = false := decide_eq_false c2
    clear c2
    obtain rfl := Option.some.inj H
    go_enter Tryd.func7, Tryd.ntmps7
    go_wp2
    go_ret
    exact ⟨by first | rfl | (simp; done) | (simp [*]; done), by repeat (first | exact Drawn0.refl _ | apply Drawn0.step)⟩

/-! ### spec_Root: function 8 -/
def spec_Root.l0 : Nat → Int → Int → Int → Option (Int)
  | 0, _, _, _ => none
  | k + 1, x0, x3, x4 => if x3 < x4 then (if (wrap64 ((wrap64 (Int.tdiv (wrap64 (x3 + x4)) 2)) * (wrap64 (Int.tdiv (wrap64 (x3 + x4)) 2)))) < x0 then (spec_Root.l0 k x0 (wrap64 ((wrap64 (Int.tdiv (wrap64 (x3 + x4)) 2)) + 1)) x4) else (spec_Root.l0 k x0 x3 (wrap64 (Int.tdiv (wrap64 (x3 + x4)) 2)))) else (if (wrap64 (x3 * x3)) = x0 then (some x3) else (some (-1)))
def spec_Root.f (k : Nat) (a0 : Int) : Option (Int) := spec_Root.l0 k a0 0 4194304
theorem spec_Root.mono_l : ∀ k, (∀ y0 y1 y2, LeO (spec_Root.l0 k y0 y1 y2) (spec_Root.l0 (k + 1) y0 y1 y2))
  | 0 => fun _ _ _ r h => by simp [spec_Root.l0] at h
  | k + 1 => by
    have ih0 := spec_Root.mono_l k
    · intro y0 y1 y2
      unfold spec_Root.l0
      repeat' first
      | (with_reducible exact ih0 _ _ _)
      | (with_reducible exact LeO.refl _)
      | (with_reducible exact LeO.none _)
      | (with_reducible refine LeO.ite ?_ ?_)
      | (with_reducible refine LeO.bind ?_ (fun _ => ?_))
      | exact ih0 _ _ _
      | exact LeO.none _
      | refine LeO.ite ?_ ?_
      | refine LeO.bind ?_ (fun _ => ?_)
theorem spec_Root.mono : ∀ a0 k, LeO (spec_Root.f k a0) (spec_Root.f (k + 1) a0) := by
  intro a0 k
  have ih0 := spec_Root.mono_l k
  unfold spec_Root.f
  repeat' first
      | (with_reducible exact ih0 _ _ _)
      | (with_reducible exact LeO.refl _)
      | (with_reducible exact LeO.none _)
      | (with_reducible refine LeO.ite ?_ ?_)
      | (with_reducible refine LeO.bind ?_ (fun _ => ?_))
      | exact ih0 _ _ _
      | exact LeO.none _
      | refine LeO.ite ?_ ?_
      | refine LeO.bind ?_ (fun _ => ?_)
set_option maxHeartbeats 8000000 in
set_option maxRecDepth 100000 in
theorem spec_Root.calls (k : Nat) (a0 : Int) (r : Int) (w : World) (h : spec_Root.f k a0 = some r) :
    Calls Tryd.prog 8 #[.int .i64 a0] w fun e w' => e = .returned (.int .i64 r) ∧ Drawn0 w w' := by
  have H : (spec_Root.l0 k a0 0 4194304) = some r := h
  clear h
  have H' := Aside0.mk H
  clear H
  go_enter Tryd.func8, Tryd.ntmps8
  go_wp2
  go_loopg [3, 4] k (fun kq v3 v4 w' => ∃ (x3_1 : Int) (x4_1 : Int), v3 = .int .i64 x3_1 ∧ v4 = .int .i64 x4_1 ∧ Aside0 (spec_Root.l0 kq a0 x3_1 x4_1 = some r) ∧ Aside0 (kq ≤ k) ∧ Drawn0 w w')
  case atStart => exact ⟨(0), (4194304), (by first | rfl | (simp; done) | (simp [*]; done)), (by first | rfl | (simp; done) | (simp [*]; done)), H', ⟨Nat.le_refl _⟩, by repeat (first | exact Drawn0.refl _ | apply Drawn0.step)⟩
  case round =>
    clear H'
    obtain ⟨x3_1, x4_1, rfl, rfl, HA, HK1, ⟨m1, rfl⟩⟩ := hrel
    cases gk with
    | zero => exact absurd HA.out (by simp [spec_Root.l0])
    | succ k1 =>
      have H := HA.out
      clear HA
      simp only [spec_Root.l0] at H
      by_cases c2 : x3_1 < x4_1
      · rw [if_pos c2] at H
        have c2b0 : decide (x3_1 < x4_1) = true := decide_eq_true c2
        clear c2
        by_cases c3 : (wrap64 ((wrap64 (Int.tdiv (wrap64 (x3_1 + x4_1)) 2)) * (wrap64 (Int.tdiv (wrap64 (x3_1 + x4_1)) 2)))) < a0
        · rw [if_pos c3] at H
          have c3b0 : decide ((wrap64 ((wrap64 (Int.tdiv (wrap64 (x3_1 + x4_1)) 2)) * (wrap64 (Int.tdiv (wrap64 (x3_1 + x4_1)) 2)))) < a0) = true := decide_eq_true c3
          clear c3
          have H' := Aside0.mk H
          clear H
          go_wp2
          go_roundg k1
          case measure => have := HK1.out; omega
          case rel => exact ⟨(wrap64 ((wrap64 (Int.tdiv (wrap64 (x3_1 + x4_1)) 2)) + 1)), (x4_1), (by first | rfl | (simp; done) | (simp [*]; done)), (by first | rfl | (simp; done) | (simp [*]; done)), H', ⟨by have := HK1.out; omega⟩, by repeat (first | exact Drawn0.refl _ | apply Drawn0.step)⟩
        · rw [if_neg c3] at H
          have c3b0 : decide ((wrap64 ((wrap64 (Int.tdiv (wrap64 (x3_1 + x4_1)) 2)) * (wrap64 (Int.tdiv (wrap64 (x3_1 + x4_1)) 2)))) < a0) = false := decide_eq_false c3
          clear c3
          have H' := Aside0.mk H
          clear H
          go_wp2
          go_roundg k1
          case measure => have := HK1.out; omega
          case rel => exact ⟨(x3_1), (wrap64 (Int.tdiv (wrap64 (x3_1 + x4_1)) 2)), (by first | rfl | (simp; done) | (simp [*]; done)), (by first | rfl | (simp; done) | (simp [*]; done)), H', ⟨by have := HK1.out; omega⟩, by repeat (first | exact Drawn0.refl _ | apply Drawn0.step)⟩
      · rw [if_neg c2] at H
        have c2b0 : decide (x3_1 < x4_1) = false := decide_eq_false c2
        clear c2
        by_cases c4 : (wrap64 (x3_1 * x3_1)) = a0
        · rw [if_pos c4] at H
          have c4b0 : ((wrap64 (x3_1 * x3_1)) == a0) = true := beq_iff_eq.mpr c4
          have c4b1 : ((wrap64 (x3_1 * x3_1)) != a0) = false := bne_eq_false_iff_eq.mpr c4
          clear c4
          obtain rfl := Option.some.inj H
          go_wp2
          go_ret
          exact ⟨by first | rfl | (simp; done) | (simp [*]; done), by repeat (first | exact Drawn0.refl _ | apply Drawn0.step)⟩
        · rw [if_neg c4] at H
          have c4b0 : ((wrap64 (x3_1 * x3_1)) == a0) = false := beq_eq_false_iff_ne.mpr c4
          have c4b1 : ((wrap64 (x3_1 * x3_1)) != a0) = true := bne_iff_ne.mpr c4
          obtain rfl := Option.some.inj H
          go_wp2
          go_ret
          exact ⟨by first | rfl | (simp; done) | (simp [*]; done), by repeat (first | exact Drawn0.refl _ | apply Drawn0.step)⟩

-- NOT PRINTED: function 3 (laws_FnDiscriminant)

end Go.Proofs.YtpelipdecjooeaaDoor.PFnDiscriminant
