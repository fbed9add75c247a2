/- The printed functions that the laws of powers reach, each with its contract. -/
import Derived.Test.YtmmnopmccamjcaaGreatDoorOBig
namespace Go.Proofs.YtmmnopmccamjcaaGreatDoor.PMp
open Go.RowKit Go.Proofs.YtmmnopmccamjcaaGreatDoorW.PrintWords Go.Proofs.YtmmnopmccamjcaaGreatDoorW.PrintLast Go.Proofs.YtmmnopmccamjcaaGreatDoorW.PrintMore
attribute [local go_sem] max2_int min2_int max_two min_two max_three min_three max_four min_four   -- for this text's walks alone
set_option linter.unusedVariables false
set_option linter.unusedSimpArgs false

/-! ### mathutil_ModPowByte: function 9 -/
mutual
def mathutil_ModPowByte.j0 : Nat → Int → Int → Int → Bool → Option (Int)
  | 0, _, _, _, _ => none
  | k + 1, x0, x1, x2, x15 => if x15 = true then (none) else (if x2 = 1 then (some 0) else (mathutil_ModPowByte.l0 k x1 1 (IntKind.u16.wrap (x0)) (IntKind.u16.wrap (x2))))
def mathutil_ModPowByte.l0 : Nat → Int → Int → Int → Int → Option (Int)
  | 0, _, _, _, _ => none
  | k + 1, x1, x7, x8, x9 => if x1 > 0 then (if (Go.bits .and .u8 x1 1) = 1 then (if x9 = 0 then (none) else (mathutil_ModPowByte.l0 k (x1 / 2) (Int.tmod (IntKind.u16.wrap (x7 * x8)) x9) (Int.tmod (IntKind.u16.wrap (x8 * x8)) x9) x9)) else (if x9 = 0 then (none) else (mathutil_ModPowByte.l0 k (x1 / 2) x7 (Int.tmod (IntKind.u16.wrap (x8 * x8)) x9) x9))) else (some ((x7) % 256))
end
def mathutil_ModPowByte.f (k : Nat) (a0 : Int) (a1 : Int) (a2 : Int) : Option (Int) := if a0 = 0 then (mathutil_ModPowByte.j0 k a0 a1 a2 (a1 == 0)) else (mathutil_ModPowByte.j0 k a0 a1 a2 false)
theorem mathutil_ModPowByte.mono_l : ∀ k, (∀ y0 y1 y2 y3, LeO (mathutil_ModPowByte.j0 k y0 y1 y2 y3) (mathutil_ModPowByte.j0 (k + 1) y0 y1 y2 y3)) ∧ (∀ y0 y1 y2 y3, LeO (mathutil_ModPowByte.l0 k y0 y1 y2 y3) (mathutil_ModPowByte.l0 (k + 1) y0 y1 y2 y3))
  | 0 => ⟨fun _ _ _ _ r h => by simp [mathutil_ModPowByte.j0] at h, fun _ _ _ _ r h => by simp [mathutil_ModPowByte.l0] at h⟩
  | k + 1 => by
    obtain ⟨ih0, ih1⟩ := mathutil_ModPowByte.mono_l k
    refine ⟨?_, ?_⟩
    · intro y0 y1 y2 y3
      unfold mathutil_ModPowByte.j0
      repeat' first
      | (with_reducible exact ih0 _ _ _ _)
      | (with_reducible exact ih1 _ _ _ _)
      | (with_reducible exact LeO.refl _)
      | (with_reducible exact LeO.none _)
      | (with_reducible refine LeO.ite ?_ ?_)
      | (with_reducible refine LeO.bind ?_ (fun _ => ?_))
      | exact ih0 _ _ _ _
      | exact ih1 _ _ _ _
      | exact LeO.none _
      | refine LeO.ite ?_ ?_
      | refine LeO.bind ?_ (fun _ => ?_)
    · intro y0 y1 y2 y3
      unfold mathutil_ModPowByte.l0
      repeat' first
      | (with_reducible exact ih0 _ _ _ _)
      | (with_reducible exact ih1 _ _ _ _)
      | (with_reducible exact LeO.refl _)
      | (with_reducible exact LeO.none _)
      | (with_reducible refine LeO.ite ?_ ?_)
      | (with_reducible refine LeO.bind ?_ (fun _ => ?_))
      | exact ih0 _ _ _ _
      | exact ih1 _ _ _ _
      | exact LeO.none _
      | refine LeO.ite ?_ ?_
      | refine LeO.bind ?_ (fun _ => ?_)
theorem mathutil_ModPowByte.mono : ∀ a0 a1 a2 k, LeO (mathutil_ModPowByte.f k a0 a1 a2) (mathutil_ModPowByte.f (k + 1) a0 a1 a2) := by
  intro a0 a1 a2 k
  obtain ⟨ih0, ih1⟩ := mathutil_ModPowByte.mono_l k
  unfold mathutil_ModPowByte.f
  repeat' first
      | (with_reducible exact ih0 _ _ _ _)
      | (with_reducible exact ih1 _ _ _ _)
      | (with_reducible exact LeO.refl _)
      | (with_reducible exact LeO.none _)
      | (with_reducible refine LeO.ite ?_ ?_)
      | (with_reducible refine LeO.bind ?_ (fun _ => ?_))
      | exact ih0 _ _ _ _
      | exact ih1 _ _ _ _
      | exact LeO.none _
      | refine LeO.ite ?_ ?_
      | refine LeO.bind ?_ (fun _ => ?_)
set_option maxHeartbeats 8000000 in
set_option maxRecDepth 100000 in
theorem mathutil_ModPowByte.calls (k : Nat) (a0 : Int) (a1 : Int) (a2 : Int) (r : Int) (w : World) (h : mathutil_ModPowByte.f k a0 a1 a2 = some r) :
    Calls Tryz.prog 9 #[.int .u8 a0, .int .u8 a1, .int .u8 a2] w fun e w' => e = .returned (.int .u8 r) ∧ Drawn0 w w' := by
  have H : (if a0 = 0 then (mathutil_ModPowByte.j0 k a0 a1 a2 (a1 == 0)) else (mathutil_ModPowByte.j0 k a0 a1 a2 false)) = some r := h
  clear h
  have HC4 := Aside0.mk H
  clear H
  go_enter Tryz.func9, Tryz.ntmps9
  go_upto_region 1 with (fail)
  go_cut [15] (fun v15 wc => ∃ (kq : Nat) (x15_3 : Bool), v15 = .bool x15_3 ∧ Aside0 (mathutil_ModPowByte.j0 kq a0 a1 a2 x15_3 = some r) ∧ Aside0 (kq ≤ k) ∧ Drawn0 w wc)
  case first =>
    have H := HC4.out
    clear HC4
    by_cases c5 : a0 = 0
    · rw [if_pos c5] at H
      have c5b0 : (a0 == 0) = true := beq_iff_eq.mpr c5
      have c5b1 : (a0 != 0) = false := bne_eq_false_iff_eq.mpr c5
      clear c5
      (first | rw [c5b0] | (simp only [i64_w, i32_w]; rw [c5b0]) | skip)
      have H' := Aside0.mk H
      clear H
      go_wp2
      go_meet
      case rel => exact ⟨_, ((a1 == 0)), (by first | rfl | (simp; done) | (simp [*]; done)), H', ⟨by first | omega | exact Nat.le_refl _⟩, by repeat (first | exact Drawn0.refl _ | apply Drawn0.step)⟩
    · rw [if_neg c5] at H
      have c5b0 : (a0 == 0) = false := beq_eq_false_iff_ne.mpr c5
      have c5b1 : (a0 != 0) = true := bne_iff_ne.mpr c5
      (first | rw [c5b0] | (simp only [i64_w, i32_w]; rw [c5b0]) | skip)
      have H' := Aside0.mk H
      clear H
      go_wp2
      go_meet
      case rel => exact ⟨_, (false), (by first | rfl | (simp; done) | (simp [*]; done)), H', ⟨by first | omega | exact Nat.le_refl _⟩, by repeat (first | exact Drawn0.refl _ | apply Drawn0.step)⟩
  case rest =>
    clear HC4
    try clear c1
    try clear p2
    try clear c5
    try clear c5b0
    try clear c5b1
    obtain ⟨kq, x15_3, rfl, HA, HJ3, ⟨mc3, rfl⟩⟩ := hcut
    cases kq with
    | zero => exact absurd HA.out (by simp [mathutil_ModPowByte.j0])
    | succ kj3 =>
      have H := HA.out
      clear HA
      simp only [mathutil_ModPowByte.j0] at H
      by_cases c6 : x15_3 = true
      · subst c6
        have H1 : (none) = some r := by rw [if_pos rfl] at H; exact H
        clear H
        have H := H1
        clear H1
        exact absurd H (by simp)
      · replace c6 := Bool.eq_false_iff.mpr c6
        subst c6
        have H1 : (if a2 = 1 then (some 0) else (mathutil_ModPowByte.l0 kj3 a1 1 (IntKind.u16.wrap (a0)) (IntKind.u16.wrap (a2)))) = some r := by rw [if_neg (show ¬ (false = true) by decide)] at H; exact H
        clear H
        have H := H1
        clear H1
        by_cases c7 : a2 = 1
        · rw [if_pos c7] at H
          have c7b0 : (a2 == 1) = true := beq_iff_eq.mpr c7
          have c7b1 : (a2 != 1) = false := bne_eq_false_iff_eq.mpr c7
          clear c7
          obtain rfl := Option.some.inj H
          go_wp2
          go_ret
          exact ⟨by first | rfl | (simp; done) | (simp [*]; done), by repeat (first | exact Drawn0.refl _ | apply Drawn0.step)⟩
        · rw [if_neg c7] at H
          have c7b0 : (a2 == 1) = false := beq_eq_false_iff_ne.mpr c7
          have c7b1 : (a2 != 1) = true := bne_iff_ne.mpr c7
          have H' := Aside0.mk H
          clear H
          go_wp2
          go_loopg [1, 7, 8] kj3 (fun kq v1 v7 v8 w' => ∃ (x1_2 : Int) (x7_2 : Int) (x8_2 : Int), v1 = .int .u8 x1_2 ∧ v7 = .int .u16 x7_2 ∧ v8 = .int .u16 x8_2 ∧ Aside0 (mathutil_ModPowByte.l0 kq x1_2 x7_2 x8_2 (IntKind.u16.wrap (a2)) = some r) ∧ Aside0 (kq ≤ kj3) ∧ Drawn0 w w')
          case atStart => exact ⟨(a1), (1), (IntKind.u16.wrap (a0)), (by first | rfl | (simp; done) | (simp [*]; done)), (by first | rfl | (simp; done) | (simp [*]; done)), (by first | rfl | (simp; done) | (simp [*]; done)), H', ⟨Nat.le_refl _⟩, by repeat (first | exact Drawn0.refl _ | apply Drawn0.step)⟩
          case round =>
            clear H'
            try clear c1
            try clear p2
            try clear c3
            try clear c5
            try clear c5b0
            try clear c5b1
            try clear c6
            try clear c7
            try clear c7b0
            try clear c7b1
            try clear p2
            obtain ⟨x1_2, x7_2, x8_2, rfl, rfl, rfl, HA, HK2, ⟨m2, rfl⟩⟩ := hrel
            cases gk with
            | zero => exact absurd HA.out (by simp [mathutil_ModPowByte.l0])
            | succ k2 =>
              have H := HA.out
              clear HA
              simp only [mathutil_ModPowByte.l0] at H
              by_cases c8 : x1_2 > 0
              · rw [if_pos c8] at H
                have c8b0 : decide (0 < x1_2) = true := decide_eq_true c8
                clear c8
                by_cases c9 : (Go.bits .and .u8 x1_2 1) = 1
                · rw [if_pos c9] at H
                  have c9b0 : ((Go.bits .and .u8 x1_2 1) == 1) = true := beq_iff_eq.mpr c9
                  have c9b1 : ((Go.bits .and .u8 x1_2 1) != 1) = false := bne_eq_false_iff_eq.mpr c9
                  clear c9
                  by_cases c10 : (IntKind.u16.wrap (a2)) = 0
                  · rw [if_pos c10] at H
                    exact absurd H (by simp)
                  · rw [if_neg c10] at H
                    have c10b0 : ((IntKind.u16.wrap (a2)) == 0) = false := beq_eq_false_iff_ne.mpr c10
                    have c10b1 : ((IntKind.u16.wrap (a2)) != 0) = true := bne_iff_ne.mpr c10
                    have H' := Aside0.mk H
                    clear H
                    go_wp2
                    go_roundg k2
                    case measure => have := HJ3.out; have := HK2.out; omega
                    case rel => exact ⟨(x1_2 / 2), (Int.tmod (IntKind.u16.wrap (x7_2 * x8_2)) (IntKind.u16.wrap (a2))), (Int.tmod (IntKind.u16.wrap (x8_2 * x8_2)) (IntKind.u16.wrap (a2))), (by first | rfl | (simp; done) | (simp [*]; done)), (by first | rfl | (simp; done) | (simp [*]; done)), (by first | rfl | (simp; done) | (simp [*]; done)), H', ⟨by have := HJ3.out; have := HK2.out; omega⟩, by repeat (first | exact Drawn0.refl _ | apply Drawn0.step)⟩
                · rw [if_neg c9] at H
                  have c9b0 : ((Go.bits .and .u8 x1_2 1) == 1) = false := beq_eq_false_iff_ne.mpr c9
                  have c9b1 : ((Go.bits .and .u8 x1_2 1) != 1) = true := bne_iff_ne.mpr c9
                  by_cases c11 : (IntKind.u16.wrap (a2)) = 0
                  · rw [if_pos c11] at H
                    exact absurd H (by simp)
                  · rw [if_neg c11] at H
                    have c11b0 : ((IntKind.u16.wrap (a2)) == 0) = false := beq_eq_false_iff_ne.mpr c11
                    have c11b1 : ((IntKind.u16.wrap (a2)) != 0) = true := bne_iff_ne.mpr c11
                    have H' := Aside0.mk H
                    clear H
                    go_wp2
                    go_roundg k2
                    case measure => have := HJ3.out; have := HK2.out; omega
                    case rel => exact ⟨(x1_2 / 2), (x7_2), (Int.tmod (IntKind.u16.wrap (x8_2 * x8_2)) (IntKind.u16.wrap (a2))), (by first | rfl | (simp; done) | (simp [*]; done)), (by first | rfl | (simp; done) | (simp [*]; done)), (by first | rfl | (simp; done) | (simp [*]; done)), H', ⟨by have := HJ3.out; have := HK2.out; omega⟩, by repeat (first | exact Drawn0.refl _ | apply Drawn0.step)⟩
              · rw [if_neg c8] at H
                have c8b0 : decide (0 < x1_2) = false := decide_eq_false c8
                clear c8
                obtain rfl := Option.some.inj H
                go_wp2
                go_ret
                exact ⟨by first | rfl | (simp; done) | (simp [*]; done), by repeat (first | exact Drawn0.refl _ | apply Drawn0.step)⟩

/-! ### mathutil_ModPowUint16: function 10 -/
mutual
def mathutil_ModPowUint16.j0 : Nat → Int → Int → Int → Bool → Option (Int)
  | 0, _, _, _, _ => none
  | k + 1, x0, x1, x2, x15 => if x15 = true then (none) else (if x2 = 1 then (some 0) else (mathutil_ModPowUint16.l0 k x1 1 ((x0) % 4294967296) ((x2) % 4294967296)))
def mathutil_ModPowUint16.l0 : Nat → Int → Int → Int → Int → Option (Int)
  | 0, _, _, _, _ => none
  | k + 1, x1, x7, x8, x9 => if x1 > 0 then (if (Go.bits .and .u16 x1 1) = 1 then (if x9 = 0 then (none) else (mathutil_ModPowUint16.l0 k (x1 / 2) (((x7 * x8) % 4294967296) % x9) (((x8 * x8) % 4294967296) % x9) x9)) else (if x9 = 0 then (none) else (mathutil_ModPowUint16.l0 k (x1 / 2) x7 (((x8 * x8) % 4294967296) % x9) x9))) else (some (IntKind.u16.wrap (x7)))
end
def mathutil_ModPowUint16.f (k : Nat) (a0 : Int) (a1 : Int) (a2 : Int) : Option (Int) := if a0 = 0 then (mathutil_ModPowUint16.j0 k a0 a1 a2 (a1 == 0)) else (mathutil_ModPowUint16.j0 k a0 a1 a2 false)
theorem mathutil_ModPowUint16.mono_l : ∀ k, (∀ y0 y1 y2 y3, LeO (mathutil_ModPowUint16.j0 k y0 y1 y2 y3) (mathutil_ModPowUint16.j0 (k + 1) y0 y1 y2 y3)) ∧ (∀ y0 y1 y2 y3, LeO (mathutil_ModPowUint16.l0 k y0 y1 y2 y3) (mathutil_ModPowUint16.l0 (k + 1) y0 y1 y2 y3))
  | 0 => ⟨fun _ _ _ _ r h => by simp [mathutil_ModPowUint16.j0] at h, fun _ _ _ _ r h => by simp [mathutil_ModPowUint16.l0] at h⟩
  | k + 1 => by
    obtain ⟨ih0, ih1⟩ := mathutil_ModPowUint16.mono_l k
    refine ⟨?_, ?_⟩
    · intro y0 y1 y2 y3
      unfold mathutil_ModPowUint16.j0
      repeat' first
      | (with_reducible exact ih0 _ _ _ _)
      | (with_reducible exact ih1 _ _ _ _)
      | (with_reducible exact LeO.refl _)
      | (with_reducible exact LeO.none _)
      | (with_reducible refine LeO.ite ?_ ?_)
      | (with_reducible refine LeO.bind ?_ (fun _ => ?_))
      | exact ih0 _ _ _ _
      | exact ih1 _ _ _ _
      | exact LeO.none _
      | refine LeO.ite ?_ ?_
      | refine LeO.bind ?_ (fun _ => ?_)
    · intro y0 y1 y2 y3
      unfold mathutil_ModPowUint16.l0
      repeat' first
      | (with_reducible exact ih0 _ _ _ _)
      | (with_reducible exact ih1 _ _ _ _)
      | (with_reducible exact LeO.refl _)
      | (with_reducible exact LeO.none _)
      | (with_reducible refine LeO.ite ?_ ?_)
      | (with_reducible refine LeO.bind ?_ (fun _ => ?_))
      | exact ih0 _ _ _ _
      | exact ih1 _ _ _ _
      | exact LeO.none _
      | refine LeO.ite ?_ ?_
      | refine LeO.bind ?_ (fun _ => ?_)
theorem mathutil_ModPowUint16.mono : ∀ a0 a1 a2 k, LeO (mathutil_ModPowUint16.f k a0 a1 a2) (mathutil_ModPowUint16.f (k + 1) a0 a1 a2) := by
  intro a0 a1 a2 k
  obtain ⟨ih0, ih1⟩ := mathutil_ModPowUint16.mono_l k
  unfold mathutil_ModPowUint16.f
  repeat' first
      | (with_reducible exact ih0 _ _ _ _)
      | (with_reducible exact ih1 _ _ _ _)
      | (with_reducible exact LeO.refl _)
      | (with_reducible exact LeO.none _)
      | (with_reducible refine LeO.ite ?_ ?_)
      | (with_reducible refine LeO.bind ?_ (fun _ => ?_))
      | exact ih0 _ _ _ _
      | exact ih1 _ _ _ _
      | exact LeO.none _
      | refine LeO.ite ?_ ?_
      | refine LeO.bind ?_ (fun _ => ?_)
set_option maxHeartbeats 8000000 in
set_option maxRecDepth 100000 in
theorem mathutil_ModPowUint16.calls (k : Nat) (a0 : Int) (a1 : Int) (a2 : Int) (r : Int) (w : World) (h : mathutil_ModPowUint16.f k a0 a1 a2 = some r) :
    Calls Tryz.prog 10 #[.int .u16 a0, .int .u16 a1, .int .u16 a2] w fun e w' => e = .returned (.int .u16 r) ∧ Drawn0 w w' := by
  have H : (if a0 = 0 then (mathutil_ModPowUint16.j0 k a0 a1 a2 (a1 == 0)) else (mathutil_ModPowUint16.j0 k a0 a1 a2 false)) = some r := h
  clear h
  have HC4 := Aside0.mk H
  clear H
  go_enter Tryz.func10, Tryz.ntmps10
  go_upto_region 1 with (fail)
  go_cut [15] (fun v15 wc => ∃ (kq : Nat) (x15_3 : Bool), v15 = .bool x15_3 ∧ Aside0 (mathutil_ModPowUint16.j0 kq a0 a1 a2 x15_3 = some r) ∧ Aside0 (kq ≤ k) ∧ Drawn0 w wc)
  case first =>
    have H := HC4.out
    clear HC4
    by_cases c5 : a0 = 0
    · rw [if_pos c5] at H
      have c5b0 : (a0 == 0) = true := beq_iff_eq.mpr c5
      have c5b1 : (a0 != 0) = false := bne_eq_false_iff_eq.mpr c5
      clear c5
      (first | rw [c5b0] | (simp only [i64_w, i32_w]; rw [c5b0]) | skip)
      have H' := Aside0.mk H
      clear H
      go_wp2
      go_meet
      case rel => exact ⟨_, ((a1 == 0)), (by first | rfl | (simp; done) | (simp [*]; done)), H', ⟨by first | omega | exact Nat.le_refl _⟩, by repeat (first | exact Drawn0.refl _ | apply Drawn0.step)⟩
    · rw [if_neg c5] at H
      have c5b0 : (a0 == 0) = false := beq_eq_false_iff_ne.mpr c5
      have c5b1 : (a0 != 0) = true := bne_iff_ne.mpr c5
      (first | rw [c5b0] | (simp only [i64_w, i32_w]; rw [c5b0]) | skip)
      have H' := Aside0.mk H
      clear H
      go_wp2
      go_meet
      case rel => exact ⟨_, (false), (by first | rfl | (simp; done) | (simp [*]; done)), H', ⟨by first | omega | exact Nat.le_refl _⟩, by repeat (first | exact Drawn0.refl _ | apply Drawn0.step)⟩
  case rest =>
    clear HC4
    try clear c1
    try clear p2
    try clear c5
    try clear c5b0
    try clear c5b1
    obtain ⟨kq, x15_3, rfl, HA, HJ3, ⟨mc3, rfl⟩⟩ := hcut
    cases kq with
    | zero => exact absurd HA.out (by simp [mathutil_ModPowUint16.j0])
    | succ kj3 =>
      have H := HA.out
      clear HA
      simp only [mathutil_ModPowUint16.j0] at H
      by_cases c6 : x15_3 = true
      · subst c6
        have H1 : (none) = some r := by rw [if_pos rfl] at H; exact H
        clear H
        have H := H1
        clear H1
        exact absurd H (by simp)
      · replace c6 := Bool.eq_false_iff.mpr c6
        subst c6
        have H1 : (if a2 = 1 then (some 0) else (mathutil_ModPowUint16.l0 kj3 a1 1 ((a0) % 4294967296) ((a2) % 4294967296))) = some r := by rw [if_neg (show ¬ (false = true) by decide)] at H; exact H
        clear H
        have H := H1
        clear H1
        by_cases c7 : a2 = 1
        · rw [if_pos c7] at H
          have c7b0 : (a2 == 1) = true := beq_iff_eq.mpr c7
          have c7b1 : (a2 != 1) = false := bne_eq_false_iff_eq.mpr c7
          clear c7
          obtain rfl := Option.some.inj H
          go_wp2
          go_ret
          exact ⟨by first | rfl | (simp; done) | (simp [*]; done), by repeat (first | exact Drawn0.refl _ | apply Drawn0.step)⟩
        · rw [if_neg c7] at H
          have c7b0 : (a2 == 1) = false := beq_eq_false_iff_ne.mpr c7
          have c7b1 : (a2 != 1) = true := bne_iff_ne.mpr c7
          have H' := Aside0.mk H
          clear H
          go_wp2
          go_loopg [1, 7, 8] kj3 (fun kq v1 v7 v8 w' => ∃ (x1_2 : Int) (x7_2 : Int) (x8_2 : Int), v1 = .int .u16 x1_2 ∧ v7 = .int .u32 x7_2 ∧ v8 = .int .u32 x8_2 ∧ Aside0 (mathutil_ModPowUint16.l0 kq x1_2 x7_2 x8_2 ((a2) % 4294967296) = some r) ∧ Aside0 (kq ≤ kj3) ∧ Drawn0 w w')
          case atStart => exact ⟨(a1), (1), ((a0) % 4294967296), (by first | rfl | (simp; done) | (simp [*]; done)), (by first | rfl | (simp; done) | (simp [*]; done)), (by first | rfl | (simp; done) | (simp [*]; done)), H', ⟨Nat.le_refl _⟩, by repeat (first | exact Drawn0.refl _ | apply Drawn0.step)⟩
          case round =>
            clear H'
            try clear c1
            try clear p2
            try clear c3
            try clear c5
            try clear c5b0
            try clear c5b1
            try clear c6
            try clear c7
            try clear c7b0
            try clear c7b1
            try clear p2
            obtain ⟨x1_2, x7_2, x8_2, rfl, rfl, rfl, HA, HK2, ⟨m2, rfl⟩⟩ := hrel
            cases gk with
            | zero => exact absurd HA.out (by simp [mathutil_ModPowUint16.l0])
            | succ k2 =>
              have H := HA.out
              clear HA
              simp only [mathutil_ModPowUint16.l0] at H
              by_cases c8 : x1_2 > 0
              · rw [if_pos c8] at H
                have c8b0 : decide (0 < x1_2) = true := decide_eq_true c8
                clear c8
                by_cases c9 : (Go.bits .and .u16 x1_2 1) = 1
                · rw [if_pos c9] at H
                  have c9b0 : ((Go.bits .and .u16 x1_2 1) == 1) = true := beq_iff_eq.mpr c9
                  have c9b1 : ((Go.bits .and .u16 x1_2 1) != 1) = false := bne_eq_false_iff_eq.mpr c9
                  clear c9
                  by_cases c10 : ((a2) % 4294967296) = 0
                  · rw [if_pos c10] at H
                    exact absurd H (by simp)
                  · rw [if_neg c10] at H
                    have c10b0 : (((a2) % 4294967296) == 0) = false := beq_eq_false_iff_ne.mpr c10
                    have c10b1 : (((a2) % 4294967296) != 0) = true := bne_iff_ne.mpr c10
                    have H' := Aside0.mk H
                    clear H
                    go_wp2
                    go_roundg k2
                    case measure => have := HJ3.out; have := HK2.out; omega
                    case rel => exact ⟨(x1_2 / 2), (((x7_2 * x8_2) % 4294967296) % ((a2) % 4294967296)), (((x8_2 * x8_2) % 4294967296) % ((a2) % 4294967296)), (by first | rfl | (simp; done) | (simp [*]; done)), (by first | rfl | (simp; done) | (simp [*]; done)), (by first | rfl | (simp; done) | (simp [*]; done)), H', ⟨by have := HJ3.out; have := HK2.out; omega⟩, by repeat (first | exact Drawn0.refl _ | apply Drawn0.step)⟩
                · rw [if_neg c9] at H
                  have c9b0 : ((Go.bits .and .u16 x1_2 1) == 1) = false := beq_eq_false_iff_ne.mpr c9
                  have c9b1 : ((Go.bits .and .u16 x1_2 1) != 1) = true := bne_iff_ne.mpr c9
                  by_cases c11 : ((a2) % 4294967296) = 0
                  · rw [if_pos c11] at H
                    exact absurd H (by simp)
                  · rw [if_neg c11] at H
                    have c11b0 : (((a2) % 4294967296) == 0) = false := beq_eq_false_iff_ne.mpr c11
                    have c11b1 : (((a2) % 4294967296) != 0) = true := bne_iff_ne.mpr c11
                    have H' := Aside0.mk H
                    clear H
                    go_wp2
                    go_roundg k2
                    case measure => have := HJ3.out; have := HK2.out; omega
                    case rel => exact ⟨(x1_2 / 2), (x7_2), (((x8_2 * x8_2) % 4294967296) % ((a2) % 4294967296)), (by first | rfl | (simp; done) | (simp [*]; done)), (by first | rfl | (simp; done) | (simp [*]; done)), (by first | rfl | (simp; done) | (simp [*]; done)), H', ⟨by have := HJ3.out; have := HK2.out; omega⟩, by repeat (first | exact Drawn0.refl _ | apply Drawn0.step)⟩
              · rw [if_neg c8] at H
                have c8b0 : decide (0 < x1_2) = false := decide_eq_false c8
                clear c8
                obtain rfl := Option.some.inj H
                go_wp2
                go_ret
                exact ⟨by first | rfl | (simp; done) | (simp [*]; done), by repeat (first | exact Drawn0.refl _ | apply Drawn0.step)⟩

/-! ### mathutil_ModPowUint32: function 11 -/
mutual
def mathutil_ModPowUint32.j0 : Nat → Int → Int → Int → Bool → Option (Int)
  | 0, _, _, _, _ => none
  | k + 1, x0, x1, x2, x15 => if x15 = true then (none) else (if x2 = 1 then (some 0) else (mathutil_ModPowUint32.l0 k x1 1 (IntKind.u64.wrap (x0)) (IntKind.u64.wrap (x2))))
def mathutil_ModPowUint32.l0 : Nat → Int → Int → Int → Int → Option (Int)
  | 0, _, _, _, _ => none
  | k + 1, x1, x7, x8, x9 => if x1 > 0 then (if (Go.bits .and .u32 x1 1) = 1 then (if x9 = 0 then (none) else (mathutil_ModPowUint32.l0 k (x1 / 2) (Int.tmod (IntKind.u64.wrap (x7 * x8)) x9) (Int.tmod (IntKind.u64.wrap (x8 * x8)) x9) x9)) else (if x9 = 0 then (none) else (mathutil_ModPowUint32.l0 k (x1 / 2) x7 (Int.tmod (IntKind.u64.wrap (x8 * x8)) x9) x9))) else (some ((x7) % 4294967296))
end
def mathutil_ModPowUint32.f (k : Nat) (a0 : Int) (a1 : Int) (a2 : Int) : Option (Int) := if a0 = 0 then (mathutil_ModPowUint32.j0 k a0 a1 a2 (a1 == 0)) else (mathutil_ModPowUint32.j0 k a0 a1 a2 false)
theorem mathutil_ModPowUint32.mono_l : ∀ k, (∀ y0 y1 y2 y3, LeO (mathutil_ModPowUint32.j0 k y0 y1 y2 y3) (mathutil_ModPowUint32.j0 (k + 1) y0 y1 y2 y3)) ∧ (∀ y0 y1 y2 y3, LeO (mathutil_ModPowUint32.l0 k y0 y1 y2 y3) (mathutil_ModPowUint32.l0 (k + 1) y0 y1 y2 y3))
  | 0 => ⟨fun _ _ _ _ r h => by simp [mathutil_ModPowUint32.j0] at h, fun _ _ _ _ r h => by simp [mathutil_ModPowUint32.l0] at h⟩
  | k + 1 => by
    obtain ⟨ih0, ih1⟩ := mathutil_ModPowUint32.mono_l k
    refine ⟨?_, ?_⟩
    · intro y0 y1 y2 y3
      unfold mathutil_ModPowUint32.j0
      repeat' first
      | (with_reducible exact ih0 _ _ _ _)
      | (with_reducible exact ih1 _ _ _ _)
      | (with_reducible exact LeO.refl _)
      | (with_reducible exact LeO.none _)
      | (with_reducible refine LeO.ite ?_ ?_)
      | (with_reducible refine LeO.bind ?_ (fun _ => ?_))
      | exact ih0 _ _ _ _
      | exact ih1 _ _ _ _
      | exact LeO.none _
      | refine LeO.ite ?_ ?_
      | refine LeO.bind ?_ (fun _ => ?_)
    · intro y0 y1 y2 y3
      unfold mathutil_ModPowUint32.l0
      repeat' first
      | (with_reducible exact ih0 _ _ _ _)
      | (with_reducible exact ih1 _ _ _ _)
      | (with_reducible exact LeO.refl _)
      | (with_reducible exact LeO.none _)
      | (with_reducible refine LeO.ite ?_ ?_)
      | (with_reducible refine LeO.bind ?_ (fun _ => ?_))
      | exact ih0 _ _ _ _
      | exact ih1 _ _ _ _
      | exact LeO.none _
      | refine LeO.ite ?_ ?_
      | refine LeO.bind ?_ (fun _ => ?_)
theorem mathutil_ModPowUint32.mono : ∀ a0 a1 a2 k, LeO (mathutil_ModPowUint32.f k a0 a1 a2) (mathutil_ModPowUint32.f (k + 1) a0 a1 a2) := by
  intro a0 a1 a2 k
  obtain ⟨ih0, ih1⟩ := mathutil_ModPowUint32.mono_l k
  unfold mathutil_ModPowUint32.f
  repeat' first
      | (with_reducible exact ih0 _ _ _ _)
      | (with_reducible exact ih1 _ _ _ _)
      | (with_reducible exact LeO.refl _)
      | (with_reducible exact LeO.none _)
      | (with_reducible refine LeO.ite ?_ ?_)
      | (with_reducible refine LeO.bind ?_ (fun _ => ?_))
      | exact ih0 _ _ _ _
      | exact ih1 _ _ _ _
      | exact LeO.none _
      | refine LeO.ite ?_ ?_
      | refine LeO.bind ?_ (fun _ => ?_)
set_option maxHeartbeats 8000000 in
set_option maxRecDepth 100000 in
theorem mathutil_ModPowUint32.calls (k : Nat) (a0 : Int) (a1 : Int) (a2 : Int) (r : Int) (w : World) (h : mathutil_ModPowUint32.f k a0 a1 a2 = some r) :
    Calls Tryz.prog 11 #[.int .u32 a0, .int .u32 a1, .int .u32 a2] w fun e w' => e = .returned (.int .u32 r) ∧ Drawn0 w w' := by
  have H : (if a0 = 0 then (mathutil_ModPowUint32.j0 k a0 a1 a2 (a1 == 0)) else (mathutil_ModPowUint32.j0 k a0 a1 a2 false)) = some r := h
  clear h
  have HC4 := Aside0.mk H
  clear H
  go_enter Tryz.func11, Tryz.ntmps11
  go_upto_region 1 with (fail)
  go_cut [15] (fun v15 wc => ∃ (kq : Nat) (x15_3 : Bool), v15 = .bool x15_3 ∧ Aside0 (mathutil_ModPowUint32.j0 kq a0 a1 a2 x15_3 = some r) ∧ Aside0 (kq ≤ k) ∧ Drawn0 w wc)
  case first =>
    have H := HC4.out
    clear HC4
    by_cases c5 : a0 = 0
    · rw [if_pos c5] at H
      have c5b0 : (a0 == 0) = true := beq_iff_eq.mpr c5
      have c5b1 : (a0 != 0) = false := bne_eq_false_iff_eq.mpr c5
      clear c5
      (first | rw [c5b0] | (simp only [i64_w, i32_w]; rw [c5b0]) | skip)
      have H' := Aside0.mk H
      clear H
      go_wp2
      go_meet
      case rel => exact ⟨_, ((a1 == 0)), (by first | rfl | (simp; done) | (simp [*]; done)), H', ⟨by first | omega | exact Nat.le_refl _⟩, by repeat (first | exact Drawn0.refl _ | apply Drawn0.step)⟩
    · rw [if_neg c5] at H
      have c5b0 : (a0 == 0) = false := beq_eq_false_iff_ne.mpr c5
      have c5b1 : (a0 != 0) = true := bne_iff_ne.mpr c5
      (first | rw [c5b0] | (simp only [i64_w, i32_w]; rw [c5b0]) | skip)
      have H' := Aside0.mk H
      clear H
      go_wp2
      go_meet
      case rel => exact ⟨_, (false), (by first | rfl | (simp; done) | (simp [*]; done)), H', ⟨by first | omega | exact Nat.le_refl _⟩, by repeat (first | exact Drawn0.refl _ | apply Drawn0.step)⟩
  case rest =>
    clear HC4
    try clear c1
    try clear p2
    try clear c5
    try clear c5b0
    try clear c5b1
    obtain ⟨kq, x15_3, rfl, HA, HJ3, ⟨mc3, rfl⟩⟩ := hcut
    cases kq with
    | zero => exact absurd HA.out (by simp [mathutil_ModPowUint32.j0])
    | succ kj3 =>
      have H := HA.out
      clear HA
      simp only [mathutil_ModPowUint32.j0] at H
      by_cases c6 : x15_3 = true
      · subst c6
        have H1 : (none) = some r := by rw [if_pos rfl] at H; exact H
        clear H
        have H := H1
        clear H1
        exact absurd H (by simp)
      · replace c6 := Bool.eq_false_iff.mpr c6
        subst c6
        have H1 : (if a2 = 1 then (some 0) else (mathutil_ModPowUint32.l0 kj3 a1 1 (IntKind.u64.wrap (a0)) (IntKind.u64.wrap (a2)))) = some r := by rw [if_neg (show ¬ (false = true) by decide)] at H; exact H
        clear H
        have H := H1
        clear H1
        by_cases c7 : a2 = 1
        · rw [if_pos c7] at H
          have c7b0 : (a2 == 1) = true := beq_iff_eq.mpr c7
          have c7b1 : (a2 != 1) = false := bne_eq_false_iff_eq.mpr c7
          clear c7
          obtain rfl := Option.some.inj H
          go_wp2
          go_ret
          exact ⟨by first | rfl | (simp; done) | (simp [*]; done), by repeat (first | exact Drawn0.refl _ | apply Drawn0.step)⟩
        · rw [if_neg c7] at H
          have c7b0 : (a2 == 1) = false := beq_eq_false_iff_ne.mpr c7
          have c7b1 : (a2 != 1) = true := bne_iff_ne.mpr c7
          have H' := Aside0.mk H
          clear H
          go_wp2
          go_loopg [1, 7, 8] kj3 (fun kq v1 v7 v8 w' => ∃ (x1_2 : Int) (x7_2 : Int) (x8_2 : Int), v1 = .int .u32 x1_2 ∧ v7 = .int .u64 x7_2 ∧ v8 = .int .u64 x8_2 ∧ Aside0 (mathutil_ModPowUint32.l0 kq x1_2 x7_2 x8_2 (IntKind.u64.wrap (a2)) = some r) ∧ Aside0 (kq ≤ kj3) ∧ Drawn0 w w')
          case atStart => exact ⟨(a1), (1), (IntKind.u64.wrap (a0)), (by first | rfl | (simp; done) | (simp [*]; done)), (by first | rfl | (simp; done) | (simp [*]; done)), (by first | rfl | (simp; done) | (simp [*]; done)), H', ⟨Nat.le_refl _⟩, by repeat (first | exact Drawn0.refl _ | apply Drawn0.step)⟩
          case round =>
            clear H'
            try clear c1
            try clear p2
            try clear c3
            try clear c5
            try clear c5b0
            try clear c5b1
            try clear c6
            try clear c7
            try clear c7b0
            try clear c7b1
            try clear p2
            obtain ⟨x1_2, x7_2, x8_2, rfl, rfl, rfl, HA, HK2, ⟨m2, rfl⟩⟩ := hrel
            cases gk with
            | zero => exact absurd HA.out (by simp [mathutil_ModPowUint32.l0])
            | succ k2 =>
              have H := HA.out
              clear HA
              simp only [mathutil_ModPowUint32.l0] at H
              by_cases c8 : x1_2 > 0
              · rw [if_pos c8] at H
                have c8b0 : decide (0 < x1_2) = true := decide_eq_true c8
                clear c8
                by_cases c9 : (Go.bits .and .u32 x1_2 1) = 1
                · rw [if_pos c9] at H
                  have c9b0 : ((Go.bits .and .u32 x1_2 1) == 1) = true := beq_iff_eq.mpr c9
                  have c9b1 : ((Go.bits .and .u32 x1_2 1) != 1) = false := bne_eq_false_iff_eq.mpr c9
                  clear c9
                  by_cases c10 : (IntKind.u64.wrap (a2)) = 0
                  · rw [if_pos c10] at H
                    exact absurd H (by simp)
                  · rw [if_neg c10] at H
                    have c10b0 : ((IntKind.u64.wrap (a2)) == 0) = false := beq_eq_false_iff_ne.mpr c10
                    have c10b1 : ((IntKind.u64.wrap (a2)) != 0) = true := bne_iff_ne.mpr c10
                    have H' := Aside0.mk H
                    clear H
                    go_wp2
                    go_roundg k2
                    case measure => have := HJ3.out; have := HK2.out; omega
                    case rel => exact ⟨(x1_2 / 2), (Int.tmod (IntKind.u64.wrap (x7_2 * x8_2)) (IntKind.u64.wrap (a2))), (Int.tmod (IntKind.u64.wrap (x8_2 * x8_2)) (IntKind.u64.wrap (a2))), (by first | rfl | (simp; done) | (simp [*]; done)), (by first | rfl | (simp; done) | (simp [*]; done)), (by first | rfl | (simp; done) | (simp [*]; done)), H', ⟨by have := HJ3.out; have := HK2.out; omega⟩, by repeat (first | exact Drawn0.refl _ | apply Drawn0.step)⟩
                · rw [if_neg c9] at H
                  have c9b0 : ((Go.bits .and .u32 x1_2 1) == 1) = false := beq_eq_false_iff_ne.mpr c9
                  have c9b1 : ((Go.bits .and .u32 x1_2 1) != 1) = true := bne_iff_ne.mpr c9
                  by_cases c11 : (IntKind.u64.wrap (a2)) = 0
                  · rw [if_pos c11] at H
                    exact absurd H (by simp)
                  · rw [if_neg c11] at H
                    have c11b0 : ((IntKind.u64.wrap (a2)) == 0) = false := beq_eq_false_iff_ne.mpr c11
                    have c11b1 : ((IntKind.u64.wrap (a2)) != 0) = true := bne_iff_ne.mpr c11
                    have H' := Aside0.mk H
                    clear H
                    go_wp2
                    go_roundg k2
                    case measure => have := HJ3.out; have := HK2.out; omega
                    case rel => exact ⟨(x1_2 / 2), (x7_2), (Int.tmod (IntKind.u64.wrap (x8_2 * x8_2)) (IntKind.u64.wrap (a2))), (by first | rfl | (simp; done) | (simp [*]; done)), (by first | rfl | (simp; done) | (simp [*]; done)), (by first | rfl | (simp; done) | (simp [*]; done)), H', ⟨by have := HJ3.out; have := HK2.out; omega⟩, by repeat (first | exact Drawn0.refl _ | apply Drawn0.step)⟩
              · rw [if_neg c8] at H
                have c8b0 : decide (0 < x1_2) = false := decide_eq_false c8
                clear c8
                obtain rfl := Option.some.inj H
                go_wp2
                go_ret
                exact ⟨by first | rfl | (simp; done) | (simp [*]; done), by repeat (first | exact Drawn0.refl _ | apply Drawn0.step)⟩

/-! ### spec_plusMod: function 18 -/
def spec_plusMod.f (a0 : Int) (a1 : Int) (a2 : Int) : Option (Int) := if a0 ≥ (IntKind.u64.wrap (a2 - a1)) then (some (IntKind.u64.wrap (a0 - (IntKind.u64.wrap (a2 - a1))))) else (some (IntKind.u64.wrap (a0 + a1)))
set_option maxHeartbeats 8000000 in
set_option maxRecDepth 100000 in
theorem spec_plusMod.calls (a0 : Int) (a1 : Int) (a2 : Int) (r : Int) (w : World) (h : spec_plusMod.f a0 a1 a2 = some r) :
    Calls Tryz.prog 18 #[.int .u64 a0, .int .u64 a1, .int .u64 a2] w fun e w' => e = .returned (.int .u64 r) ∧ Drawn0 w w' := by
  have H : (if a0 ≥ (IntKind.u64.wrap (a2 - a1)) then (some (IntKind.u64.wrap (a0 - (IntKind.u64.wrap (a2 - a1))))) else (some (IntKind.u64.wrap (a0 + a1)))) = some r := h
  clear h
  by_cases c4 : a0 ≥ (IntKind.u64.wrap (a2 - a1))
  · rw [if_pos c4] at H
    have c4b0 : decide ((IntKind.u64.wrap (a2 - a1)) ≤ a0) = true := decide_eq_true c4
    clear c4
    obtain rfl := Option.some.inj H
    go_enter Tryz.func18, Tryz.ntmps18
    go_wp2
    go_ret
    exact ⟨by first | rfl | (simp; done) | (simp [*]; done), by repeat (first | exact Drawn0.refl _ | apply Drawn0.step)⟩
  · rw [if_neg c4] at H
    have c4b0 : decide ((IntKind.u64.wrap (a2 - a1)) ≤ a0) = false := decide_eq_false c4
    clear c4
    obtain rfl := Option.some.inj H
    go_enter Tryz.func18, Tryz.ntmps18
    go_wp2
    go_ret
    exact ⟨by first | rfl | (simp; done) | (simp [*]; done), by repeat (first | exact Drawn0.refl _ | apply Drawn0.step)⟩

/-! ### spec_TimesMod: function 13 -/
mutual
def spec_TimesMod.j0 : Nat → Int → Int → Int → Bool → Option (Int)
  | 0, _, _, _, _ => none
  | k + 1, x0, x1, x2, x20 => if x20 = true then (if x2 = 0 then (none) else (some (Int.tmod (IntKind.u64.wrap (x0 * x1)) x2))) else (spec_TimesMod.l0 k x0 x1 x2 0 63)
def spec_TimesMod.l0 : Nat → Int → Int → Int → Int → Int → Option (Int)
  | 0, _, _, _, _, _ => none
  | k + 1, x0, x1, x2, x7, x8 => if x8 ≥ 0 then ((spec_plusMod.f x7 x7 x2).bind fun t235 => (if 0 ≤ x8 then (if (Go.bits .and .u64 (shr .u64 x1 x8) 1) = 1 then ((spec_plusMod.f t235 x0 x2).bind fun t236 => (spec_TimesMod.l0 k x0 x1 x2 t236 (wrap64 (x8 - 1)))) else (spec_TimesMod.l0 k x0 x1 x2 t235 (wrap64 (x8 - 1)))) else (none))) else (some x7)
end
def spec_TimesMod.f (k : Nat) (a0 : Int) (a1 : Int) (a2 : Int) : Option (Int) := if a2 = 0 then (none) else (if (Int.tmod a0 a2) < 4294967296 then (spec_TimesMod.j0 k (Int.tmod a0 a2) (Int.tmod a1 a2) a2 (decide ((Int.tmod a1 a2) < 4294967296))) else (spec_TimesMod.j0 k (Int.tmod a0 a2) (Int.tmod a1 a2) a2 false))
theorem spec_TimesMod.mono_l : ∀ k, (∀ y0 y1 y2 y3, LeO (spec_TimesMod.j0 k y0 y1 y2 y3) (spec_TimesMod.j0 (k + 1) y0 y1 y2 y3)) ∧ (∀ y0 y1 y2 y3 y4, LeO (spec_TimesMod.l0 k y0 y1 y2 y3 y4) (spec_TimesMod.l0 (k + 1) y0 y1 y2 y3 y4))
  | 0 => ⟨fun _ _ _ _ r h => by simp [spec_TimesMod.j0] at h, fun _ _ _ _ _ r h => by simp [spec_TimesMod.l0] at h⟩
  | k + 1 => by
    obtain ⟨ih0, ih1⟩ := spec_TimesMod.mono_l k
    refine ⟨?_, ?_⟩
    · intro y0 y1 y2 y3
      unfold spec_TimesMod.j0
      repeat' first
      | (with_reducible exact ih0 _ _ _ _)
      | (with_reducible exact ih1 _ _ _ _ _)
      | (with_reducible exact LeO.refl _)
      | (with_reducible exact LeO.none _)
      | (with_reducible refine LeO.ite ?_ ?_)
      | (with_reducible refine LeO.bind ?_ (fun _ => ?_))
      | exact ih0 _ _ _ _
      | exact ih1 _ _ _ _ _
      | exact LeO.none _
      | refine LeO.ite ?_ ?_
      | refine LeO.bind ?_ (fun _ => ?_)
    · intro y0 y1 y2 y3 y4
      unfold spec_TimesMod.l0
      repeat' first
      | (with_reducible exact ih0 _ _ _ _)
      | (with_reducible exact ih1 _ _ _ _ _)
      | (with_reducible exact LeO.refl _)
      | (with_reducible exact LeO.none _)
      | (with_reducible refine LeO.ite ?_ ?_)
      | (with_reducible refine LeO.bind ?_ (fun _ => ?_))
      | exact ih0 _ _ _ _
      | exact ih1 _ _ _ _ _
      | exact LeO.none _
      | refine LeO.ite ?_ ?_
      | refine LeO.bind ?_ (fun _ => ?_)
theorem spec_TimesMod.mono : ∀ a0 a1 a2 k, LeO (spec_TimesMod.f k a0 a1 a2) (spec_TimesMod.f (k + 1) a0 a1 a2) := by
  intro a0 a1 a2 k
  obtain ⟨ih0, ih1⟩ := spec_TimesMod.mono_l k
  unfold spec_TimesMod.f
  repeat' first
      | (with_reducible exact ih0 _ _ _ _)
      | (with_reducible exact ih1 _ _ _ _ _)
      | (with_reducible exact LeO.refl _)
      | (with_reducible exact LeO.none _)
      | (with_reducible refine LeO.ite ?_ ?_)
      | (with_reducible refine LeO.bind ?_ (fun _ => ?_))
      | exact ih0 _ _ _ _
      | exact ih1 _ _ _ _ _
      | exact LeO.none _
      | refine LeO.ite ?_ ?_
      | refine LeO.bind ?_ (fun _ => ?_)
set_option maxHeartbeats 8000000 in
set_option maxRecDepth 100000 in
theorem spec_TimesMod.calls (k : Nat) (a0 : Int) (a1 : Int) (a2 : Int) (r : Int) (w : World) (h : spec_TimesMod.f k a0 a1 a2 = some r) :
    Calls Tryz.prog 13 #[.int .u64 a0, .int .u64 a1, .int .u64 a2] w fun e w' => e = .returned (.int .u64 r) ∧ Drawn0 w w' := by
  have H : (if a2 = 0 then (none) else (if (Int.tmod a0 a2) < 4294967296 then (spec_TimesMod.j0 k (Int.tmod a0 a2) (Int.tmod a1 a2) a2 (decide ((Int.tmod a1 a2) < 4294967296))) else (spec_TimesMod.j0 k (Int.tmod a0 a2) (Int.tmod a1 a2) a2 false))) = some r := h
  clear h
  by_cases c4 : a2 = 0
  · rw [if_pos c4] at H
    exact absurd H (by simp)
  · rw [if_neg c4] at H
    have c4b0 : (a2 == 0) = false := beq_eq_false_iff_ne.mpr c4
    have c4b1 : (a2 != 0) = true := bne_iff_ne.mpr c4
    have HC5 := Aside0.mk H
    clear H
    go_enter Tryz.func13, Tryz.ntmps13
    go_upto_region 3 with (fail)
    go_cut [20] (fun v20 wc => ∃ (kq : Nat) (x20_4 : Bool), v20 = .bool x20_4 ∧ Aside0 (spec_TimesMod.j0 kq (Int.tmod a0 a2) (Int.tmod a1 a2) a2 x20_4 = some r) ∧ Aside0 (kq ≤ k) ∧ Drawn0 w wc)
    case first =>
      have H := HC5.out
      clear HC5
      by_cases c6 : (Int.tmod a0 a2) < 4294967296
      · rw [if_pos c6] at H
        have c6b0 : decide ((Int.tmod a0 a2) < 4294967296) = true := decide_eq_true c6
        clear c6
        (first | rw [c6b0] | (simp only [i64_w, i32_w]; rw [c6b0]) | skip)
        have H' := Aside0.mk H
        clear H
        go_wp2
        go_meet
        case rel => exact ⟨_, (decide ((Int.tmod a1 a2) < 4294967296)), (by first | rfl | (simp; done) | (simp [*]; done)), H', ⟨by first | omega | exact Nat.le_refl _⟩, by repeat (first | exact Drawn0.refl _ | apply Drawn0.step)⟩
      · rw [if_neg c6] at H
        have c6b0 : decide ((Int.tmod a0 a2) < 4294967296) = false := decide_eq_false c6
        clear c6
        (first | rw [c6b0] | (simp only [i64_w, i32_w]; rw [c6b0]) | skip)
        have H' := Aside0.mk H
        clear H
        go_wp2
        go_meet
        case rel => exact ⟨_, (false), (by first | rfl | (simp; done) | (simp [*]; done)), H', ⟨by first | omega | exact Nat.le_refl _⟩, by repeat (first | exact Drawn0.refl _ | apply Drawn0.step)⟩
    case rest =>
      clear HC5
      try clear p2
      try clear c4
      try clear c4b0
      try clear c4b1
      try clear c6
      try clear c6b0
      obtain ⟨kq, x20_4, rfl, HA, HJ4, ⟨mc4, rfl⟩⟩ := hcut
      cases kq with
      | zero => exact absurd HA.out (by simp [spec_TimesMod.j0])
      | succ kj4 =>
        have H := HA.out
        clear HA
        simp only [spec_TimesMod.j0] at H
        by_cases c7 : x20_4 = true
        · subst c7
          have H1 : (if a2 = 0 then (none) else (some (Int.tmod (IntKind.u64.wrap ((Int.tmod a0 a2) * (Int.tmod a1 a2))) a2))) = some r := by rw [if_pos rfl] at H; exact H
          clear H
          have H := H1
          clear H1
          by_cases c8 : a2 = 0
          · rw [if_pos c8] at H
            exact absurd H (by simp)
          · rw [if_neg c8] at H
            have c8b0 : (a2 == 0) = false := beq_eq_false_iff_ne.mpr c8
            have c8b1 : (a2 != 0) = true := bne_iff_ne.mpr c8
            obtain rfl := Option.some.inj H
            go_wp2
            go_ret
            exact ⟨by first | rfl | (simp; done) | (simp [*]; done), by repeat (first | exact Drawn0.refl _ | apply Drawn0.step)⟩
        · replace c7 := Bool.eq_false_iff.mpr c7
          subst c7
          have H1 : (spec_TimesMod.l0 kj4 (Int.tmod a0 a2) (Int.tmod a1 a2) a2 0 63) = some r := by rw [if_neg (show ¬ (false = true) by decide)] at H; exact H
          clear H
          have H := H1
          clear H1
          have H' := Aside0.mk H
          clear H
          go_wp2
          go_loopg [7, 8] kj4 (fun kq v7 v8 w' => ∃ (x7_2 : Int) (x8_2 : Int), v7 = .int .u64 x7_2 ∧ v8 = .int .i64 x8_2 ∧ Aside0 (spec_TimesMod.l0 kq (Int.tmod a0 a2) (Int.tmod a1 a2) a2 x7_2 x8_2 = some r) ∧ Aside0 (kq ≤ kj4) ∧ Drawn0 w w')
          case atStart => exact ⟨(0), (63), (by first | rfl | (simp; done) | (simp [*]; done)), (by first | rfl | (simp; done) | (simp [*]; done)), H', ⟨Nat.le_refl _⟩, by repeat (first | exact Drawn0.refl _ | apply Drawn0.step)⟩
          case round =>
            clear H'
            try clear p2
            try clear c4
            try clear c4b0
            try clear c4b1
            try clear c6
            try clear c6b0
            try clear c7
            try clear c8
            try clear c8b0
            try clear c8b1
            try clear p2
            obtain ⟨x7_2, x8_2, rfl, rfl, HA, HK2, ⟨m2, rfl⟩⟩ := hrel
            cases gk with
            | zero => exact absurd HA.out (by simp [spec_TimesMod.l0])
            | succ k2 =>
              have H := HA.out
              clear HA
              simp only [spec_TimesMod.l0] at H
              by_cases c9 : x8_2 ≥ 0
              · rw [if_pos c9] at H
                have c9b0 : decide (0 ≤ x8_2) = true := decide_eq_true c9
                clear c9
                replace H := Option.bind_eq_some_iff.mp H
                obtain ⟨t235, A100, H⟩ := H
                replace H : (if 0 ≤ x8_2 then (if (Go.bits .and .u64 (shr .u64 (Int.tmod a1 a2) x8_2) 1) = 1 then ((spec_plusMod.f t235 (Int.tmod a0 a2) a2).bind fun t236 => (spec_TimesMod.l0 k2 (Int.tmod a0 a2) (Int.tmod a1 a2) a2 t236 (wrap64 (x8_2 - 1)))) else (spec_TimesMod.l0 k2 (Int.tmod a0 a2) (Int.tmod a1 a2) a2 t235 (wrap64 (x8_2 - 1)))) else (none)) = some r := H
                have A10 := Aside0.mk A100
                clear A100
                by_cases c11 : 0 ≤ x8_2
                · rw [if_pos c11] at H
                  have c11b0 := eq_true c11
                  have c11b1 : decide (0 ≤ x8_2) = true := decide_eq_true c11
                  clear c11
                  obtain ⟨ji12, hji12⟩ : ∃ j_ : Int, (shr .u64 (Int.tmod a1 a2) x8_2) = j_ := ⟨_, rfl⟩
                  replace H : (if (Go.bits .and .u64 (ji12) 1) = 1 then ((spec_plusMod.f t235 (Int.tmod a0 a2) a2).bind fun t236 => (spec_TimesMod.l0 k2 (Int.tmod a0 a2) (Int.tmod a1 a2) a2 t236 (wrap64 (x8_2 - 1)))) else (spec_TimesMod.l0 k2 (Int.tmod a0 a2) (Int.tmod a1 a2) a2 t235 (wrap64 (x8_2 - 1)))) = some r := by first | (rw [hji12] at H; exact H) | (simp only [hji12] at H ⊢; exact H)
                  (try rw [hji12] at A10)
                  have hji12_ : ((Int.tmod a1 a2) / 2 ^ min x8_2.toNat 64) = ji12 := hji12
                  have hji12z : x8_2 ≤ 64 → ((Int.tmod a1 a2) / 2 ^ x8_2.toNat) = ji12 := shr_small hji12
                  by_cases c13 : (Go.bits .and .u64 (ji12) 1) = 1
                  · rw [if_pos c13] at H
                    have c13b0 : ((Go.bits .and .u64 (ji12) 1) == 1) = true := beq_iff_eq.mpr c13
                    have c13b1 : ((Go.bits .and .u64 (ji12) 1) != 1) = false := bne_eq_false_iff_eq.mpr c13
                    clear c13
                    replace H := Option.bind_eq_some_iff.mp H
                    obtain ⟨t236, A140, H⟩ := H
                    replace H : (spec_TimesMod.l0 k2 (Int.tmod a0 a2) (Int.tmod a1 a2) a2 t236 (wrap64 (x8_2 - 1))) = some r := H
                    have A14 := Aside0.mk A140
                    clear A140
                    have H' := Aside0.mk H
                    clear H
                    go_wp2_with (first | ((with_reducible refine gate_callee (f := 18) rfl ?_); refine goesL_ (some 33) rfl rfl Tryz.func18 (by kernel_rfl) rfl #[.int .u64 x7_2, .int .u64 x7_2, .int .u64 a2] rfl (by (try simp only [List.map_toArray, List.map_cons, List.map_nil]); first | done | rfl | (simp only [List.length_drop, List.length_take]; rfl)) ?_; (with_reducible refine (spec_plusMod.calls x7_2 x7_2 a2 t235 _ A10.out).mono ?_); rintro e w' ⟨rfl, ⟨nd, rfl⟩⟩; refine ⟨_, rfl, ?_⟩) | ((with_reducible refine gate_callee (f := 18) rfl ?_); refine goesL_ (some 42) rfl rfl Tryz.func18 (by kernel_rfl) rfl #[.int .u64 t235, .int .u64 (Int.tmod a0 a2), .int .u64 a2] rfl (by (try simp only [List.map_toArray, List.map_cons, List.map_nil]); first | done | rfl | (simp only [List.length_drop, List.length_take]; rfl)) ?_; (with_reducible refine (spec_plusMod.calls t235 (Int.tmod a0 a2) a2 t236 _ A14.out).mono ?_); rintro e w' ⟨rfl, ⟨nd, rfl⟩⟩; refine ⟨_, rfl, ?_⟩))
                    go_roundg k2
                    case measure => have := HJ4.out; have := HK2.out; omega
                    case rel => exact ⟨(t236), (wrap64 (x8_2 - 1)), (by first | rfl | (simp; done) | (simp [*]; done)), (by first | rfl | (simp; done) | (simp [*]; done)), H', ⟨by have := HJ4.out; have := HK2.out; omega⟩, by repeat (first | exact Drawn0.refl _ | apply Drawn0.step)⟩
                  · rw [if_neg c13] at H
                    have c13b0 : ((Go.bits .and .u64 (ji12) 1) == 1) = false := beq_eq_false_iff_ne.mpr c13
                    have c13b1 : ((Go.bits .and .u64 (ji12) 1) != 1) = true := bne_iff_ne.mpr c13
                    have H' := Aside0.mk H
                    clear H
                    go_wp2_with (first | ((with_reducible refine gate_callee (f := 18) rfl ?_); refine goesL_ (some 33) rfl rfl Tryz.func18 (by kernel_rfl) rfl #[.int .u64 x7_2, .int .u64 x7_2, .int .u64 a2] rfl (by (try simp only [List.map_toArray, List.map_cons, List.map_nil]); first | done | rfl | (simp only [List.length_drop, List.length_take]; rfl)) ?_; (with_reducible refine (spec_plusMod.calls x7_2 x7_2 a2 t235 _ A10.out).mono ?_); rintro e w' ⟨rfl, ⟨nd, rfl⟩⟩; refine ⟨_, rfl, ?_⟩))
                    go_roundg k2
                    case measure => have := HJ4.out; have := HK2.out; omega
                    case rel => exact ⟨(t235), (wrap64 (x8_2 - 1)), (by first | rfl | (simp; done) | (simp [*]; done)), (by first | rfl | (simp; done) | (simp [*]; done)), H', ⟨by have := HJ4.out; have := HK2.out; omega⟩, by repeat (first | exact Drawn0.refl _ | apply Drawn0.step)⟩
                · rw [if_neg c11] at H
                  exact absurd H (by simp)
              · rw [if_neg c9] at H
                have c9b0 : decide (0 ≤ x8_2) = false := decide_eq_false c9
                clear c9
                obtain rfl := Option.some.inj H
                go_wp2
                go_ret
                exact ⟨by first | rfl | (simp; done) | (simp [*]; done), by repeat (first | exact Drawn0.refl _ | apply Drawn0.step)⟩

/-! ### spec_PowerMod: function 8 -/
def spec_PowerMod.l0 : Nat → Int → Int → Int → Int → Option (Int)
  | 0, _, _, _, _ => none
  | k + 1, x0, x1, x2, x7 => if x1 > 0 then (if (Go.bits .and .u64 x1 1) = 1 then ((spec_TimesMod.f k x7 x0 x2).bind fun t237 => ((spec_TimesMod.f k x0 x0 x2).bind fun t238 => (spec_PowerMod.l0 k t238 (x1 / 2) x2 t237))) else ((spec_TimesMod.f k x0 x0 x2).bind fun t239 => (spec_PowerMod.l0 k t239 (x1 / 2) x2 x7))) else (some x7)
def spec_PowerMod.f (k : Nat) (a0 : Int) (a1 : Int) (a2 : Int) : Option (Int) := if a2 = 0 then (none) else (spec_PowerMod.l0 k a0 a1 a2 ((1 : Int) % a2))
theorem spec_PowerMod.mono_l : ∀ k, (∀ y0 y1 y2 y3, LeO (spec_PowerMod.l0 k y0 y1 y2 y3) (spec_PowerMod.l0 (k + 1) y0 y1 y2 y3))
  | 0 => fun _ _ _ _ r h => by simp [spec_PowerMod.l0] at h
  | k + 1 => by
    have ih0 := spec_PowerMod.mono_l k
    · intro y0 y1 y2 y3
      unfold spec_PowerMod.l0
      repeat' first
      | (with_reducible exact ih0 _ _ _ _)
      | (with_reducible exact spec_TimesMod.mono _ _ _ _)
      | (with_reducible exact LeO.refl _)
      | (with_reducible exact LeO.none _)
      | (with_reducible refine LeO.ite ?_ ?_)
      | (with_reducible refine LeO.bind ?_ (fun _ => ?_))
      | exact ih0 _ _ _ _
      | exact spec_TimesMod.mono _ _ _ _
      | exact LeO.none _
      | refine LeO.ite ?_ ?_
      | refine LeO.bind ?_ (fun _ => ?_)
theorem spec_PowerMod.mono : ∀ a0 a1 a2 k, LeO (spec_PowerMod.f k a0 a1 a2) (spec_PowerMod.f (k + 1) a0 a1 a2) := by
  intro a0 a1 a2 k
  have ih0 := spec_PowerMod.mono_l k
  unfold spec_PowerMod.f
  repeat' first
      | (with_reducible exact ih0 _ _ _ _)
      | (with_reducible exact spec_TimesMod.mono _ _ _ _)
      | (with_reducible exact LeO.refl _)
      | (with_reducible exact LeO.none _)
      | (with_reducible refine LeO.ite ?_ ?_)
      | (with_reducible refine LeO.bind ?_ (fun _ => ?_))
      | exact ih0 _ _ _ _
      | exact spec_TimesMod.mono _ _ _ _
      | exact LeO.none _
      | refine LeO.ite ?_ ?_
      | refine LeO.bind ?_ (fun _ => ?_)
set_option maxHeartbeats 8000000 in
set_option maxRecDepth 100000 in
theorem spec_PowerMod.calls (k : Nat) (a0 : Int) (a1 : Int) (a2 : Int) (r : Int) (w : World) (h : spec_PowerMod.f k a0 a1 a2 = some r) :
    Calls Tryz.prog 8 #[.int .u64 a0, .int .u64 a1, .int .u64 a2] w fun e w' => e = .returned (.int .u64 r) ∧ Drawn0 w w' := by
  have H : (if a2 = 0 then (none) else (spec_PowerMod.l0 k a0 a1 a2 ((1 : Int) % a2))) = some r := h
  clear h
  by_cases c4 : a2 = 0
  · rw [if_pos c4] at H
    exact absurd H (by simp)
  · rw [if_neg c4] at H
    have c4b0 : (a2 == 0) = false := beq_eq_false_iff_ne.mpr c4
    have c4b1 : (a2 != 0) = true := bne_iff_ne.mpr c4
    have H' := Aside0.mk H
    clear H
    go_enter Tryz.func8, Tryz.ntmps8
    go_wp2
    go_loopg [0, 1, 7] k (fun kq v0 v1 v7 w' => ∃ (x0_1 : Int) (x1_1 : Int) (x7_1 : Int), v0 = .int .u64 x0_1 ∧ v1 = .int .u64 x1_1 ∧ v7 = .int .u64 x7_1 ∧ Aside0 (spec_PowerMod.l0 kq x0_1 x1_1 a2 x7_1 = some r) ∧ Aside0 (kq ≤ k) ∧ Drawn0 w w')
    case atStart => exact ⟨(a0), (a1), ((1 : Int) % a2), (by first | rfl | (simp; done) | (simp [*]; done)), (by first | rfl | (simp; done) | (simp [*]; done)), (by first | rfl | (simp; done) | (simp [*]; done)), H', ⟨Nat.le_refl _⟩, by repeat (first | exact Drawn0.refl _ | apply Drawn0.step)⟩
    case round =>
      clear H'
      try clear c1
      try clear p2
      try clear c4
      try clear c4b0
      try clear c4b1
      obtain ⟨x0_1, x1_1, x7_1, rfl, rfl, rfl, HA, HK1, ⟨m1, rfl⟩⟩ := hrel
      cases gk with
      | zero => exact absurd HA.out (by simp [spec_PowerMod.l0])
      | succ k1 =>
        have H := HA.out
        clear HA
        simp only [spec_PowerMod.l0] at H
        by_cases c5 : x1_1 > 0
        · rw [if_pos c5] at H
          have c5b0 : decide (0 < x1_1) = true := decide_eq_true c5
          clear c5
          by_cases c6 : (Go.bits .and .u64 x1_1 1) = 1
          · rw [if_pos c6] at H
            have c6b0 : ((Go.bits .and .u64 x1_1 1) == 1) = true := beq_iff_eq.mpr c6
            have c6b1 : ((Go.bits .and .u64 x1_1 1) != 1) = false := bne_eq_false_iff_eq.mpr c6
            clear c6
            replace H := Option.bind_eq_some_iff.mp H
            obtain ⟨t237, A70, H⟩ := H
            replace H : ((spec_TimesMod.f k1 x0_1 x0_1 a2).bind fun t238 => (spec_PowerMod.l0 k1 t238 (x1_1 / 2) a2 t237)) = some r := H
            have A7 := Aside0.mk A70
            clear A70
            replace H := Option.bind_eq_some_iff.mp H
            obtain ⟨t238, A80, H⟩ := H
            replace H : (spec_PowerMod.l0 k1 t238 (x1_1 / 2) a2 t237) = some r := H
            have A8 := Aside0.mk A80
            clear A80
            have H' := Aside0.mk H
            clear H
            go_wp2_with (first | ((with_reducible refine gate_callee (f := 13) rfl ?_); refine goesL_ (some 20) rfl rfl Tryz.func13 (by kernel_rfl) rfl #[.int .u64 x7_1, .int .u64 x0_1, .int .u64 a2] rfl (by (try simp only [List.map_toArray, List.map_cons, List.map_nil]); first | done | rfl | (simp only [List.length_drop, List.length_take]; rfl)) ?_; (with_reducible refine (spec_TimesMod.calls k1 x7_1 x0_1 a2 t237 _ A7.out).mono ?_); rintro e w' ⟨rfl, ⟨nd, rfl⟩⟩; refine ⟨_, rfl, ?_⟩) | ((with_reducible refine gate_callee (f := 13) rfl ?_); refine goesL_ (some 24) rfl rfl Tryz.func13 (by kernel_rfl) rfl #[.int .u64 x0_1, .int .u64 x0_1, .int .u64 a2] rfl (by (try simp only [List.map_toArray, List.map_cons, List.map_nil]); first | done | rfl | (simp only [List.length_drop, List.length_take]; rfl)) ?_; (with_reducible refine (spec_TimesMod.calls k1 x0_1 x0_1 a2 t238 _ A8.out).mono ?_); rintro e w' ⟨rfl, ⟨nd, rfl⟩⟩; refine ⟨_, rfl, ?_⟩))
            go_roundg k1
            case measure => have := HK1.out; omega
            case rel => exact ⟨(t238), (x1_1 / 2), (t237), (by first | rfl | (simp; done) | (simp [*]; done)), (by first | rfl | (simp; done) | (simp [*]; done)), (by first | rfl | (simp; done) | (simp [*]; done)), H', ⟨by have := HK1.out; omega⟩, by repeat (first | exact Drawn0.refl _ | apply Drawn0.step)⟩
          · rw [if_neg c6] at H
            have c6b0 : ((Go.bits .and .u64 x1_1 1) == 1) = false := beq_eq_false_iff_ne.mpr c6
            have c6b1 : ((Go.bits .and .u64 x1_1 1) != 1) = true := bne_iff_ne.mpr c6
            replace H := Option.bind_eq_some_iff.mp H
            obtain ⟨t239, A90, H⟩ := H
            replace H : (spec_PowerMod.l0 k1 t239 (x1_1 / 2) a2 x7_1) = some r := H
            have A9 := Aside0.mk A90
            clear A90
            have H' := Aside0.mk H
            clear H
            go_wp2_with (first | ((with_reducible refine gate_callee (f := 13) rfl ?_); refine goesL_ (some 24) rfl rfl Tryz.func13 (by kernel_rfl) rfl #[.int .u64 x0_1, .int .u64 x0_1, .int .u64 a2] rfl (by (try simp only [List.map_toArray, List.map_cons, List.map_nil]); first | done | rfl | (simp only [List.length_drop, List.length_take]; rfl)) ?_; (with_reducible refine (spec_TimesMod.calls k1 x0_1 x0_1 a2 t239 _ A9.out).mono ?_); rintro e w' ⟨rfl, ⟨nd, rfl⟩⟩; refine ⟨_, rfl, ?_⟩))
            go_roundg k1
            case measure => have := HK1.out; omega
            case rel => exact ⟨(t239), (x1_1 / 2), (x7_1), (by first | rfl | (simp; done) | (simp [*]; done)), (by first | rfl | (simp; done) | (simp [*]; done)), (by first | rfl | (simp; done) | (simp [*]; done)), H', ⟨by have := HK1.out; omega⟩, by repeat (first | exact Drawn0.refl _ | apply Drawn0.step)⟩
        · rw [if_neg c5] at H
          have c5b0 : decide (0 < x1_1) = false := decide_eq_false c5
          clear c5
          obtain rfl := Option.some.inj H
          go_wp2
          go_ret
          exact ⟨by first | rfl | (simp; done) | (simp [*]; done), by repeat (first | exact Drawn0.refl _ | apply Drawn0.step)⟩
end Go.Proofs.YtmmnopmccamjcaaGreatDoor.PMp
