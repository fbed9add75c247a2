/- The functions that the law 'FnProbably32' reaches, each with its contract. -/
import Derived.Test.YtmbhbioanoalaaaOFnProbably32x0
import Derived.Test.YtmbhbioanoalaaaOFnProbably32x1
namespace Go.Proofs.Ytmbhbioanoalaaa.PFnProbably32
open Go.RowKit Go.Proofs.YtmbhbioanoalaaaW.PrintWords Go.Proofs.YtmbhbioanoalaaaW.PrintLast Go.Proofs.YtmbhbioanoalaaaW.PrintMore
attribute [local go_sem] max2_int min2_int max_two min_two max_three min_three max_four min_four   -- for this text's walks alone
set_option linter.unusedVariables false
set_option linter.unusedSimpArgs false

/-! ### spec_IsStrong: function 24 -/
mutual
def spec_IsStrong.l0 : Nat → Int → Int → Int → Int → Option (Bool)
  | 0, _, _, _, _ => none
  | k + 1, x0, x1, x5, x6 => if (Go.bits .and .u64 x5 1) = 0 then (spec_IsStrong.l0 k x0 x1 (x5 / 2) (wrap64 (x6 + 1))) else ((spec_PowerMod.f k x1 x5 x0).bind fun t108 => (if t108 = 1 then (spec_IsStrong.j1 k x0 x6 t108 true) else (spec_IsStrong.j1 k x0 x6 t108 (t108 == (IntKind.u64.wrap (x0 - 1))))))
def spec_IsStrong.j1 : Nat → Int → Int → Int → Bool → Option (Bool)
  | 0, _, _, _, _ => none
  | k + 1, x0, x6, x7, x29 => if x29 = true then (some true) else (spec_IsStrong.l1 k x0 x6 x7 1)
def spec_IsStrong.l1 : Nat → Int → Int → Int → Int → Option (Bool)
  | 0, _, _, _, _ => none
  | k + 1, x0, x6, x7, x8 => if x8 < x6 then ((spec_TimesMod.f k x7 x7 x0).bind fun t109 => (if t109 = (IntKind.u64.wrap (x0 - 1)) then (some true) else (spec_IsStrong.l1 k x0 x6 t109 (wrap64 (x8 + 1))))) else (some false)
end
def spec_IsStrong.f (k : Nat) (a0 : Int) (a1 : Int) : Option (Bool) := spec_IsStrong.l0 k a0 a1 (IntKind.u64.wrap (a0 - 1)) 0
theorem spec_IsStrong.mono_l : ∀ k, (∀ y0 y1 y2 y3, LeO (spec_IsStrong.l0 k y0 y1 y2 y3) (spec_IsStrong.l0 (k + 1) y0 y1 y2 y3)) ∧ (∀ y0 y1 y2 y3, LeO (spec_IsStrong.j1 k y0 y1 y2 y3) (spec_IsStrong.j1 (k + 1) y0 y1 y2 y3)) ∧ (∀ y0 y1 y2 y3, LeO (spec_IsStrong.l1 k y0 y1 y2 y3) (spec_IsStrong.l1 (k + 1) y0 y1 y2 y3))
  | 0 => ⟨fun _ _ _ _ r h => by simp [spec_IsStrong.l0] at h, fun _ _ _ _ r h => by simp [spec_IsStrong.j1] at h, fun _ _ _ _ r h => by simp [spec_IsStrong.l1] at h⟩
  | k + 1 => by
    obtain ⟨ih0, ih1, ih2⟩ := spec_IsStrong.mono_l k
    refine ⟨?_, ?_, ?_⟩
    · intro y0 y1 y2 y3
      unfold spec_IsStrong.l0
      repeat' first
      | (with_reducible exact ih0 _ _ _ _)
      | (with_reducible exact ih1 _ _ _ _)
      | (with_reducible exact ih2 _ _ _ _)
      | (with_reducible exact spec_PowerMod.mono _ _ _ _)
      | (with_reducible exact spec_TimesMod.mono _ _ _ _)
      | (with_reducible exact LeO.refl _)
      | (with_reducible exact LeO.none _)
      | (with_reducible refine LeO.ite ?_ ?_)
      | (with_reducible refine LeO.bind ?_ (fun _ => ?_))
      | exact ih0 _ _ _ _
      | exact ih1 _ _ _ _
      | exact ih2 _ _ _ _
      | exact spec_PowerMod.mono _ _ _ _
      | exact spec_TimesMod.mono _ _ _ _
      | exact LeO.none _
      | refine LeO.ite ?_ ?_
      | refine LeO.bind ?_ (fun _ => ?_)
    · intro y0 y1 y2 y3
      unfold spec_IsStrong.j1
      repeat' first
      | (with_reducible exact ih0 _ _ _ _)
      | (with_reducible exact ih1 _ _ _ _)
      | (with_reducible exact ih2 _ _ _ _)
      | (with_reducible exact spec_PowerMod.mono _ _ _ _)
      | (with_reducible exact spec_TimesMod.mono _ _ _ _)
      | (with_reducible exact LeO.refl _)
      | (with_reducible exact LeO.none _)
      | (with_reducible refine LeO.ite ?_ ?_)
      | (with_reducible refine LeO.bind ?_ (fun _ => ?_))
      | exact ih0 _ _ _ _
      | exact ih1 _ _ _ _
      | exact ih2 _ _ _ _
      | exact spec_PowerMod.mono _ _ _ _
      | exact spec_TimesMod.mono _ _ _ _
      | exact LeO.none _
      | refine LeO.ite ?_ ?_
      | refine LeO.bind ?_ (fun _ => ?_)
    · intro y0 y1 y2 y3
      unfold spec_IsStrong.l1
      repeat' first
      | (with_reducible exact ih0 _ _ _ _)
      | (with_reducible exact ih1 _ _ _ _)
      | (with_reducible exact ih2 _ _ _ _)
      | (with_reducible exact spec_PowerMod.mono _ _ _ _)
      | (with_reducible exact spec_TimesMod.mono _ _ _ _)
      | (with_reducible exact LeO.refl _)
      | (with_reducible exact LeO.none _)
      | (with_reducible refine LeO.ite ?_ ?_)
      | (with_reducible refine LeO.bind ?_ (fun _ => ?_))
      | exact ih0 _ _ _ _
      | exact ih1 _ _ _ _
      | exact ih2 _ _ _ _
      | exact spec_PowerMod.mono _ _ _ _
      | exact spec_TimesMod.mono _ _ _ _
      | exact LeO.none _
      | refine LeO.ite ?_ ?_
      | refine LeO.bind ?_ (fun _ => ?_)
theorem spec_IsStrong.mono : ∀ a0 a1 k, LeO (spec_IsStrong.f k a0 a1) (spec_IsStrong.f (k + 1) a0 a1) := by
  intro a0 a1 k
  obtain ⟨ih0, ih1, ih2⟩ := spec_IsStrong.mono_l k
  unfold spec_IsStrong.f
  repeat' first
      | (with_reducible exact ih0 _ _ _ _)
      | (with_reducible exact ih1 _ _ _ _)
      | (with_reducible exact ih2 _ _ _ _)
      | (with_reducible exact spec_PowerMod.mono _ _ _ _)
      | (with_reducible exact spec_TimesMod.mono _ _ _ _)
      | (with_reducible exact LeO.refl _)
      | (with_reducible exact LeO.none _)
      | (with_reducible refine LeO.ite ?_ ?_)
      | (with_reducible refine LeO.bind ?_ (fun _ => ?_))
      | exact ih0 _ _ _ _
      | exact ih1 _ _ _ _
      | exact ih2 _ _ _ _
      | exact spec_PowerMod.mono _ _ _ _
      | exact spec_TimesMod.mono _ _ _ _
      | exact LeO.none _
      | refine LeO.ite ?_ ?_
      | refine LeO.bind ?_ (fun _ => ?_)
set_option maxHeartbeats 8000000 in
set_option maxRecDepth 100000 in
theorem spec_IsStrong.calls (k : Nat) (a0 : Int) (a1 : Int) (r : Bool) (w : World) (h : spec_IsStrong.f k a0 a1 = some r) :
    Calls Try.prog 24 #[.int .u64 a0, .int .u64 a1] w fun e w' => e = .returned (.bool r) ∧ Drawn0 w w' := by
  have H : (spec_IsStrong.l0 k a0 a1 (IntKind.u64.wrap (a0 - 1)) 0) = some r := h
  clear h
  have H' := Aside0.mk H
  clear H
  go_enter Try.func24, Try.ntmps24
  go_wp2
  go_loopg [5, 6] k (fun kq v5 v6 w' => ∃ (x5_1 : Int) (x6_1 : Int), v5 = .int .u64 x5_1 ∧ v6 = .int .i64 x6_1 ∧ Aside0 (spec_IsStrong.l0 kq a0 a1 x5_1 x6_1 = some r) ∧ Aside0 (kq ≤ k) ∧ Drawn0 w w')
  case atStart => exact ⟨(IntKind.u64.wrap (a0 - 1)), (0), (by first | rfl | (simp; done) | (simp [*]; done)), (by first | rfl | (simp; done) | (simp [*]; done)), H', ⟨Nat.le_refl _⟩, by repeat (first | exact Drawn0.refl _ | apply Drawn0.step)⟩
  case round =>
    clear H'
    try clear c2
    try clear p2
    obtain ⟨x5_1, x6_1, rfl, rfl, HA, HK1, ⟨m1, rfl⟩⟩ := hrel
    cases gk with
    | zero => exact absurd HA.out (by simp [spec_IsStrong.l0])
    | succ k1 =>
      have H := HA.out
      clear HA
      simp only [spec_IsStrong.l0] at H
      by_cases c3 : (Go.bits .and .u64 x5_1 1) = 0
      · rw [if_pos c3] at H
        have c3b0 : ((Go.bits .and .u64 x5_1 1) == 0) = true := beq_iff_eq.mpr c3
        have c3b1 : ((Go.bits .and .u64 x5_1 1) != 0) = false := bne_eq_false_iff_eq.mpr c3
        clear c3
        have H' := Aside0.mk H
        clear H
        go_wp2
        go_roundg k1
        case measure => have := HK1.out; omega
        case rel => exact ⟨(x5_1 / 2), (wrap64 (x6_1 + 1)), (by first | rfl | (simp; done) | (simp [*]; done)), (by first | rfl | (simp; done) | (simp [*]; done)), H', ⟨by have := HK1.out; omega⟩, by repeat (first | exact Drawn0.refl _ | apply Drawn0.step)⟩
      · rw [if_neg c3] at H
        have c3b0 : ((Go.bits .and .u64 x5_1 1) == 0) = false := beq_eq_false_iff_ne.mpr c3
        have c3b1 : ((Go.bits .and .u64 x5_1 1) != 0) = true := bne_iff_ne.mpr c3
        replace H := Option.bind_eq_some_iff.mp H
        obtain ⟨t108, A40, H⟩ := H
        replace H : (if t108 = 1 then (spec_IsStrong.j1 k1 a0 x6_1 t108 true) else (spec_IsStrong.j1 k1 a0 x6_1 t108 (t108 == (IntKind.u64.wrap (a0 - 1))))) = some r := H
        have A4 := Aside0.mk A40
        clear A40
        have HC5 := Aside0.mk H
        clear H
        go_upto_region 6 with (first | ((with_reducible refine gate_callee (f := 39) rfl ?_); refine goesL_ (some 21) rfl rfl Try.func39 (by kernel_rfl) rfl #[.int .u64 a1, .int .u64 x5_1, .int .u64 a0] rfl (by (try simp only [List.map_toArray, List.map_cons, List.map_nil]); first | done | rfl | (simp only [List.length_drop, List.length_take]; rfl)) ?_; (with_reducible refine (spec_PowerMod.calls k1 a1 x5_1 a0 t108 _ A4.out).mono ?_); rintro e w' ⟨rfl, ⟨nd, rfl⟩⟩; refine ⟨_, rfl, ?_⟩))
        (try simp only [Act.put, List.setIfInBounds_toArray, List.set_cons_zero, List.set_cons_succ])
        go_cut [29] (fun v29 wc => ∃ (kq : Nat) (x29_4 : Bool), v29 = .bool x29_4 ∧ Aside0 (spec_IsStrong.j1 kq a0 x6_1 t108 x29_4 = some r) ∧ Aside0 (kq ≤ k1) ∧ Drawn0 w wc)
        case first =>
          have H := HC5.out
          clear HC5
          by_cases c6 : t108 = 1
          · rw [if_pos c6] at H
            have c6b0 : (t108 == 1) = true := beq_iff_eq.mpr c6
            have c6b1 : (t108 != 1) = false := bne_eq_false_iff_eq.mpr c6
            clear c6
            (first | rw [c6b0] | (simp only [i64_w, i32_w]; rw [c6b0]) | skip)
            have H' := Aside0.mk H
            clear H
            go_wp2
            go_meet
            case rel => exact ⟨_, (true), (by first | rfl | (simp; done) | (simp [*]; done)), H', ⟨by have := HK1.out; first | omega | exact Nat.le_refl _⟩, by repeat (first | exact Drawn0.refl _ | apply Drawn0.step)⟩
          · rw [if_neg c6] at H
            have c6b0 : (t108 == 1) = false := beq_eq_false_iff_ne.mpr c6
            have c6b1 : (t108 != 1) = true := bne_iff_ne.mpr c6
            (first | rw [c6b0] | (simp only [i64_w, i32_w]; rw [c6b0]) | skip)
            have H' := Aside0.mk H
            clear H
            go_wp2
            go_meet
            case rel => exact ⟨_, ((t108 == (IntKind.u64.wrap (a0 - 1)))), (by first | rfl | (simp; done) | (simp [*]; done)), H', ⟨by have := HK1.out; first | omega | exact Nat.le_refl _⟩, by repeat (first | exact Drawn0.refl _ | apply Drawn0.step)⟩
        case rest =>
          clear HC5
          try clear c2
          try clear p2
          try clear c3
          try clear c3b0
          try clear c3b1
          try clear c6
          try clear c6b0
          try clear c6b1
          try clear p6
          try clear p2
          obtain ⟨kq, x29_4, rfl, HA, HJ4, ⟨mc4, rfl⟩⟩ := hcut
          cases kq with
          | zero => exact absurd HA.out (by simp [spec_IsStrong.j1])
          | succ kj4 =>
            have H := HA.out
            clear HA
            simp only [spec_IsStrong.j1] at H
            by_cases c7 : x29_4 = true
            · subst c7
              have H1 : (some true) = some r := by rw [if_pos rfl] at H; exact H
              clear H
              have H := H1
              clear H1
              obtain rfl := Option.some.inj H
              go_wp2
              go_ret
              exact ⟨by first | rfl | (simp; done) | (simp [*]; done), by repeat (first | exact Drawn0.refl _ | apply Drawn0.step)⟩
            · replace c7 := Bool.eq_false_iff.mpr c7
              subst c7
              have H1 : (spec_IsStrong.l1 kj4 a0 x6_1 t108 1) = some r := by rw [if_neg (show ¬ (false = true) by decide)] at H; exact H
              clear H
              have H := H1
              clear H1
              have H' := Aside0.mk H
              clear H
              go_wp2
              go_loopg [7, 8] kj4 (fun kq v7 v8 w' => ∃ (x7_3 : Int) (x8_3 : Int), v7 = .int .u64 x7_3 ∧ v8 = .int .i64 x8_3 ∧ Aside0 (spec_IsStrong.l1 kq a0 x6_1 x7_3 x8_3 = some r) ∧ Aside0 (kq ≤ kj4) ∧ Drawn0 w w')
              case atStart => exact ⟨(t108), (1), (by first | rfl | (simp; done) | (simp [*]; done)), (by first | rfl | (simp; done) | (simp [*]; done)), H', ⟨Nat.le_refl _⟩, by repeat (first | exact Drawn0.refl _ | apply Drawn0.step)⟩
              case round =>
                clear H'
                try clear c2
                try clear p2
                try clear c3
                try clear c3b0
                try clear c3b1
                try clear c4
                try clear c6
                try clear c6b0
                try clear c6b1
                try clear p6
                try clear c7
                try clear p2
                try clear p6
                obtain ⟨x7_3, x8_3, rfl, rfl, HA, HK3, ⟨m3, rfl⟩⟩ := hrel
                cases gk with
                | zero => exact absurd HA.out (by simp [spec_IsStrong.l1])
                | succ k3 =>
                  have H := HA.out
                  clear HA
                  simp only [spec_IsStrong.l1] at H
                  by_cases c8 : x8_3 < x6_1
                  · rw [if_pos c8] at H
                    have c8b0 : decide (x8_3 < x6_1) = true := decide_eq_true c8
                    clear c8
                    replace H := Option.bind_eq_some_iff.mp H
                    obtain ⟨t109, A90, H⟩ := H
                    replace H : (if t109 = (IntKind.u64.wrap (a0 - 1)) then (some true) else (spec_IsStrong.l1 k3 a0 x6_1 t109 (wrap64 (x8_3 + 1)))) = some r := H
                    have A9 := Aside0.mk A90
                    clear A90
                    by_cases c10 : t109 = (IntKind.u64.wrap (a0 - 1))
                    · rw [if_pos c10] at H
                      have c10b0 : (t109 == (IntKind.u64.wrap (a0 - 1))) = true := beq_iff_eq.mpr c10
                      have c10b1 : (t109 != (IntKind.u64.wrap (a0 - 1))) = false := bne_eq_false_iff_eq.mpr c10
                      clear c10
                      obtain rfl := Option.some.inj H
                      go_wp2_with (first | ((with_reducible refine gate_callee (f := 40) rfl ?_); refine goesL_ (some 38) rfl rfl Try.func40 (by kernel_rfl) rfl #[.int .u64 x7_3, .int .u64 x7_3, .int .u64 a0] rfl (by (try simp only [List.map_toArray, List.map_cons, List.map_nil]); first | done | rfl | (simp only [List.length_drop, List.length_take]; rfl)) ?_; (with_reducible refine (spec_TimesMod.calls k3 x7_3 x7_3 a0 t109 _ A9.out).mono ?_); rintro e w' ⟨rfl, ⟨nd, rfl⟩⟩; refine ⟨_, rfl, ?_⟩))
                      go_ret
                      exact ⟨by first | rfl | (simp; done) | (simp [*]; done), by repeat (first | exact Drawn0.refl _ | apply Drawn0.step)⟩
                    · rw [if_neg c10] at H
                      have c10b0 : (t109 == (IntKind.u64.wrap (a0 - 1))) = false := beq_eq_false_iff_ne.mpr c10
                      have c10b1 : (t109 != (IntKind.u64.wrap (a0 - 1))) = true := bne_iff_ne.mpr c10
                      have H' := Aside0.mk H
                      clear H
                      go_wp2_with (first | ((with_reducible refine gate_callee (f := 40) rfl ?_); refine goesL_ (some 38) rfl rfl Try.func40 (by kernel_rfl) rfl #[.int .u64 x7_3, .int .u64 x7_3, .int .u64 a0] rfl (by (try simp only [List.map_toArray, List.map_cons, List.map_nil]); first | done | rfl | (simp only [List.length_drop, List.length_take]; rfl)) ?_; (with_reducible refine (spec_TimesMod.calls k3 x7_3 x7_3 a0 t109 _ A9.out).mono ?_); rintro e w' ⟨rfl, ⟨nd, rfl⟩⟩; refine ⟨_, rfl, ?_⟩))
                      go_roundg k3
                      case measure => have := HK1.out; have := HJ4.out; have := HK3.out; omega
                      case rel => exact ⟨(t109), (wrap64 (x8_3 + 1)), (by first | rfl | (simp; done) | (simp [*]; done)), (by first | rfl | (simp; done) | (simp [*]; done)), H', ⟨by have := HK1.out; have := HJ4.out; have := HK3.out; omega⟩, by repeat (first | exact Drawn0.refl _ | apply Drawn0.step)⟩
                  · rw [if_neg c8] at H
                    have c8b0 : decide (x8_3 < x6_1) = false := decide_eq_false c8
                    clear c8
                    obtain rfl := Option.some.inj H
                    go_wp2
                    go_ret
                    exact ⟨by first | rfl | (simp; done) | (simp [*]; done), by repeat (first | exact Drawn0.refl _ | apply Drawn0.step)⟩

/-! ### laws_FnProbably32: function 10 -/
def laws_FnProbably32.j0 : Nat → Int → Int → Bool → Option (Bool)
  | 0, _, _, _ => none
  | k + 1, x0, x1, x21 => if x21 = true then ((impl_ProbablyPrime32.f k 7 2).bind fun t110 => (some t110)) else ((impl_ProbablyPrime32.f k 7 2).bind fun t111 => (if t111 = true then ((impl_ProbablyPrime32.f k x0 x1).bind fun t112 => ((spec_IsStrong.f k (IntKind.u64.wrap (x0)) (IntKind.u64.wrap (x1))).bind fun t113 => (some (t112 == t113)))) else (some false)))
def laws_FnProbably32.f (k : Nat) (a0 : Int) (a1 : Int) : Option (Bool) := if a0 < 5 then (laws_FnProbably32.j0 k a0 a1 true) else (if (Int.tmod a0 2) = 0 then (laws_FnProbably32.j0 k a0 a1 true) else (if a1 < 2 then (laws_FnProbably32.j0 k a0 a1 true) else (laws_FnProbably32.j0 k a0 a1 (decide (a1 > ((a0 - 2) % 4294967296))))))
theorem laws_FnProbably32.mono_l : ∀ k, (∀ y0 y1 y2, LeO (laws_FnProbably32.j0 k y0 y1 y2) (laws_FnProbably32.j0 (k + 1) y0 y1 y2))
  | 0 => fun _ _ _ r h => by simp [laws_FnProbably32.j0] at h
  | k + 1 => by
    have ih0 := laws_FnProbably32.mono_l k
    · intro y0 y1 y2
      unfold laws_FnProbably32.j0
      repeat' first
      | (with_reducible exact ih0 _ _ _)
      | (with_reducible exact impl_ProbablyPrime32.mono _ _ _)
      | (with_reducible exact spec_IsStrong.mono _ _ _)
      | (with_reducible exact LeO.refl _)
      | (with_reducible exact LeO.none _)
      | (with_reducible refine LeO.ite ?_ ?_)
      | (with_reducible refine LeO.bind ?_ (fun _ => ?_))
      | exact ih0 _ _ _
      | exact impl_ProbablyPrime32.mono _ _ _
      | exact spec_IsStrong.mono _ _ _
      | exact LeO.none _
      | refine LeO.ite ?_ ?_
      | refine LeO.bind ?_ (fun _ => ?_)
theorem laws_FnProbably32.mono : ∀ a0 a1 k, LeO (laws_FnProbably32.f k a0 a1) (laws_FnProbably32.f (k + 1) a0 a1) := by
  intro a0 a1 k
  have ih0 := laws_FnProbably32.mono_l k
  unfold laws_FnProbably32.f
  repeat' first
      | (with_reducible exact ih0 _ _ _)
      | (with_reducible exact impl_ProbablyPrime32.mono _ _ _)
      | (with_reducible exact spec_IsStrong.mono _ _ _)
      | (with_reducible exact LeO.refl _)
      | (with_reducible exact LeO.none _)
      | (with_reducible refine LeO.ite ?_ ?_)
      | (with_reducible refine LeO.bind ?_ (fun _ => ?_))
      | exact ih0 _ _ _
      | exact impl_ProbablyPrime32.mono _ _ _
      | exact spec_IsStrong.mono _ _ _
      | exact LeO.none _
      | refine LeO.ite ?_ ?_
      | refine LeO.bind ?_ (fun _ => ?_)
set_option maxHeartbeats 8000000 in
set_option maxRecDepth 100000 in
theorem laws_FnProbably32.calls (k : Nat) (a0 : Int) (a1 : Int) (r : Bool) (w : World) (h : laws_FnProbably32.f k a0 a1 = some r) :
    Calls Try.prog 10 #[.int .u32 a0, .int .u32 a1] w fun e w' => e = .returned (.bool r) ∧ Drawn0 w w' := by
  have H : (if a0 < 5 then (laws_FnProbably32.j0 k a0 a1 true) else (if (Int.tmod a0 2) = 0 then (laws_FnProbably32.j0 k a0 a1 true) else (if a1 < 2 then (laws_FnProbably32.j0 k a0 a1 true) else (laws_FnProbably32.j0 k a0 a1 (decide (a1 > ((a0 - 2) % 4294967296))))))) = some r := h
  clear h
  have HC3 := Aside0.mk H
  clear H
  go_enter Try.func10, Try.ntmps10
  go_upto_region 1 with (fail)
  go_cut [21] (fun v21 wc => ∃ (kq : Nat) (x21_2 : Bool), v21 = .bool x21_2 ∧ Aside0 (laws_FnProbably32.j0 kq a0 a1 x21_2 = some r) ∧ Aside0 (kq ≤ k) ∧ Drawn0 w wc)
  case first =>
    have H := HC3.out
    clear HC3
    by_cases c4 : a0 < 5
    · rw [if_pos c4] at H
      have c4b0 : decide (a0 < 5) = true := decide_eq_true c4
      clear c4
      (first | rw [c4b0] | (simp only [i64_w, i32_w]; rw [c4b0]) | skip)
      have H' := Aside0.mk H
      clear H
      go_wp2
      go_meet
      case rel => exact ⟨_, (true), (by first | rfl | (simp; done) | (simp [*]; done)), H', ⟨by first | omega | exact Nat.le_refl _⟩, by repeat (first | exact Drawn0.refl _ | apply Drawn0.step)⟩
    · rw [if_neg c4] at H
      have c4b0 : decide (a0 < 5) = false := decide_eq_false c4
      clear c4
      (first | rw [c4b0] | (simp only [i64_w, i32_w]; rw [c4b0]) | skip)
      by_cases c5 : (Int.tmod a0 2) = 0
      · rw [if_pos c5] at H
        have c5b0 : ((Int.tmod a0 2) == 0) = true := beq_iff_eq.mpr c5
        have c5b1 : ((Int.tmod a0 2) != 0) = false := bne_eq_false_iff_eq.mpr c5
        clear c5
        have H' := Aside0.mk H
        clear H
        go_wp2
        go_meet
        case rel => exact ⟨_, (true), (by first | rfl | (simp; done) | (simp [*]; done)), H', ⟨by first | omega | exact Nat.le_refl _⟩, by repeat (first | exact Drawn0.refl _ | apply Drawn0.step)⟩
      · rw [if_neg c5] at H
        have c5b0 : ((Int.tmod a0 2) == 0) = false := beq_eq_false_iff_ne.mpr c5
        have c5b1 : ((Int.tmod a0 2) != 0) = true := bne_iff_ne.mpr c5
        by_cases c6 : a1 < 2
        · rw [if_pos c6] at H
          have c6b0 : decide (a1 < 2) = true := decide_eq_true c6
          clear c6
          have H' := Aside0.mk H
          clear H
          go_wp2
          go_meet
          case rel => exact ⟨_, (true), (by first | rfl | (simp; done) | (simp [*]; done)), H', ⟨by first | omega | exact Nat.le_refl _⟩, by repeat (first | exact Drawn0.refl _ | apply Drawn0.step)⟩
        · rw [if_neg c6] at H
          have c6b0 : decide (a1 < 2) = false := decide_eq_false c6
          clear c6
          have H' := Aside0.mk H
          clear H
          go_wp2
          go_meet
          case rel => exact ⟨_, (decide (a1 > ((a0 - 2) % 4294967296))), (by first | rfl | (simp; done) | (simp [*]; done)), H', ⟨by first | omega | exact Nat.le_refl _⟩, by repeat (first | exact Drawn0.refl _ | apply Drawn0.step)⟩
  case rest =>
    clear HC3
    try clear c1
    try clear p2
    try clear c4
    try clear c4b0
    try clear c5
    try clear c5b0
    try clear c5b1
    try clear c6
    try clear c6b0
    obtain ⟨kq, x21_2, rfl, HA, HJ2, ⟨mc2, rfl⟩⟩ := hcut
    cases kq with
    | zero => exact absurd HA.out (by simp [laws_FnProbably32.j0])
    | succ kj2 =>
      have H := HA.out
      clear HA
      simp only [laws_FnProbably32.j0] at H
      by_cases c7 : x21_2 = true
      · subst c7
        have H1 : ((impl_ProbablyPrime32.f kj2 7 2).bind fun t110 => (some t110)) = some r := by rw [if_pos rfl] at H; exact H
        clear H
        have H := H1
        clear H1
        replace H := Option.bind_eq_some_iff.mp H
        obtain ⟨t110, A80, H⟩ := H
        replace H : (some t110) = some r := H
        have A8 := Aside0.mk A80
        clear A80
        obtain rfl := Option.some.inj H
        go_wp2_with (first | ((with_reducible refine gate_callee (f := 23) rfl ?_); refine goesL_ (some 22) rfl rfl Try.func23 (by kernel_rfl) rfl #[.int .u32 7, .int .u32 2] rfl (by (try simp only [List.map_toArray, List.map_cons, List.map_nil]); first | done | rfl | (simp only [List.length_drop, List.length_take]; rfl)) ?_; (with_reducible refine (impl_ProbablyPrime32.calls kj2 7 2 t110 _ A8.out).mono ?_); rintro e w' ⟨rfl, ⟨nd, rfl⟩⟩; refine ⟨_, rfl, ?_⟩))
        go_ret
        exact ⟨by first | rfl | (simp; done) | (simp [*]; done), by repeat (first | exact Drawn0.refl _ | apply Drawn0.step)⟩
      · replace c7 := Bool.eq_false_iff.mpr c7
        subst c7
        have H1 : ((impl_ProbablyPrime32.f kj2 7 2).bind fun t111 => (if t111 = true then ((impl_ProbablyPrime32.f kj2 a0 a1).bind fun t112 => ((spec_IsStrong.f kj2 (IntKind.u64.wrap (a0)) (IntKind.u64.wrap (a1))).bind fun t113 => (some (t112 == t113)))) else (some false))) = some r := by rw [if_neg (show ¬ (false = true) by decide)] at H; exact H
        clear H
        have H := H1
        clear H1
        replace H := Option.bind_eq_some_iff.mp H
        obtain ⟨t111, A90, H⟩ := H
        replace H : (if t111 = true then ((impl_ProbablyPrime32.f kj2 a0 a1).bind fun t112 => ((spec_IsStrong.f kj2 (IntKind.u64.wrap (a0)) (IntKind.u64.wrap (a1))).bind fun t113 => (some (t112 == t113)))) else (some false)) = some r := H
        have A9 := Aside0.mk A90
        clear A90
        by_cases c10 : t111 = true
        · subst c10
          have H1 : ((impl_ProbablyPrime32.f kj2 a0 a1).bind fun t112 => ((spec_IsStrong.f kj2 (IntKind.u64.wrap (a0)) (IntKind.u64.wrap (a1))).bind fun t113 => (some (t112 == t113)))) = some r := by rw [if_pos rfl] at H; exact H
          clear H
          have H := H1
          clear H1
          replace H := Option.bind_eq_some_iff.mp H
          obtain ⟨t112, A110, H⟩ := H
          replace H : ((spec_IsStrong.f kj2 (IntKind.u64.wrap (a0)) (IntKind.u64.wrap (a1))).bind fun t113 => (some (t112 == t113))) = some r := H
          have A11 := Aside0.mk A110
          clear A110
          replace H := Option.bind_eq_some_iff.mp H
          obtain ⟨t113, A120, H⟩ := H
          replace H : (some (t112 == t113)) = some r := H
          have A12 := Aside0.mk A120
          clear A120
          obtain rfl := Option.some.inj H
          go_wp2_with (first | ((with_reducible refine gate_callee (f := 23) rfl ?_); refine goesL_ (some 23) rfl rfl Try.func23 (by kernel_rfl) rfl #[.int .u32 7, .int .u32 2] rfl (by (try simp only [List.map_toArray, List.map_cons, List.map_nil]); first | done | rfl | (simp only [List.length_drop, List.length_take]; rfl)) ?_; (with_reducible refine (impl_ProbablyPrime32.calls kj2 7 2 true _ A9.out).mono ?_); rintro e w' ⟨rfl, ⟨nd, rfl⟩⟩; refine ⟨_, rfl, ?_⟩) | (go_at_call 23; (with_reducible refine (impl_ProbablyPrime32.calls kj2 a0 a1 t112 _ A11.out).mono ?_); rintro e w' ⟨rfl, ⟨nd, rfl⟩⟩) | (go_at_call 24; (with_reducible refine (spec_IsStrong.calls kj2 (IntKind.u64.wrap (a0)) (IntKind.u64.wrap (a1)) t113 _ A12.out).mono ?_); rintro e w' ⟨rfl, ⟨nd, rfl⟩⟩))
          go_ret
          exact ⟨by first | rfl | (simp; done) | (simp [*]; done), by repeat (first | exact Drawn0.refl _ | apply Drawn0.step)⟩
        · replace c10 := Bool.eq_false_iff.mpr c10
          subst c10
          have H1 : (some false) = some r := by rw [if_neg (show ¬ (false = true) by decide)] at H; exact H
          clear H
          have H := H1
          clear H1
          obtain rfl := Option.some.inj H
          go_wp2_with (first | ((with_reducible refine gate_callee (f := 23) rfl ?_); refine goesL_ (some 23) rfl rfl Try.func23 (by kernel_rfl) rfl #[.int .u32 7, .int .u32 2] rfl (by (try simp only [List.map_toArray, List.map_cons, List.map_nil]); first | done | rfl | (simp only [List.length_drop, List.length_take]; rfl)) ?_; (with_reducible refine (impl_ProbablyPrime32.calls kj2 7 2 false _ A9.out).mono ?_); rintro e w' ⟨rfl, ⟨nd, rfl⟩⟩; refine ⟨_, rfl, ?_⟩))
          go_ret
          exact ⟨by first | rfl | (simp; done) | (simp [*]; done), by repeat (first | exact Drawn0.refl _ | apply Drawn0.step)⟩

/-- THE ONE PURE STATEMENT of laws_FnProbably32: yours. -/
def laws_FnProbably32.Pure : Prop := ∀ (a0 : Int) (a1 : Int), (Lit.int .u32 a0).wf = true → (Lit.int .u32 a1).wf = true → ∃ k, laws_FnProbably32.f k a0 a1 = some true
theorem laws_FnProbably32.walk (P : laws_FnProbably32.Pure) (a0 : Int) (a1 : Int) (w : World) (w0 : (Lit.int .u32 a0).wf = true) (w1 : (Lit.int .u32 a1).wf = true) :
    Calls Try.prog 10 #[.int .u32 a0, .int .u32 a1] w fun e w' => e = .returned (.bool true) ∧ Below w.heap.size w w' := by
  obtain ⟨k, h⟩ := P a0 a1 w0 w1
  refine (laws_FnProbably32.calls k a0 a1 true w h).mono ?_
  rintro e w' ⟨rfl, hd⟩
  exact ⟨rfl, hd.below⟩

end Go.Proofs.Ytmbhbioanoalaaa.PFnProbably32
