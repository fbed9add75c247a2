/- The functions that the law 'FnQuadFactors' reaches, each with its contract. -/
import Derived.Test.YtpelipdecjooeaaDoorOFnQuadFactorsx0
import Derived.Test.YtpelipdecjooeaaDoorOFnQuadFactorsx1
import Derived.Test.YtpelipdecjooeaaDoorOFnQuadFactorsx2
import Derived.Test.YtpelipdecjooeaaDoorOFnQuadFactorsx3
namespace Go.Proofs.YtpelipdecjooeaaDoor.PFnQuadFactors
open Go.RowKit Go.Proofs.YtpelipdecjooeaaDoorW.PrintWords Go.Proofs.YtpelipdecjooeaaDoorW.PrintLast Go.Proofs.YtpelipdecjooeaaDoorW.PrintMore
attribute [local go_sem] max2_int min2_int max_two min_two max_three min_three max_four min_four   -- for this text's walks alone
set_option linter.unusedVariables false
set_option linter.unusedSimpArgs false

/-! ### laws_FnQuadFactors: function 4 -/
mutual
noncomputable def laws_FnQuadFactors.j0 : Nat → Int → Int → Int → Bool → Option (Bool)
  | 0, _, _, _, _ => none
  | k + 1, x0, x1, x2, x9 => if x0 = 0 then (laws_FnQuadFactors.j1 k x0 x1 x2 x9 true) else ((spec_IsCoef.f x0).bind fun t176 => (if t176 = true then ((spec_IsCoef.f x1).bind fun t177 => (if t177 = true then ((spec_IsCoef.f x2).bind fun t178 => (laws_FnQuadFactors.j1 k x0 x1 x2 x9 (!t178))) else (laws_FnQuadFactors.j1 k x0 x1 x2 x9 true))) else (laws_FnQuadFactors.j1 k x0 x1 x2 x9 true)))
noncomputable def laws_FnQuadFactors.j1 : Nat → Int → Int → Int → Bool → Bool → Option (Bool)
  | 0, _, _, _, _, _ => none
  | k + 1, x0, x1, x2, x9, x47 => if x47 = true then (some x9) else ((impl_QuadFactors.f k x0 x1 x2).bind fun bt179 => (if (wrap64 ((wrap64 (x1 * x1)) - (wrap64 ((wrap64 (4 * x0)) * x2)))) < 0 then (laws_FnQuadFactors.j2 k x0 x1 x2 x9 bt179.1 bt179.2.1 bt179.2.2 true) else ((spec_Root.f k (wrap64 ((wrap64 (x1 * x1)) - (wrap64 ((wrap64 (4 * x0)) * x2))))).bind fun t184 => (laws_FnQuadFactors.j2 k x0 x1 x2 x9 bt179.1 bt179.2.1 bt179.2.2 (decide (t184 < 0))))))
noncomputable def laws_FnQuadFactors.j2 : Nat → Int → Int → Int → Bool → Int → List (List Int) → Bool → Bool → Option (Bool)
  | 0, _, _, _, _, _, _, _, _ => none
  | k + 1, x0, x1, x2, x9, x10, x11, x12, x71 => if x71 = true then (if x9 = true then (if x12 = true then (if x10 = 0 then (some ((x11.length : Int) == 0)) else (some false)) else (some false)) else (some false)) else (laws_FnQuadFactors.l0 k x0 x1 x2 x9 x10 x11 x12 x11 (x11.length : Int) 0)
noncomputable def laws_FnQuadFactors.l0 : Nat → Int → Int → Int → Bool → Int → List (List Int) → Bool → List (List Int) → Int → Int → Option (Bool)
  | 0, _, _, _, _, _, _, _, _, _, _ => none
  | k + 1, x0, x1, x2, x9, x10, x11, x12, x85, x86, x87 => if x87 < x86 then (if 0 ≤ x87 then (if x87 < (x85.length : Int) then (if ((rd_L2 x85 x87).length : Int) = 2 then (if 0 < ((rd_L2 x85 x87).length : Int) then (if 1 < ((rd_L2 x85 x87).length : Int) then ((spec_Divisor.f k (rd (rd_L2 x85 x87) 0) (rd (rd_L2 x85 x87) 1)).bind fun t188 => (if t188 = 1 then (laws_FnQuadFactors.l0 k x0 x1 x2 x9 x10 x11 x12 x85 x86 (wrap64 (x87 + 1))) else (some false))) else (none)) else (none)) else (some false)) else (none)) else (none)) else (if x9 = true then (if x12 = true then (if (x11.length : Int) = 2 then ((spec_Multiplied.f k x10 x11).bind fun t189 => ((spec_Same.f k t189 (([x0, x1, x2] : List Int))).bind fun t195 => (some t195))) else (some false)) else (some false)) else (some false))
end
noncomputable def laws_FnQuadFactors.f (k : Nat) (a0 : Int) (a1 : Int) (a2 : Int) : Option (Bool) := (impl_QuadFactors.f k 1 3 2).bind fun bt171 => (if bt171.2.2 = true then (if bt171.1 = 1 then (laws_FnQuadFactors.j0 k a0 a1 a2 ((bt171.2.1.length : Int) == 2)) else (laws_FnQuadFactors.j0 k a0 a1 a2 false)) else (laws_FnQuadFactors.j0 k a0 a1 a2 false))
theorem laws_FnQuadFactors.mono_l : ∀ k, (∀ y0 y1 y2 y3, LeO (laws_FnQuadFactors.j0 k y0 y1 y2 y3) (laws_FnQuadFactors.j0 (k + 1) y0 y1 y2 y3)) ∧ (∀ y0 y1 y2 y3 y4, LeO (laws_FnQuadFactors.j1 k y0 y1 y2 y3 y4) (laws_FnQuadFactors.j1 (k + 1) y0 y1 y2 y3 y4)) ∧ (∀ y0 y1 y2 y3 y4 y5 y6 y7, LeO (laws_FnQuadFactors.j2 k y0 y1 y2 y3 y4 y5 y6 y7) (laws_FnQuadFactors.j2 (k + 1) y0 y1 y2 y3 y4 y5 y6 y7)) ∧ (∀ y0 y1 y2 y3 y4 y5 y6 y7 y8 y9, LeO (laws_FnQuadFactors.l0 k y0 y1 y2 y3 y4 y5 y6 y7 y8 y9) (laws_FnQuadFactors.l0 (k + 1) y0 y1 y2 y3 y4 y5 y6 y7 y8 y9))
  | 0 => ⟨fun _ _ _ _ r h => by simp [laws_FnQuadFactors.j0] at h, fun _ _ _ _ _ r h => by simp [laws_FnQuadFactors.j1] at h, fun _ _ _ _ _ _ _ _ r h => by simp [laws_FnQuadFactors.j2] at h, fun _ _ _ _ _ _ _ _ _ _ r h => by simp [laws_FnQuadFactors.l0] at h⟩
  | k + 1 => by
    obtain ⟨ih0, ih1, ih2, ih3⟩ := laws_FnQuadFactors.mono_l k
    refine ⟨?_, ?_, ?_, ?_⟩
    · intro y0 y1 y2 y3
      unfold laws_FnQuadFactors.j0
      repeat' first
      | (with_reducible exact ih0 _ _ _ _)
      | (with_reducible exact ih1 _ _ _ _ _)
      | (with_reducible exact ih2 _ _ _ _ _ _ _ _)
      | (with_reducible exact ih3 _ _ _ _ _ _ _ _ _ _)
      | (with_reducible exact impl_QuadFactors.mono _ _ _ _)
      | (with_reducible exact spec_Divisor.mono _ _ _)
      | (with_reducible exact spec_Multiplied.mono _ _ _)
      | (with_reducible exact spec_Root.mono _ _)
      | (with_reducible exact spec_Same.mono _ _ _)
      | (with_reducible exact LeO.refl _)
      | (with_reducible exact LeO.none _)
      | (with_reducible refine LeO.ite ?_ ?_)
      | (with_reducible refine LeO.bind ?_ (fun _ => ?_))
      | exact ih0 _ _ _ _
      | exact ih1 _ _ _ _ _
      | exact ih2 _ _ _ _ _ _ _ _
      | exact ih3 _ _ _ _ _ _ _ _ _ _
      | exact impl_QuadFactors.mono _ _ _ _
      | exact spec_Divisor.mono _ _ _
      | exact spec_Multiplied.mono _ _ _
      | exact spec_Root.mono _ _
      | exact spec_Same.mono _ _ _
      | exact LeO.none _
      | refine LeO.ite ?_ ?_
      | refine LeO.bind ?_ (fun _ => ?_)
    · intro y0 y1 y2 y3 y4
      unfold laws_FnQuadFactors.j1
      repeat' first
      | (with_reducible exact ih0 _ _ _ _)
      | (with_reducible exact ih1 _ _ _ _ _)
      | (with_reducible exact ih2 _ _ _ _ _ _ _ _)
      | (with_reducible exact ih3 _ _ _ _ _ _ _ _ _ _)
      | (with_reducible exact impl_QuadFactors.mono _ _ _ _)
      | (with_reducible exact spec_Divisor.mono _ _ _)
      | (with_reducible exact spec_Multiplied.mono _ _ _)
      | (with_reducible exact spec_Root.mono _ _)
      | (with_reducible exact spec_Same.mono _ _ _)
      | (with_reducible exact LeO.refl _)
      | (with_reducible exact LeO.none _)
      | (with_reducible refine LeO.ite ?_ ?_)
      | (with_reducible refine LeO.bind ?_ (fun _ => ?_))
      | exact ih0 _ _ _ _
      | exact ih1 _ _ _ _ _
      | exact ih2 _ _ _ _ _ _ _ _
      | exact ih3 _ _ _ _ _ _ _ _ _ _
      | exact impl_QuadFactors.mono _ _ _ _
      | exact spec_Divisor.mono _ _ _
      | exact spec_Multiplied.mono _ _ _
      | exact spec_Root.mono _ _
      | exact spec_Same.mono _ _ _
      | exact LeO.none _
      | refine LeO.ite ?_ ?_
      | refine LeO.bind ?_ (fun _ => ?_)
    · intro y0 y1 y2 y3 y4 y5 y6 y7
      unfold laws_FnQuadFactors.j2
      repeat' first
      | (with_reducible exact ih0 _ _ _ _)
      | (with_reducible exact ih1 _ _ _ _ _)
      | (with_reducible exact ih2 _ _ _ _ _ _ _ _)
      | (with_reducible exact ih3 _ _ _ _ _ _ _ _ _ _)
      | (with_reducible exact impl_QuadFactors.mono _ _ _ _)
      | (with_reducible exact spec_Divisor.mono _ _ _)
      | (with_reducible exact spec_Multiplied.mono _ _ _)
      | (with_reducible exact spec_Root.mono _ _)
      | (with_reducible exact spec_Same.mono _ _ _)
      | (with_reducible exact LeO.refl _)
      | (with_reducible exact LeO.none _)
      | (with_reducible refine LeO.ite ?_ ?_)
      | (with_reducible refine LeO.bind ?_ (fun _ => ?_))
      | exact ih0 _ _ _ _
      | exact ih1 _ _ _ _ _
      | exact ih2 _ _ _ _ _ _ _ _
      | exact ih3 _ _ _ _ _ _ _ _ _ _
      | exact impl_QuadFactors.mono _ _ _ _
      | exact spec_Divisor.mono _ _ _
      | exact spec_Multiplied.mono _ _ _
      | exact spec_Root.mono _ _
      | exact spec_Same.mono _ _ _
      | exact LeO.none _
      | refine LeO.ite ?_ ?_
      | refine LeO.bind ?_ (fun _ => ?_)
    · intro y0 y1 y2 y3 y4 y5 y6 y7 y8 y9
      unfold laws_FnQuadFactors.l0
      repeat' first
      | (with_reducible exact ih0 _ _ _ _)
      | (with_reducible exact ih1 _ _ _ _ _)
      | (with_reducible exact ih2 _ _ _ _ _ _ _ _)
      | (with_reducible exact ih3 _ _ _ _ _ _ _ _ _ _)
      | (with_reducible exact impl_QuadFactors.mono _ _ _ _)
      | (with_reducible exact spec_Divisor.mono _ _ _)
      | (with_reducible exact spec_Multiplied.mono _ _ _)
      | (with_reducible exact spec_Root.mono _ _)
      | (with_reducible exact spec_Same.mono _ _ _)
      | (with_reducible exact LeO.refl _)
      | (with_reducible exact LeO.none _)
      | (with_reducible refine LeO.ite ?_ ?_)
      | (with_reducible refine LeO.bind ?_ (fun _ => ?_))
      | exact ih0 _ _ _ _
      | exact ih1 _ _ _ _ _
      | exact ih2 _ _ _ _ _ _ _ _
      | exact ih3 _ _ _ _ _ _ _ _ _ _
      | exact impl_QuadFactors.mono _ _ _ _
      | exact spec_Divisor.mono _ _ _
      | exact spec_Multiplied.mono _ _ _
      | exact spec_Root.mono _ _
      | exact spec_Same.mono _ _ _
      | exact LeO.none _
      | refine LeO.ite ?_ ?_
      | refine LeO.bind ?_ (fun _ => ?_)
theorem laws_FnQuadFactors.mono : ∀ a0 a1 a2 k, LeO (laws_FnQuadFactors.f k a0 a1 a2) (laws_FnQuadFactors.f (k + 1) a0 a1 a2) := by
  intro a0 a1 a2 k
  obtain ⟨ih0, ih1, ih2, ih3⟩ := laws_FnQuadFactors.mono_l k
  unfold laws_FnQuadFactors.f
  repeat' first
      | (with_reducible exact ih0 _ _ _ _)
      | (with_reducible exact ih1 _ _ _ _ _)
      | (with_reducible exact ih2 _ _ _ _ _ _ _ _)
      | (with_reducible exact ih3 _ _ _ _ _ _ _ _ _ _)
      | (with_reducible exact impl_QuadFactors.mono _ _ _ _)
      | (with_reducible exact spec_Divisor.mono _ _ _)
      | (with_reducible exact spec_Multiplied.mono _ _ _)
      | (with_reducible exact spec_Root.mono _ _)
      | (with_reducible exact spec_Same.mono _ _ _)
      | (with_reducible exact LeO.refl _)
      | (with_reducible exact LeO.none _)
      | (with_reducible refine LeO.ite ?_ ?_)
      | (with_reducible refine LeO.bind ?_ (fun _ => ?_))
      | exact ih0 _ _ _ _
      | exact ih1 _ _ _ _ _
      | exact ih2 _ _ _ _ _ _ _ _
      | exact ih3 _ _ _ _ _ _ _ _ _ _
      | exact impl_QuadFactors.mono _ _ _ _
      | exact spec_Divisor.mono _ _ _
      | exact spec_Multiplied.mono _ _ _
      | exact spec_Root.mono _ _
      | exact spec_Same.mono _ _ _
      | exact LeO.none _
      | refine LeO.ite ?_ ?_
      | refine LeO.bind ?_ (fun _ => ?_)
set_option maxHeartbeats 8000000 in
set_option maxRecDepth 100000 in
theorem laws_FnQuadFactors.calls (k : Nat) (a0 : Int) (a1 : Int) (a2 : Int) (r : Bool) (w : World) (HT : Aside0 (Tab.Tabs w)) (h : laws_FnQuadFactors.f k a0 a1 a2 = some r) :
    Calls Tryd.prog 4 #[.int .i64 a0, .int .i64 a1, .int .i64 a2] w fun e w' => e = .returned (.bool r) ∧ Below w.heap.size w w' := by
  have HB := Aside0.mk (Below.refl w.heap.size w)
  have H : ((impl_QuadFactors.f k 1 3 2).bind fun bt171 => (if bt171.2.2 = true then (if bt171.1 = 1 then (laws_FnQuadFactors.j0 k a0 a1 a2 ((bt171.2.1.length : Int) == 2)) else (laws_FnQuadFactors.j0 k a0 a1 a2 false)) else (laws_FnQuadFactors.j0 k a0 a1 a2 false))) = some r := h
  clear h
  replace H := Option.bind_eq_some_iff.mp H
  obtain ⟨⟨t171, t172, t173⟩, A40, H⟩ := H
  replace H : (if t173 = true then (if t171 = 1 then (laws_FnQuadFactors.j0 k a0 a1 a2 ((t172.length : Int) == 2)) else (laws_FnQuadFactors.j0 k a0 a1 a2 false)) else (laws_FnQuadFactors.j0 k a0 a1 a2 false)) = some r := H
  have A4 := Aside0.mk A40
  clear A40
  have HC5 := Aside0.mk H
  clear H
  go_enter Tryd.func4, Tryd.ntmps4
  go_upto_region 2 with (first | (go_at_call 9; (with_reducible refine (impl_QuadFactors.calls k 1 3 2 t171 t172 t173 _ ?sideT A4.out).mono ?_); (case sideT => exact ⟨QpdC.tabs_below HT (by repeat (first | (with_reducible first | exact HB.out | apply below_alloc | apply pw_below_drewN | apply below_drew1) | exact HB.out))⟩); rintro e w6 ⟨v174, rfl, ho0, hb⟩; have n0_ := Aside0.mk (Kd.S_lower ho0 (below_size (by repeat (first | (with_reducible first | exact HB.out | apply below_alloc | apply pw_below_drewN | apply below_drew1) | exact HB.out)))); have n1_ := Aside0.mk (below_step (by repeat (first | (with_reducible first | exact HB.out | apply below_alloc | apply pw_below_drewN | apply below_drew1) | exact HB.out)) hb); clear HB; have HO175 := n0_; have HB := n1_; clear n0_ n1_; (try clear hb); (try clear hb2); (try clear hk); (try clear hi); (try clear ho0)))
  repeat (go_quiet (first | (go_at_call 9; (with_reducible refine (impl_QuadFactors.calls k 1 3 2 t171 t172 t173 _ ?sideT A4.out).mono ?_); (case sideT => exact ⟨QpdC.tabs_below HT (by repeat (first | (with_reducible first | exact HB.out | apply below_alloc | apply pw_below_drewN | apply below_drew1) | exact HB.out))⟩); rintro e w6 ⟨v174, rfl, ho0, hb⟩; have n0_ := Aside0.mk (Kd.S_lower ho0 (below_size (by repeat (first | (with_reducible first | exact HB.out | apply below_alloc | apply pw_below_drewN | apply below_drew1) | exact HB.out)))); have n1_ := Aside0.mk (below_step (by repeat (first | (with_reducible first | exact HB.out | apply below_alloc | apply pw_below_drewN | apply below_drew1) | exact HB.out)) hb); clear HB; have HO175 := n0_; have HB := n1_; clear n0_ n1_; (try clear hb); (try clear hb2); (try clear hk); (try clear hi); (try clear ho0))); go_upto_region 2 with (first | (go_at_call 9; (with_reducible refine (impl_QuadFactors.calls k 1 3 2 t171 t172 t173 _ ?sideT A4.out).mono ?_); (case sideT => exact ⟨QpdC.tabs_below HT (by repeat (first | (with_reducible first | exact HB.out | apply below_alloc | apply pw_below_drewN | apply below_drew1) | exact HB.out))⟩); rintro e w6 ⟨v174, rfl, ho0, hb⟩; have n0_ := Aside0.mk (Kd.S_lower ho0 (below_size (by repeat (first | (with_reducible first | exact HB.out | apply below_alloc | apply pw_below_drewN | apply below_drew1) | exact HB.out)))); have n1_ := Aside0.mk (below_step (by repeat (first | (with_reducible first | exact HB.out | apply below_alloc | apply pw_below_drewN | apply below_drew1) | exact HB.out)) hb); clear HB; have HO175 := n0_; have HB := n1_; clear n0_ n1_; (try clear hb); (try clear hb2); (try clear hk); (try clear hi); (try clear ho0))))
  (try simp only [Act.put, List.setIfInBounds_toArray, List.set_cons_zero, List.set_cons_succ])
  go_cut [9] (fun v9 wc => ∃ (kq : Nat) (x9_4 : Bool), v9 = .bool x9_4 ∧ Aside0 (laws_FnQuadFactors.j0 kq a0 a1 a2 x9_4 = some r) ∧ Aside0 (kq ≤ k) ∧ Aside0 (Below w.heap.size w wc))
  case first =>
    have H := HC5.out
    clear HC5
    by_cases c7 : t173 = true
    · subst c7
      have H1 : (if t171 = 1 then (laws_FnQuadFactors.j0 k a0 a1 a2 ((t172.length : Int) == 2)) else (laws_FnQuadFactors.j0 k a0 a1 a2 false)) = some r := by rw [if_pos rfl] at H; exact H
      clear H
      have H := H1
      clear H1
      by_cases c8 : t171 = 1
      · rw [if_pos c8] at H
        have c8b0 : (t171 == 1) = true := beq_iff_eq.mpr c8
        have c8b1 : (t171 != 1) = false := bne_eq_false_iff_eq.mpr c8
        clear c8
        (first | rw [c8b0] | (simp only [i64_w, i32_w]; rw [c8b0]) | skip)
        have H' := Aside0.mk H
        clear H
        obtain ⟨Ao9, co9, eo9⟩ := Kd.S_slice HO175.out
        subst eo9
        go_wp2
        repeat (go_quiet (fail); try go_wp2)
        go_meet
        case rel => exact ⟨_, (((t172.length : Int) == 2)), (by first | rfl | (simp; done) | (simp [*]; done)), H', ⟨by first | omega | exact Nat.le_refl _⟩, ⟨by repeat (first | (with_reducible first | exact HB.out | apply below_alloc | apply pw_below_drewN | apply below_drew1) | exact HB.out)⟩⟩
      · rw [if_neg c8] at H
        have c8b0 : (t171 == 1) = false := beq_eq_false_iff_ne.mpr c8
        have c8b1 : (t171 != 1) = true := bne_iff_ne.mpr c8
        (first | rw [c8b0] | (simp only [i64_w, i32_w]; rw [c8b0]) | skip)
        have H' := Aside0.mk H
        clear H
        go_wp2
        repeat (go_quiet (fail); try go_wp2)
        go_meet
        case rel => exact ⟨_, (false), (by first | rfl | (simp; done) | (simp [*]; done)), H', ⟨by first | omega | exact Nat.le_refl _⟩, ⟨by repeat (first | (with_reducible first | exact HB.out | apply below_alloc | apply pw_below_drewN | apply below_drew1) | exact HB.out)⟩⟩
    · replace c7 := Bool.eq_false_iff.mpr c7
      subst c7
      have H1 : (laws_FnQuadFactors.j0 k a0 a1 a2 false) = some r := by rw [if_neg (show ¬ (false = true) by decide)] at H; exact H
      clear H
      have H := H1
      clear H1
      have H' := Aside0.mk H
      clear H
      go_wp2
      repeat (go_quiet (fail); try go_wp2)
      go_meet
      case rel => exact ⟨_, (false), (by first | rfl | (simp; done) | (simp [*]; done)), H', ⟨by first | omega | exact Nat.le_refl _⟩, ⟨by repeat (first | (with_reducible first | exact HB.out | apply below_alloc | apply pw_below_drewN | apply below_drew1) | exact HB.out)⟩⟩
  case rest =>
    clear HC5
    try clear p2
    try clear c4
    try clear c7
    try clear c8
    try clear c8b0
    try clear c8b1
    obtain ⟨kq, x9_4, rfl, HA, HJ4, HB⟩ := hcut
    cases kq with
    | zero => exact absurd HA.out (by simp [laws_FnQuadFactors.j0])
    | succ kj4 =>
      have H := HA.out
      clear HA
      simp only [laws_FnQuadFactors.j0] at H
      have HC10 := Aside0.mk H
      clear H
      go_upto_region 3 with (fail)
      repeat (go_quiet (fail); go_upto_region 3 with (fail))
      go_cut [47] (fun v47 wc => ∃ (kq : Nat) (x47_9 : Bool), v47 = .bool x47_9 ∧ Aside0 (laws_FnQuadFactors.j1 kq a0 a1 a2 x9_4 x47_9 = some r) ∧ Aside0 (kq ≤ kj4) ∧ Aside0 (Below w.heap.size w wc))
      case first =>
        have H := HC10.out
        clear HC10
        by_cases c11 : a0 = 0
        · rw [if_pos c11] at H
          have c11b0 : (a0 == 0) = true := beq_iff_eq.mpr c11
          have c11b1 : (a0 != 0) = false := bne_eq_false_iff_eq.mpr c11
          clear c11
          (first | rw [c11b0] | (simp only [i64_w, i32_w]; rw [c11b0]) | skip)
          have H' := Aside0.mk H
          clear H
          go_wp2
          repeat (go_quiet (fail); try go_wp2)
          go_meet
          case rel => exact ⟨_, (true), (by first | rfl | (simp; done) | (simp [*]; done)), H', ⟨by have := HJ4.out; first | omega | exact Nat.le_refl _⟩, ⟨by repeat (first | (with_reducible first | exact HB.out | apply below_alloc | apply pw_below_drewN | apply below_drew1) | exact HB.out)⟩⟩
        · rw [if_neg c11] at H
          have c11b0 : (a0 == 0) = false := beq_eq_false_iff_ne.mpr c11
          have c11b1 : (a0 != 0) = true := bne_iff_ne.mpr c11
          (first | rw [c11b0] | (simp only [i64_w, i32_w]; rw [c11b0]) | skip)
          replace H := Option.bind_eq_some_iff.mp H
          obtain ⟨t176, A120, H⟩ := H
          replace H : (if t176 = true then ((spec_IsCoef.f a1).bind fun t177 => (if t177 = true then ((spec_IsCoef.f a2).bind fun t178 => (laws_FnQuadFactors.j1 kj4 a0 a1 a2 x9_4 (!t178))) else (laws_FnQuadFactors.j1 kj4 a0 a1 a2 x9_4 true))) else (laws_FnQuadFactors.j1 kj4 a0 a1 a2 x9_4 true)) = some r := H
          have A12 := Aside0.mk A120
          clear A120
          by_cases c13 : t176 = true
          · subst c13
            have H1 : ((spec_IsCoef.f a1).bind fun t177 => (if t177 = true then ((spec_IsCoef.f a2).bind fun t178 => (laws_FnQuadFactors.j1 kj4 a0 a1 a2 x9_4 (!t178))) else (laws_FnQuadFactors.j1 kj4 a0 a1 a2 x9_4 true))) = some r := by rw [if_pos rfl] at H; exact H
            clear H
            have H := H1
            clear H1
            replace H := Option.bind_eq_some_iff.mp H
            obtain ⟨t177, A140, H⟩ := H
            replace H : (if t177 = true then ((spec_IsCoef.f a2).bind fun t178 => (laws_FnQuadFactors.j1 kj4 a0 a1 a2 x9_4 (!t178))) else (laws_FnQuadFactors.j1 kj4 a0 a1 a2 x9_4 true)) = some r := H
            have A14 := Aside0.mk A140
            clear A140
            by_cases c15 : t177 = true
            · subst c15
              have H1 : ((spec_IsCoef.f a2).bind fun t178 => (laws_FnQuadFactors.j1 kj4 a0 a1 a2 x9_4 (!t178))) = some r := by rw [if_pos rfl] at H; exact H
              clear H
              have H := H1
              clear H1
              replace H := Option.bind_eq_some_iff.mp H
              obtain ⟨t178, A160, H⟩ := H
              replace H : (laws_FnQuadFactors.j1 kj4 a0 a1 a2 x9_4 (!t178)) = some r := H
              have A16 := Aside0.mk A160
              clear A160
              have H' := Aside0.mk H
              clear H
              go_wp2_with (first | (go_at_call 7; (with_reducible refine (spec_IsCoef.calls a0 true _ A12.out).mono ?_); rintro e w' ⟨rfl, ⟨nd, rfl⟩⟩; (try first | exact ⟨rfl, _, World.drewN_drewN _ _ _⟩ | exact ⟨rfl, _, Eq.trans (World.drewN_drewN _ _ _) (congrArg (World.drewN _) (Nat.add_assoc _ _ _))⟩)) | (go_at_call 7; (with_reducible refine (spec_IsCoef.calls a1 true _ A14.out).mono ?_); rintro e w' ⟨rfl, ⟨nd, rfl⟩⟩; (try first | exact ⟨rfl, _, World.drewN_drewN _ _ _⟩ | exact ⟨rfl, _, Eq.trans (World.drewN_drewN _ _ _) (congrArg (World.drewN _) (Nat.add_assoc _ _ _))⟩)) | (go_at_call 7; (with_reducible refine (spec_IsCoef.calls a2 t178 _ A16.out).mono ?_); rintro e w' ⟨rfl, ⟨nd, rfl⟩⟩; (try first | exact ⟨rfl, _, World.drewN_drewN _ _ _⟩ | exact ⟨rfl, _, Eq.trans (World.drewN_drewN _ _ _) (congrArg (World.drewN _) (Nat.add_assoc _ _ _))⟩)))
              repeat (go_quiet (first | (go_at_call 7; (with_reducible refine (spec_IsCoef.calls a0 true _ A12.out).mono ?_); rintro e w' ⟨rfl, ⟨nd, rfl⟩⟩; (try first | exact ⟨rfl, _, World.drewN_drewN _ _ _⟩ | exact ⟨rfl, _, Eq.trans (World.drewN_drewN _ _ _) (congrArg (World.drewN _) (Nat.add_assoc _ _ _))⟩)) | (go_at_call 7; (with_reducible refine (spec_IsCoef.calls a1 true _ A14.out).mono ?_); rintro e w' ⟨rfl, ⟨nd, rfl⟩⟩; (try first | exact ⟨rfl, _, World.drewN_drewN _ _ _⟩ | exact ⟨rfl, _, Eq.trans (World.drewN_drewN _ _ _) (congrArg (World.drewN _) (Nat.add_assoc _ _ _))⟩)) | (go_at_call 7; (with_reducible refine (spec_IsCoef.calls a2 t178 _ A16.out).mono ?_); rintro e w' ⟨rfl, ⟨nd, rfl⟩⟩; (try first | exact ⟨rfl, _, World.drewN_drewN _ _ _⟩ | exact ⟨rfl, _, Eq.trans (World.drewN_drewN _ _ _) (congrArg (World.drewN _) (Nat.add_assoc _ _ _))⟩))); try go_wp2_with (first | (go_at_call 7; (with_reducible refine (spec_IsCoef.calls a0 true _ A12.out).mono ?_); rintro e w' ⟨rfl, ⟨nd, rfl⟩⟩; (try first | exact ⟨rfl, _, World.drewN_drewN _ _ _⟩ | exact ⟨rfl, _, Eq.trans (World.drewN_drewN _ _ _) (congrArg (World.drewN _) (Nat.add_assoc _ _ _))⟩)) | (go_at_call 7; (with_reducible refine (spec_IsCoef.calls a1 true _ A14.out).mono ?_); rintro e w' ⟨rfl, ⟨nd, rfl⟩⟩; (try first | exact ⟨rfl, _, World.drewN_drewN _ _ _⟩ | exact ⟨rfl, _, Eq.trans (World.drewN_drewN _ _ _) (congrArg (World.drewN _) (Nat.add_assoc _ _ _))⟩)) | (go_at_call 7; (with_reducible refine (spec_IsCoef.calls a2 t178 _ A16.out).mono ?_); rintro e w' ⟨rfl, ⟨nd, rfl⟩⟩; (try first | exact ⟨rfl, _, World.drewN_drewN _ _ _⟩ | exact ⟨rfl, _, Eq.trans (World.drewN_drewN _ _ _) (congrArg (World.drewN _) (Nat.add_assoc _ _ _))⟩))))
              go_meet
              case rel => exact ⟨_, (!t178), (by first | rfl | (simp; done) | (simp [*]; done)), H', ⟨by have := HJ4.out; first | omega | exact Nat.le_refl _⟩, ⟨by repeat (first | (with_reducible first | exact HB.out | apply below_alloc | apply pw_below_drewN | apply below_drew1) | exact HB.out)⟩⟩
            · replace c15 := Bool.eq_false_iff.mpr c15
              subst c15
              have H1 : (laws_FnQuadFactors.j1 kj4 a0 a1 a2 x9_4 true) = some r := by rw [if_neg (show ¬ (false = true) by decide)] at H; exact H
              clear H
              have H := H1
              clear H1
              have H' := Aside0.mk H
              clear H
              go_wp2_with (first | (go_at_call 7; (with_reducible refine (spec_IsCoef.calls a0 true _ A12.out).mono ?_); rintro e w' ⟨rfl, ⟨nd, rfl⟩⟩; (try first | exact ⟨rfl, _, World.drewN_drewN _ _ _⟩ | exact ⟨rfl, _, Eq.trans (World.drewN_drewN _ _ _) (congrArg (World.drewN _) (Nat.add_assoc _ _ _))⟩)) | (go_at_call 7; (with_reducible refine (spec_IsCoef.calls a1 false _ A14.out).mono ?_); rintro e w' ⟨rfl, ⟨nd, rfl⟩⟩; (try first | exact ⟨rfl, _, World.drewN_drewN _ _ _⟩ | exact ⟨rfl, _, Eq.trans (World.drewN_drewN _ _ _) (congrArg (World.drewN _) (Nat.add_assoc _ _ _))⟩)))
              repeat (go_quiet (first | (go_at_call 7; (with_reducible refine (spec_IsCoef.calls a0 true _ A12.out).mono ?_); rintro e w' ⟨rfl, ⟨nd, rfl⟩⟩; (try first | exact ⟨rfl, _, World.drewN_drewN _ _ _⟩ | exact ⟨rfl, _, Eq.trans (World.drewN_drewN _ _ _) (congrArg (World.drewN _) (Nat.add_assoc _ _ _))⟩)) | (go_at_call 7; (with_reducible refine (spec_IsCoef.calls a1 false _ A14.out).mono ?_); rintro e w' ⟨rfl, ⟨nd, rfl⟩⟩; (try first | exact ⟨rfl, _, World.drewN_drewN _ _ _⟩ | exact ⟨rfl, _, Eq.trans (World.drewN_drewN _ _ _) (congrArg (World.drewN _) (Nat.add_assoc _ _ _))⟩))); try go_wp2_with (first | (go_at_call 7; (with_reducible refine (spec_IsCoef.calls a0 true _ A12.out).mono ?_); rintro e w' ⟨rfl, ⟨nd, rfl⟩⟩; (try first | exact ⟨rfl, _, World.drewN_drewN _ _ _⟩ | exact ⟨rfl, _, Eq.trans (World.drewN_drewN _ _ _) (congrArg (World.drewN _) (Nat.add_assoc _ _ _))⟩)) | (go_at_call 7; (with_reducible refine (spec_IsCoef.calls a1 false _ A14.out).mono ?_); rintro e w' ⟨rfl, ⟨nd, rfl⟩⟩; (try first | exact ⟨rfl, _, World.drewN_drewN _ _ _⟩ | exact ⟨rfl, _, Eq.trans (World.drewN_drewN _ _ _) (congrArg (World.drewN _) (Nat.add_assoc _ _ _))⟩))))
              go_meet
              case rel => exact ⟨_, (true), (by first | rfl | (simp; done) | (simp [*]; done)), H', ⟨by have := HJ4.out; first | omega | exact Nat.le_refl _⟩, ⟨by repeat (first | (with_reducible first | exact HB.out | apply below_alloc | apply pw_below_drewN | apply below_drew1) | exact HB.out)⟩⟩
          · replace c13 := Bool.eq_false_iff.mpr c13
            subst c13
            have H1 : (laws_FnQuadFactors.j1 kj4 a0 a1 a2 x9_4 true) = some r := by rw [if_neg (show ¬ (false = true) by decide)] at H; exact H
            clear H
            have H := H1
            clear H1
            have H' := Aside0.mk H
            clear H
            go_wp2_with (first | (go_at_call 7; (with_reducible refine (spec_IsCoef.calls a0 false _ A12.out).mono ?_); rintro e w' ⟨rfl, ⟨nd, rfl⟩⟩; (try first | exact ⟨rfl, _, World.drewN_drewN _ _ _⟩ | exact ⟨rfl, _, Eq.trans (World.drewN_drewN _ _ _) (congrArg (World.drewN _) (Nat.add_assoc _ _ _))⟩)))
            repeat (go_quiet (first | (go_at_call 7; (with_reducible refine (spec_IsCoef.calls a0 false _ A12.out).mono ?_); rintro e w' ⟨rfl, ⟨nd, rfl⟩⟩; (try first | exact ⟨rfl, _, World.drewN_drewN _ _ _⟩ | exact ⟨rfl, _, Eq.trans (World.drewN_drewN _ _ _) (congrArg (World.drewN _) (Nat.add_assoc _ _ _))⟩))); try go_wp2_with (first | (go_at_call 7; (with_reducible refine (spec_IsCoef.calls a0 false _ A12.out).mono ?_); rintro e w' ⟨rfl, ⟨nd, rfl⟩⟩; (try first | exact ⟨rfl, _, World.drewN_drewN _ _ _⟩ | exact ⟨rfl, _, Eq.trans (World.drewN_drewN _ _ _) (congrArg (World.drewN _) (Nat.add_assoc _ _ _))⟩))))
            go_meet
            case rel => exact ⟨_, (true), (by first | rfl | (simp; done) | (simp [*]; done)), H', ⟨by have := HJ4.out; first | omega | exact Nat.le_refl _⟩, ⟨by repeat (first | (with_reducible first | exact HB.out | apply below_alloc | apply pw_below_drewN | apply below_drew1) | exact HB.out)⟩⟩
      case rest =>
        clear HC10
        try clear c1
        try clear p2
        try clear c4
        try clear c7
        try clear c8
        try clear c8b0
        try clear c8b1
        try clear c11
        try clear c11b0
        try clear c11b1
        try clear c13
        try clear c15
        try clear p2
        obtain ⟨kq, x47_9, rfl, HA, HJ9, HB⟩ := hcut
        cases kq with
        | zero => exact absurd HA.out (by simp [laws_FnQuadFactors.j1])
        | succ kj9 =>
          have H := HA.out
          clear HA
          simp only [laws_FnQuadFactors.j1] at H
          by_cases c17 : x47_9 = true
          · subst c17
            have H1 : (some x9_4) = some r := by rw [if_pos rfl] at H; exact H
            clear H
            have H := H1
            clear H1
            obtain rfl := Option.some.inj H
            go_wp2
            repeat (go_quiet (fail); try go_wp2)
            go_ret
            exact ⟨by first | rfl | (simp [errW_none, errW_some] <;> rfl) | (simp [*, errW_none, errW_some] <;> rfl), by repeat (first | (with_reducible first | exact HB.out | apply below_alloc | apply pw_below_drewN | apply below_drew1) | exact HB.out)⟩
          · replace c17 := Bool.eq_false_iff.mpr c17
            subst c17
            have H1 : ((impl_QuadFactors.f kj9 a0 a1 a2).bind fun bt179 => (if (wrap64 ((wrap64 (a1 * a1)) - (wrap64 ((wrap64 (4 * a0)) * a2)))) < 0 then (laws_FnQuadFactors.j2 kj9 a0 a1 a2 x9_4 bt179.1 bt179.2.1 bt179.2.2 true) else ((spec_Root.f kj9 (wrap64 ((wrap64 (a1 * a1)) - (wrap64 ((wrap64 (4 * a0)) * a2))))).bind fun t184 => (laws_FnQuadFactors.j2 kj9 a0 a1 a2 x9_4 bt179.1 bt179.2.1 bt179.2.2 (decide (t184 < 0)))))) = some r := by rw [if_neg (show ¬ (false = true) by decide)] at H; exact H
            clear H
            have H := H1
            clear H1
            replace H := Option.bind_eq_some_iff.mp H
            obtain ⟨⟨t179, t180, t181⟩, A180, H⟩ := H
            replace H : (if (wrap64 ((wrap64 (a1 * a1)) - (wrap64 ((wrap64 (4 * a0)) * a2)))) < 0 then (laws_FnQuadFactors.j2 kj9 a0 a1 a2 x9_4 t179 t180 t181 true) else ((spec_Root.f kj9 (wrap64 ((wrap64 (a1 * a1)) - (wrap64 ((wrap64 (4 * a0)) * a2))))).bind fun t184 => (laws_FnQuadFactors.j2 kj9 a0 a1 a2 x9_4 t179 t180 t181 (decide (t184 < 0))))) = some r := H
            have A18 := Aside0.mk A180
            clear A180
            have HC19 := Aside0.mk H
            clear H
            go_upto_region 7 with (first | (go_at_call 9; (with_reducible refine (impl_QuadFactors.calls kj9 a0 a1 a2 t179 t180 t181 _ ?sideT A18.out).mono ?_); (case sideT => exact ⟨QpdC.tabs_below HT (by repeat (first | (with_reducible first | exact HB.out | apply below_alloc | apply pw_below_drewN | apply below_drew1) | exact HB.out))⟩); rintro e w20 ⟨v182, rfl, ho0, hb⟩; have n0_ := Aside0.mk (Kd.S_lower ho0 (below_size (by repeat (first | (with_reducible first | exact HB.out | apply below_alloc | apply pw_below_drewN | apply below_drew1) | exact HB.out)))); have n1_ := Aside0.mk (below_step (by repeat (first | (with_reducible first | exact HB.out | apply below_alloc | apply pw_below_drewN | apply below_drew1) | exact HB.out)) hb); clear HB; have HO183 := n0_; have HB := n1_; clear n0_ n1_; (try clear hb); (try clear hb2); (try clear hk); (try clear hi); (try clear ho0)))
            repeat (go_quiet (first | (go_at_call 9; (with_reducible refine (impl_QuadFactors.calls kj9 a0 a1 a2 t179 t180 t181 _ ?sideT A18.out).mono ?_); (case sideT => exact ⟨QpdC.tabs_below HT (by repeat (first | (with_reducible first | exact HB.out | apply below_alloc | apply pw_below_drewN | apply below_drew1) | exact HB.out))⟩); rintro e w20 ⟨v182, rfl, ho0, hb⟩; have n0_ := Aside0.mk (Kd.S_lower ho0 (below_size (by repeat (first | (with_reducible first | exact HB.out | apply below_alloc | apply pw_below_drewN | apply below_drew1) | exact HB.out)))); have n1_ := Aside0.mk (below_step (by repeat (first | (with_reducible first | exact HB.out | apply below_alloc | apply pw_below_drewN | apply below_drew1) | exact HB.out)) hb); clear HB; have HO183 := n0_; have HB := n1_; clear n0_ n1_; (try clear hb); (try clear hb2); (try clear hk); (try clear hi); (try clear ho0))); go_upto_region 7 with (first | (go_at_call 9; (with_reducible refine (impl_QuadFactors.calls kj9 a0 a1 a2 t179 t180 t181 _ ?sideT A18.out).mono ?_); (case sideT => exact ⟨QpdC.tabs_below HT (by repeat (first | (with_reducible first | exact HB.out | apply below_alloc | apply pw_below_drewN | apply below_drew1) | exact HB.out))⟩); rintro e w20 ⟨v182, rfl, ho0, hb⟩; have n0_ := Aside0.mk (Kd.S_lower ho0 (below_size (by repeat (first | (with_reducible first | exact HB.out | apply below_alloc | apply pw_below_drewN | apply below_drew1) | exact HB.out)))); have n1_ := Aside0.mk (below_step (by repeat (first | (with_reducible first | exact HB.out | apply below_alloc | apply pw_below_drewN | apply below_drew1) | exact HB.out)) hb); clear HB; have HO183 := n0_; have HB := n1_; clear n0_ n1_; (try clear hb); (try clear hb2); (try clear hk); (try clear hi); (try clear ho0))))
            (try simp only [Act.put, List.setIfInBounds_toArray, List.set_cons_zero, List.set_cons_succ])
            go_cut [71] (fun v71 wc => ∃ (kq : Nat) (x71_18 : Bool), v71 = .bool x71_18 ∧ Aside0 (laws_FnQuadFactors.j2 kq a0 a1 a2 x9_4 t179 t180 t181 x71_18 = some r) ∧ Aside0 (kq ≤ kj9) ∧ Aside0 (Kd.S (Kd.slice 3 (Kd.int .i64)) 30 wc w.heap.size (fun _ => True) v182 t180) ∧ Aside0 (Below w.heap.size w wc))
            case first =>
              have H := HC19.out
              clear HC19
              by_cases c21 : (wrap64 ((wrap64 (a1 * a1)) - (wrap64 ((wrap64 (4 * a0)) * a2)))) < 0
              · rw [if_pos c21] at H
                have c21b0 : decide ((wrap64 ((wrap64 (a1 * a1)) - (wrap64 ((wrap64 (4 * a0)) * a2)))) < 0) = true := decide_eq_true c21
                clear c21
                (first | rw [c21b0] | (simp only [i64_w, i32_w]; rw [c21b0]) | skip)
                have H' := Aside0.mk H
                clear H
                go_wp2
                repeat (go_quiet (fail); try go_wp2)
                go_meet
                case rel => exact ⟨_, (true), (by first | rfl | (simp; done) | (simp [*]; done)), H', ⟨by have := HJ4.out; have := HJ9.out; first | omega | exact Nat.le_refl _⟩, ⟨by (with_reducible repeat (first | apply Kd.S_alloc | apply Kd.S_drewN | apply Kd.S_drew)); exact HO183.out⟩, ⟨by repeat (first | (with_reducible first | exact HB.out | apply below_alloc | apply pw_below_drewN | apply below_drew1) | exact HB.out)⟩⟩
              · rw [if_neg c21] at H
                have c21b0 : decide ((wrap64 ((wrap64 (a1 * a1)) - (wrap64 ((wrap64 (4 * a0)) * a2)))) < 0) = false := decide_eq_false c21
                clear c21
                (first | rw [c21b0] | (simp only [i64_w, i32_w]; rw [c21b0]) | skip)
                replace H := Option.bind_eq_some_iff.mp H
                obtain ⟨t184, A220, H⟩ := H
                replace H : (laws_FnQuadFactors.j2 kj9 a0 a1 a2 x9_4 t179 t180 t181 (decide (t184 < 0))) = some r := H
                have A22 := Aside0.mk A220
                clear A220
                have H' := Aside0.mk H
                clear H
                go_wp2_with (first | (go_at_call 8; (with_reducible refine (spec_Root.calls kj9 (wrap64 ((wrap64 (a1 * a1)) - (wrap64 ((wrap64 (4 * a0)) * a2)))) t184 _ A22.out).mono ?_); rintro e w' ⟨rfl, ⟨nd, rfl⟩⟩; (try first | exact ⟨rfl, _, World.drewN_drewN _ _ _⟩ | exact ⟨rfl, _, Eq.trans (World.drewN_drewN _ _ _) (congrArg (World.drewN _) (Nat.add_assoc _ _ _))⟩)))
                repeat (go_quiet (first | (go_at_call 8; (with_reducible refine (spec_Root.calls kj9 (wrap64 ((wrap64 (a1 * a1)) - (wrap64 ((wrap64 (4 * a0)) * a2)))) t184 _ A22.out).mono ?_); rintro e w' ⟨rfl, ⟨nd, rfl⟩⟩; (try first | exact ⟨rfl, _, World.drewN_drewN _ _ _⟩ | exact ⟨rfl, _, Eq.trans (World.drewN_drewN _ _ _) (congrArg (World.drewN _) (Nat.add_assoc _ _ _))⟩))); try go_wp2_with (first | (go_at_call 8; (with_reducible refine (spec_Root.calls kj9 (wrap64 ((wrap64 (a1 * a1)) - (wrap64 ((wrap64 (4 * a0)) * a2)))) t184 _ A22.out).mono ?_); rintro e w' ⟨rfl, ⟨nd, rfl⟩⟩; (try first | exact ⟨rfl, _, World.drewN_drewN _ _ _⟩ | exact ⟨rfl, _, Eq.trans (World.drewN_drewN _ _ _) (congrArg (World.drewN _) (Nat.add_assoc _ _ _))⟩))))
                go_meet
                case rel => exact ⟨_, (decide (t184 < 0)), (by first | rfl | (simp; done) | (simp [*]; done)), H', ⟨by have := HJ4.out; have := HJ9.out; first | omega | exact Nat.le_refl _⟩, ⟨by (with_reducible repeat (first | apply Kd.S_alloc | apply Kd.S_drewN | apply Kd.S_drew)); exact HO183.out⟩, ⟨by repeat (first | (with_reducible first | exact HB.out | apply below_alloc | apply pw_below_drewN | apply below_drew1) | exact HB.out)⟩⟩
            case rest =>
              clear HC19
              try clear c1
              try clear c2
              try clear p2
              try clear c4
              try clear p6
              try clear c7
              try clear c8
              try clear c8b0
              try clear c8b1
              try clear c11
              try clear c11b0
              try clear c11b1
              try clear c13
              try clear c15
              try clear c17
              try clear c21
              try clear c21b0
              try clear p2
              obtain ⟨kq, x71_18, rfl, HA, HJ18, HO_11, HB⟩ := hcut
              cases kq with
              | zero => exact absurd HA.out (by simp [laws_FnQuadFactors.j2])
              | succ kj18 =>
                have H := HA.out
                clear HA
                simp only [laws_FnQuadFactors.j2] at H
                by_cases c23 : x71_18 = true
                · subst c23
                  have H1 : (if x9_4 = true then (if t181 = true then (if t179 = 0 then (some ((t180.length : Int) == 0)) else (some false)) else (some false)) else (some false)) = some r := by rw [if_pos rfl] at H; exact H
                  clear H
                  have H := H1
                  clear H1
                  by_cases c24 : x9_4 = true
                  · subst c24
                    have H1 : (if t181 = true then (if t179 = 0 then (some ((t180.length : Int) == 0)) else (some false)) else (some false)) = some r := by rw [if_pos rfl] at H; exact H
                    clear H
                    have H := H1
                    clear H1
                    by_cases c25 : t181 = true
                    · subst c25
                      have H1 : (if t179 = 0 then (some ((t180.length : Int) == 0)) else (some false)) = some r := by rw [if_pos rfl] at H; exact H
                      clear H
                      have H := H1
                      clear H1
                      by_cases c26 : t179 = 0
                      · rw [if_pos c26] at H
                        have c26b0 : (t179 == 0) = true := beq_iff_eq.mpr c26
                        have c26b1 : (t179 != 0) = false := bne_eq_false_iff_eq.mpr c26
                        clear c26
                        obtain rfl := Option.some.inj H
                        obtain ⟨Ao27, co27, eo27⟩ := Kd.S_slice HO_11.out
                        subst eo27
                        go_wp2
                        repeat (go_quiet (fail); try go_wp2)
                        go_ret
                        exact ⟨by first | rfl | (simp [errW_none, errW_some] <;> rfl) | (simp [*, errW_none, errW_some] <;> rfl), by repeat (first | (with_reducible first | exact HB.out | apply below_alloc | apply pw_below_drewN | apply below_drew1) | exact HB.out)⟩
                      · rw [if_neg c26] at H
                        have c26b0 : (t179 == 0) = false := beq_eq_false_iff_ne.mpr c26
                        have c26b1 : (t179 != 0) = true := bne_iff_ne.mpr c26
                        obtain rfl := Option.some.inj H
                        go_wp2
                        repeat (go_quiet (fail); try go_wp2)
                        go_ret
                        exact ⟨by first | rfl | (simp [errW_none, errW_some] <;> rfl) | (simp [*, errW_none, errW_some] <;> rfl), by repeat (first | (with_reducible first | exact HB.out | apply below_alloc | apply pw_below_drewN | apply below_drew1) | exact HB.out)⟩
                    · replace c25 := Bool.eq_false_iff.mpr c25
                      subst c25
                      have H1 : (some false) = some r := by rw [if_neg (show ¬ (false = true) by decide)] at H; exact H
                      clear H
                      have H := H1
                      clear H1
                      obtain rfl := Option.some.inj H
                      go_wp2
                      repeat (go_quiet (fail); try go_wp2)
                      go_ret
                      exact ⟨by first | rfl | (simp [errW_none, errW_some] <;> rfl) | (simp [*, errW_none, errW_some] <;> rfl), by repeat (first | (with_reducible first | exact HB.out | apply below_alloc | apply pw_below_drewN | apply below_drew1) | exact HB.out)⟩
                  · replace c24 := Bool.eq_false_iff.mpr c24
                    subst c24
                    have H1 : (some false) = some r := by rw [if_neg (show ¬ (false = true) by decide)] at H; exact H
                    clear H
                    have H := H1
                    clear H1
                    obtain rfl := Option.some.inj H
                    go_wp2
                    repeat (go_quiet (fail); try go_wp2)
                    go_ret
                    exact ⟨by first | rfl | (simp [errW_none, errW_some] <;> rfl) | (simp [*, errW_none, errW_some] <;> rfl), by repeat (first | (with_reducible first | exact HB.out | apply below_alloc | apply pw_below_drewN | apply below_drew1) | exact HB.out)⟩
                · replace c23 := Bool.eq_false_iff.mpr c23
                  subst c23
                  have H1 : (laws_FnQuadFactors.l0 kj18 a0 a1 a2 x9_4 t179 t180 t181 t180 (t180.length : Int) 0) = some r := by rw [if_neg (show ¬ (false = true) by decide)] at H; exact H
                  clear H
                  have H := H1
                  clear H1
                  have H' := Aside0.mk H
                  clear H
                  obtain ⟨Ao28, co28, eo28⟩ := Kd.S_slice HO_11.out
                  subst eo28
                  go_wp2
                  repeat (go_quiet (fail); try go_wp2)
                  go_loopg [87] kj18 (fun kq v87 w' => ∃ (x87_4 : Int), v87 = .int .i64 x87_4 ∧ Aside0 (laws_FnQuadFactors.l0 kq a0 a1 a2 x9_4 t179 t180 t181 t180 (t180.length : Int) x87_4 = some r) ∧ Aside0 (kq ≤ kj18) ∧ Aside0 (Kd.S (Kd.slice 3 (Kd.int .i64)) 30 w' w.heap.size (fun _ => True) (.slice Ao28 t180.length co28) t180) ∧ Aside0 (Kd.S (Kd.slice 3 (Kd.int .i64)) 30 w' w.heap.size (fun _ => True) (.slice Ao28 t180.length co28) t180) ∧ Aside0 (Below w.heap.size w w'))
                  case atStart => exact ⟨(0), (by first | rfl | (simp; done) | (simp [*]; done)), H', ⟨Nat.le_refl _⟩, ⟨by (with_reducible repeat (first | apply Kd.S_alloc | apply Kd.S_drewN | apply Kd.S_drew)); exact HO_11.out⟩, ⟨by (with_reducible repeat (first | apply Kd.S_alloc | apply Kd.S_drewN | apply Kd.S_drew)); exact HO_11.out⟩, ⟨by repeat (first | (with_reducible first | exact HB.out | apply below_alloc | apply pw_below_drewN | apply below_drew1) | exact HB.out)⟩⟩
                  case round =>
                    clear H'
                    try clear c1
                    try clear c2
                    try clear p2
                    try clear c4
                    try clear p6
                    try clear c7
                    try clear c8
                    try clear c8b0
                    try clear c8b1
                    try clear c11
                    try clear c11b0
                    try clear c11b1
                    try clear c13
                    try clear c15
                    try clear c17
                    try clear c21
                    try clear c21b0
                    try clear c23
                    try clear c24
                    try clear c25
                    try clear c26
                    try clear c26b0
                    try clear c26b1
                    try clear p2
                    try clear p6
                    obtain ⟨x87_4, rfl, HA, HK4, HO_11, HO_85, HB⟩ := hrel
                    cases gk with
                    | zero => exact absurd HA.out (by simp [laws_FnQuadFactors.l0])
                    | succ k4 =>
                      have H := HA.out
                      clear HA
                      simp only [laws_FnQuadFactors.l0] at H
                      by_cases c29 : x87_4 < (t180.length : Int)
                      · rw [if_pos c29] at H
                        have c29b0 : decide (x87_4 < (t180.length : Int)) = true := decide_eq_true c29
                        clear c29
                        by_cases c30 : 0 ≤ x87_4
                        · rw [if_pos c30] at H
                          have c30b0 : decide (0 ≤ x87_4) = true := decide_eq_true c30
                          clear c30
                          by_cases c31 : x87_4 < (t180.length : Int)
                          · rw [if_pos c31] at H
                            have c31b0 : decide (x87_4 < (t180.length : Int)) = true := decide_eq_true c31
                            clear c31
                            by_cases c32 : ((rd_L2 t180 x87_4).length : Int) = 2
                            · rw [if_pos c32] at H
                              have c32b0 : (((rd_L2 t180 x87_4).length : Int) == 2) = true := beq_iff_eq.mpr c32
                              have c32b1 : (((rd_L2 t180 x87_4).length : Int) != 2) = false := bne_eq_false_iff_eq.mpr c32
                              clear c32
                              by_cases c33 : 0 < ((rd_L2 t180 x87_4).length : Int)
                              · rw [if_pos c33] at H
                                have c33b0 : decide (0 < ((rd_L2 t180 x87_4).length : Int)) = true := decide_eq_true c33
                                have c33b1 : decide (0 < (rd_L2 t180 x87_4).length) = true := decide_eq_true (by omega)
                                clear c33
                                by_cases c34 : 1 < ((rd_L2 t180 x87_4).length : Int)
                                · rw [if_pos c34] at H
                                  have c34b0 : decide (1 < ((rd_L2 t180 x87_4).length : Int)) = true := decide_eq_true c34
                                  have c34b1 : decide (1 < (rd_L2 t180 x87_4).length) = true := decide_eq_true (by omega)
                                  clear c34
                                  replace H := Option.bind_eq_some_iff.mp H
                                  obtain ⟨t188, A350, H⟩ := H
                                  replace H : (if t188 = 1 then (laws_FnQuadFactors.l0 k4 a0 a1 a2 x9_4 t179 t180 t181 t180 (t180.length : Int) (wrap64 (x87_4 + 1))) else (some false)) = some r := H
                                  have A35 := Aside0.mk A350
                                  clear A350
                                  by_cases c36 : t188 = 1
                                  · rw [if_pos c36] at H
                                    have c36b0 : (t188 == 1) = true := beq_iff_eq.mpr c36
                                    have c36b1 : (t188 != 1) = false := bne_eq_false_iff_eq.mpr c36
                                    clear c36
                                    have H' := Aside0.mk H
                                    clear H
                                    have p185 : 0 ≤ (x87_4 : Int) := of_decide_eq_true (by first | (with_reducible assumption) | assumption)
                                    have q185 : x87_4 < (t180.length : Int) := of_decide_eq_true (by first | (with_reducible assumption) | assumption)
                                    obtain ⟨ad185, A185_0, c185_0, e185, hx185_0, hl185_0, hi185_0⟩ := at_L2 (Kd.S_reads' HO_85.out).2.2 x87_4 p185 q185
                                    cases e185
                                    obtain ⟨ce185, hce185, hMe185, hcc185⟩ := Kd.S_get HO_85.out [] x87_4 p185 (by first | exact q185 | exact of_decide_eq_true (by first | (with_reducible assumption) | assumption) | (have e_ := (Kd.S_reads' HO_85.out).1; omega))
                                    obtain ⟨ve185_0, rfl, ge185_0⟩ := hMe185
                                    have hv185_0 := hcc185 0 _ rfl
                                    rw [Nat.add_zero, show ((Kd.slice 3 (Kd.int .i64))).sz = 1 from rfl, Nat.mul_one] at hv185_0
                                    replace hv185_0 := Option.some.inj (hv185_0.symm.trans hx185_0)
                                    rw [hv185_0] at ge185_0
                                    have HL185_0 := Aside0.mk (show Kd.R (Kd.int .i64) 3 _ _ _ _ (rd_L2 t180 x87_4) from ge185_0)
                                    clear hv185_0 ge185_0
                                    clear hcc185 hce185
                                    have HR185_0 := Aside0.mk hi185_0
                                    have HC185_0 := Aside0.mk hl185_0
                                    clear hi185_0 hl185_0
                                    replace p185 := eq_true p185
                                    replace q185 := eq_true q185
                                    have p186 : 0 ≤ (0 : Int) := (by omega)
                                    have q186 : 0 < ((rd_L2 t180 x87_4).length : Int) := of_decide_eq_true (by first | (with_reducible assumption) | assumption)
                                    obtain ⟨ad186, e186, hx186_0⟩ := Kd.at_int (by repeat (first | (with_reducible exact HR185_0.out) | (with_reducible refine Kd.C_alloc ?_ _) | (with_reducible refine Kd.C_drewN ?_ _) | (with_reducible refine Kd.C_drew ?_) | exact HR185_0.out)) 0 p186 q186
                                    cases e186
                                    have qi186 : (0 < (rd_L2 t180 x87_4).length) = True := eq_true (by omega)
                                    (try rw [show ((0 : Int)).toNat = 0 from rfl] at hx186_0)
                                    (try rw [Addr.add_zero'] at hx186_0)
                                    replace p186 := eq_true p186
                                    replace q186 := eq_true q186
                                    have p187 : 0 ≤ (1 : Int) := (by omega)
                                    have q187 : 1 < ((rd_L2 t180 x87_4).length : Int) := of_decide_eq_true (by first | (with_reducible assumption) | assumption)
                                    obtain ⟨ad187, e187, hx187_0⟩ := Kd.at_int (by repeat (first | (with_reducible exact HR185_0.out) | (with_reducible refine Kd.C_alloc ?_ _) | (with_reducible refine Kd.C_drewN ?_ _) | (with_reducible refine Kd.C_drew ?_) | exact HR185_0.out)) 1 p187 q187
                                    obtain rfl : ad186 = ad187 := (by injection e187)
                                    (try simp only [show (1 : Int).toNat = 1 from rfl, Nat.reduceMul, Nat.reduceEqDiff, Go.Addr.add, ↓reduceIte] at hx187_0)
                                    have qi187 : (1 < (rd_L2 t180 x87_4).length) = True := eq_true (by omega)
                                    (try rw [show ((1 : Int)).toNat = 1 from rfl] at hx187_0)
                                    replace p187 := eq_true p187
                                    replace q187 := eq_true q187
                                    go_wp2_with (first | (go_at_call 10; (with_reducible refine (spec_Divisor.calls k4 (rd (rd_L2 t180 x87_4) 0) (rd (rd_L2 t180 x87_4) 1) t188 _ A35.out).mono ?_); rintro e w' ⟨rfl, ⟨nd, rfl⟩⟩; (try first | exact ⟨rfl, _, World.drewN_drewN _ _ _⟩ | exact ⟨rfl, _, Eq.trans (World.drewN_drewN _ _ _) (congrArg (World.drewN _) (Nat.add_assoc _ _ _))⟩)))
                                    repeat (go_quiet (first | (go_at_call 10; (with_reducible refine (spec_Divisor.calls k4 (rd (rd_L2 t180 x87_4) 0) (rd (rd_L2 t180 x87_4) 1) t188 _ A35.out).mono ?_); rintro e w' ⟨rfl, ⟨nd, rfl⟩⟩; (try first | exact ⟨rfl, _, World.drewN_drewN _ _ _⟩ | exact ⟨rfl, _, Eq.trans (World.drewN_drewN _ _ _) (congrArg (World.drewN _) (Nat.add_assoc _ _ _))⟩))); try go_wp2_with (first | (go_at_call 10; (with_reducible refine (spec_Divisor.calls k4 (rd (rd_L2 t180 x87_4) 0) (rd (rd_L2 t180 x87_4) 1) t188 _ A35.out).mono ?_); rintro e w' ⟨rfl, ⟨nd, rfl⟩⟩; (try first | exact ⟨rfl, _, World.drewN_drewN _ _ _⟩ | exact ⟨rfl, _, Eq.trans (World.drewN_drewN _ _ _) (congrArg (World.drewN _) (Nat.add_assoc _ _ _))⟩))))
                                    go_roundg k4
                                    case measure => have := HJ4.out; have := HJ9.out; have := HJ18.out; have := HK4.out; omega
                                    case rel => exact ⟨(wrap64 (x87_4 + 1)), (by first | rfl | (simp; done) | (simp [*]; done)), H', ⟨by have := HJ4.out; have := HJ9.out; have := HJ18.out; have := HK4.out; omega⟩, ⟨by (with_reducible repeat (first | apply Kd.S_alloc | apply Kd.S_drewN | apply Kd.S_drew)); exact HO_11.out⟩, ⟨by (with_reducible repeat (first | apply Kd.S_alloc | apply Kd.S_drewN | apply Kd.S_drew)); exact HO_85.out⟩, ⟨by repeat (first | (with_reducible first | exact HB.out | apply below_alloc | apply pw_below_drewN | apply below_drew1) | exact HB.out)⟩⟩
                                  · rw [if_neg c36] at H
                                    have c36b0 : (t188 == 1) = false := beq_eq_false_iff_ne.mpr c36
                                    have c36b1 : (t188 != 1) = true := bne_iff_ne.mpr c36
                                    obtain rfl := Option.some.inj H
                                    have p185 : 0 ≤ (x87_4 : Int) := of_decide_eq_true (by first | (with_reducible assumption) | assumption)
                                    have q185 : x87_4 < (t180.length : Int) := of_decide_eq_true (by first | (with_reducible assumption) | assumption)
                                    obtain ⟨ad185, A185_0, c185_0, e185, hx185_0, hl185_0, hi185_0⟩ := at_L2 (Kd.S_reads' HO_85.out).2.2 x87_4 p185 q185
                                    cases e185
                                    obtain ⟨ce185, hce185, hMe185, hcc185⟩ := Kd.S_get HO_85.out [] x87_4 p185 (by first | exact q185 | exact of_decide_eq_true (by first | (with_reducible assumption) | assumption) | (have e_ := (Kd.S_reads' HO_85.out).1; omega))
                                    obtain ⟨ve185_0, rfl, ge185_0⟩ := hMe185
                                    have hv185_0 := hcc185 0 _ rfl
                                    rw [Nat.add_zero, show ((Kd.slice 3 (Kd.int .i64))).sz = 1 from rfl, Nat.mul_one] at hv185_0
                                    replace hv185_0 := Option.some.inj (hv185_0.symm.trans hx185_0)
                                    rw [hv185_0] at ge185_0
                                    have HL185_0 := Aside0.mk (show Kd.R (Kd.int .i64) 3 _ _ _ _ (rd_L2 t180 x87_4) from ge185_0)
                                    clear hv185_0 ge185_0
                                    clear hcc185 hce185
                                    have HR185_0 := Aside0.mk hi185_0
                                    have HC185_0 := Aside0.mk hl185_0
                                    clear hi185_0 hl185_0
                                    replace p185 := eq_true p185
                                    replace q185 := eq_true q185
                                    have p186 : 0 ≤ (0 : Int) := (by omega)
                                    have q186 : 0 < ((rd_L2 t180 x87_4).length : Int) := of_decide_eq_true (by first | (with_reducible assumption) | assumption)
                                    obtain ⟨ad186, e186, hx186_0⟩ := Kd.at_int (by repeat (first | (with_reducible exact HR185_0.out) | (with_reducible refine Kd.C_alloc ?_ _) | (with_reducible refine Kd.C_drewN ?_ _) | (with_reducible refine Kd.C_drew ?_) | exact HR185_0.out)) 0 p186 q186
                                    cases e186
                                    have qi186 : (0 < (rd_L2 t180 x87_4).length) = True := eq_true (by omega)
                                    (try rw [show ((0 : Int)).toNat = 0 from rfl] at hx186_0)
                                    (try rw [Addr.add_zero'] at hx186_0)
                                    replace p186 := eq_true p186
                                    replace q186 := eq_true q186
                                    have p187 : 0 ≤ (1 : Int) := (by omega)
                                    have q187 : 1 < ((rd_L2 t180 x87_4).length : Int) := of_decide_eq_true (by first | (with_reducible assumption) | assumption)
                                    obtain ⟨ad187, e187, hx187_0⟩ := Kd.at_int (by repeat (first | (with_reducible exact HR185_0.out) | (with_reducible refine Kd.C_alloc ?_ _) | (with_reducible refine Kd.C_drewN ?_ _) | (with_reducible refine Kd.C_drew ?_) | exact HR185_0.out)) 1 p187 q187
                                    obtain rfl : ad186 = ad187 := (by injection e187)
                                    (try simp only [show (1 : Int).toNat = 1 from rfl, Nat.reduceMul, Nat.reduceEqDiff, Go.Addr.add, ↓reduceIte] at hx187_0)
                                    have qi187 : (1 < (rd_L2 t180 x87_4).length) = True := eq_true (by omega)
                                    (try rw [show ((1 : Int)).toNat = 1 from rfl] at hx187_0)
                                    replace p187 := eq_true p187
                                    replace q187 := eq_true q187
                                    go_wp2_with (first | (go_at_call 10; (with_reducible refine (spec_Divisor.calls k4 (rd (rd_L2 t180 x87_4) 0) (rd (rd_L2 t180 x87_4) 1) t188 _ A35.out).mono ?_); rintro e w' ⟨rfl, ⟨nd, rfl⟩⟩; (try first | exact ⟨rfl, _, World.drewN_drewN _ _ _⟩ | exact ⟨rfl, _, Eq.trans (World.drewN_drewN _ _ _) (congrArg (World.drewN _) (Nat.add_assoc _ _ _))⟩)))
                                    repeat (go_quiet (first | (go_at_call 10; (with_reducible refine (spec_Divisor.calls k4 (rd (rd_L2 t180 x87_4) 0) (rd (rd_L2 t180 x87_4) 1) t188 _ A35.out).mono ?_); rintro e w' ⟨rfl, ⟨nd, rfl⟩⟩; (try first | exact ⟨rfl, _, World.drewN_drewN _ _ _⟩ | exact ⟨rfl, _, Eq.trans (World.drewN_drewN _ _ _) (congrArg (World.drewN _) (Nat.add_assoc _ _ _))⟩))); try go_wp2_with (first | (go_at_call 10; (with_reducible refine (spec_Divisor.calls k4 (rd (rd_L2 t180 x87_4) 0) (rd (rd_L2 t180 x87_4) 1) t188 _ A35.out).mono ?_); rintro e w' ⟨rfl, ⟨nd, rfl⟩⟩; (try first | exact ⟨rfl, _, World.drewN_drewN _ _ _⟩ | exact ⟨rfl, _, Eq.trans (World.drewN_drewN _ _ _) (congrArg (World.drewN _) (Nat.add_assoc _ _ _))⟩))))
                                    go_ret
                                    exact ⟨by first | rfl | (simp [errW_none, errW_some] <;> rfl) | (simp [*, errW_none, errW_some] <;> rfl), by repeat (first | (with_reducible first | exact HB.out | apply below_alloc | apply pw_below_drewN | apply below_drew1) | exact HB.out)⟩
                                · rw [if_neg c34] at H
                                  exact absurd H (by simp)
                              · rw [if_neg c33] at H
                                exact absurd H (by simp)
                            · rw [if_neg c32] at H
                              have c32b0 : (((rd_L2 t180 x87_4).length : Int) == 2) = false := beq_eq_false_iff_ne.mpr c32
                              have c32b1 : (((rd_L2 t180 x87_4).length : Int) != 2) = true := bne_iff_ne.mpr c32
                              obtain rfl := Option.some.inj H
                              have p185 : 0 ≤ (x87_4 : Int) := of_decide_eq_true (by first | (with_reducible assumption) | assumption)
                              have q185 : x87_4 < (t180.length : Int) := of_decide_eq_true (by first | (with_reducible assumption) | assumption)
                              obtain ⟨ad185, A185_0, c185_0, e185, hx185_0, hl185_0, hi185_0⟩ := at_L2 (Kd.S_reads' HO_85.out).2.2 x87_4 p185 q185
                              cases e185
                              obtain ⟨ce185, hce185, hMe185, hcc185⟩ := Kd.S_get HO_85.out [] x87_4 p185 (by first | exact q185 | exact of_decide_eq_true (by first | (with_reducible assumption) | assumption) | (have e_ := (Kd.S_reads' HO_85.out).1; omega))
                              obtain ⟨ve185_0, rfl, ge185_0⟩ := hMe185
                              have hv185_0 := hcc185 0 _ rfl
                              rw [Nat.add_zero, show ((Kd.slice 3 (Kd.int .i64))).sz = 1 from rfl, Nat.mul_one] at hv185_0
                              replace hv185_0 := Option.some.inj (hv185_0.symm.trans hx185_0)
                              rw [hv185_0] at ge185_0
                              have HL185_0 := Aside0.mk (show Kd.R (Kd.int .i64) 3 _ _ _ _ (rd_L2 t180 x87_4) from ge185_0)
                              clear hv185_0 ge185_0
                              clear hcc185 hce185
                              have HR185_0 := Aside0.mk hi185_0
                              have HC185_0 := Aside0.mk hl185_0
                              clear hi185_0 hl185_0
                              replace p185 := eq_true p185
                              replace q185 := eq_true q185
                              go_wp2
                              repeat (go_quiet (fail); try go_wp2)
                              go_ret
                              exact ⟨by first | rfl | (simp [errW_none, errW_some] <;> rfl) | (simp [*, errW_none, errW_some] <;> rfl), by repeat (first | (with_reducible first | exact HB.out | apply below_alloc | apply pw_below_drewN | apply below_drew1) | exact HB.out)⟩
                          · rw [if_neg c31] at H
                            exact absurd H (by simp)
                        · rw [if_neg c30] at H
                          exact absurd H (by simp)
                      · rw [if_neg c29] at H
                        have c29b0 : decide (x87_4 < (t180.length : Int)) = false := decide_eq_false c29
                        clear c29
                        by_cases c37 : x9_4 = true
                        · subst c37
                          have H1 : (if t181 = true then (if (t180.length : Int) = 2 then ((spec_Multiplied.f k4 t179 t180).bind fun t189 => ((spec_Same.f k4 t189 (([a0, a1, a2] : List Int))).bind fun t195 => (some t195))) else (some false)) else (some false)) = some r := by rw [if_pos rfl] at H; exact H
                          clear H
                          have H := H1
                          clear H1
                          by_cases c38 : t181 = true
                          · subst c38
                            have H1 : (if (t180.length : Int) = 2 then ((spec_Multiplied.f k4 t179 t180).bind fun t189 => ((spec_Same.f k4 t189 (([a0, a1, a2] : List Int))).bind fun t195 => (some t195))) else (some false)) = some r := by rw [if_pos rfl] at H; exact H
                            clear H
                            have H := H1
                            clear H1
                            by_cases c39 : (t180.length : Int) = 2
                            · rw [if_pos c39] at H
                              have c39b0 : ((t180.length : Int) == 2) = true := beq_iff_eq.mpr c39
                              have c39b1 : ((t180.length : Int) != 2) = false := bne_eq_false_iff_eq.mpr c39
                              clear c39
                              replace H := Option.bind_eq_some_iff.mp H
                              obtain ⟨t189, A400, H⟩ := H
                              replace H : ((spec_Same.f k4 t189 (([a0, a1, a2] : List Int))).bind fun t195 => (some t195)) = some r := H
                              have A40 := Aside0.mk A400
                              clear A400
                              obtain ⟨y192, hy192⟩ : ∃ y_ : List Int, y_ = (([a0, a1, a2] : List Int)) := ⟨_, rfl⟩
                              replace H : ((spec_Same.f k4 t189 y192).bind fun t195 => (some t195)) = some r := by first | (rw [hy192]; with_reducible exact H) | (have H2_ := (Option.bind_some _ _).symm.trans H; rw [hy192]; with_reducible exact H2_) | (have H2_ := (Option.bind_some _ _).symm.trans H; with_reducible exact H2_) | with_reducible exact H | (rw [hy192]; exact H) | exact H
                              have Ny192 := Aside0.mk hy192
                              clear hy192
                              replace H := Option.bind_eq_some_iff.mp H
                              obtain ⟨t195, A410, H⟩ := H
                              replace H : (some t195) = some r := H
                              have A41 := Aside0.mk A410
                              clear A410
                              obtain rfl := Option.some.inj H
                              go_wp2_with (first | (go_at_call 12; (with_reducible refine (spec_Multiplied.calls k4 t179 _ _ t180 t189 _ ?side1 ?side2 A40.out).mono ?_); (case side1 => repeat (first | exact (Kd.S_reads' HO_11.out).2.2 | (with_reducible refine Kd.C_alloc ?_ _) | (with_reducible refine Kd.C_drewN ?_ _) | (with_reducible refine Kd.C_drew ?_))); (case side2 => exact (Kd.S_reads' HO_11.out).2.1); rintro e w42 ⟨v190, rfl, ho0, hb⟩; have n0_ := Aside0.mk (Kd.S_elder' (by (with_reducible repeat (first | apply Kd.S_alloc | apply Kd.S_drewN | apply Kd.S_drew)); exact HO_11.out) (Kd.R_base ho0) hb); have n1_ := Aside0.mk (Kd.S_elder' (by (with_reducible repeat (first | apply Kd.S_alloc | apply Kd.S_drewN | apply Kd.S_drew)); exact HO_85.out) (Kd.R_base ho0) hb); have n2_ := Aside0.mk (Kd.R_lower ho0 (below_size (by repeat (first | (with_reducible first | exact HB.out | apply below_alloc | apply pw_below_drewN | apply below_drew1) | exact HB.out)))); have n3_ := Aside0.mk (below_step (by repeat (first | (with_reducible first | exact HB.out | apply below_alloc | apply pw_below_drewN | apply below_drew1) | exact HB.out)) hb); clear HO_11; clear HO_85; clear HB; have HO_11 := n0_; have HO_85 := n1_; have HO191 := n2_; have HB := n3_; clear n0_ n1_ n2_ n3_; (try clear hb); (try clear hb2); (try clear hk); (try clear hi); (try clear ho0)) | ((with_reducible refine gate_dst (N := 121) rfl ?_); (try (refine gate_guard (by rfl) ?_; dsimp only)); refine Kd.R_lit (Kd.int .i64) _ 3 ?hg (N := 121) ?hd (xs := ([a0, a1, a2] : List Int)) (inner := [.int .i64 a0, .int .i64 a1, .int .i64 a2]) (ok := fun _ => True) (okp := fun _ => True) ?hr ?hp (fun _ hk => hk) trivial (Below.refl _ _) (Nat.le_refl _) (by simp) ?_; (case hd => rfl); (case hg => rfl); (case hr => first | (go_simp; done) | (go_simp; rfl)); (case hp => exact (Reps.one (show Kd.M (Kd.int .i64) _ _ _ a0 [.int .i64 a0] from rfl) (Reps.one (show Kd.M (Kd.int .i64) _ _ _ a1 [.int .i64 a1] from rfl) (Reps.one (show Kd.M (Kd.int .i64) _ _ _ a2 [.int .i64 a2] from rfl) (Reps.none _ _))))); intro v193 w43 ho44 hb hg_ hnew_; clear hg_ hnew_; (first | rw [← Ny192.out] at ho44 | (simp only [Int.reduceToNat] at ho44; rw [← Ny192.out] at ho44)); have n0_ := Aside0.mk (Kd.S_elder' (by (with_reducible repeat (first | apply Kd.S_alloc | apply Kd.S_drewN | apply Kd.S_drew)); exact HO_11.out) (Kd.R_base ho44) hb); have n1_ := Aside0.mk (Kd.S_elder' (by (with_reducible repeat (first | apply Kd.S_alloc | apply Kd.S_drewN | apply Kd.S_drew)); exact HO_85.out) (Kd.R_base ho44) hb); have n2_ := Aside0.mk (Kd.R_elder' (by (with_reducible repeat (first | apply Kd.R_alloc | apply Kd.R_drewN | apply Kd.R_drew)); exact HO191.out) (Kd.R_base ho44) hb); have n3_ := Aside0.mk (Kd.R_lower (Kd.R_new' ho44 (Kd.R_lt (by (with_reducible repeat (first | apply Kd.R_alloc | apply Kd.R_drewN | apply Kd.R_drew)); exact HO191.out))) (below_size (by repeat (first | (with_reducible first | exact HB.out | apply below_alloc | apply pw_below_drewN | apply below_drew1) | exact HB.out)))); have n4_ := Aside0.mk (below_step (by repeat (first | (with_reducible first | exact HB.out | apply below_alloc | apply pw_below_drewN | apply below_drew1) | exact HB.out)) hb); clear HO_11; clear HO_85; clear HO191; clear HB; have HO_11 := n0_; have HO_85 := n1_; have HO191 := n2_; have HO194 := n3_; have HB := n4_; clear n0_ n1_ n2_ n3_ n4_; clear hb ho44; obtain ⟨Ao45, co45, eo45⟩ := Kd.R_slice HO191.out; subst eo45; obtain ⟨Ao46, co46, eo46⟩ := Kd.R_slice HO194.out; subst eo46) | (go_at_call 11; (with_reducible refine (spec_Same.calls k4 _ _ t189 _ _ y192 t195 _ ?side1 ?side2 ?side3 ?side4 A41.out).mono ?_); (case side1 => repeat (first | exact (Kd.R_reads' HO191.out).2.2 | (with_reducible refine Kd.C_alloc ?_ _) | (with_reducible refine Kd.C_drewN ?_ _) | (with_reducible refine Kd.C_drew ?_))); (case side2 => exact (Kd.R_reads' HO191.out).2.1); (case side3 => repeat (first | exact (Kd.R_reads' HO194.out).2.2 | (with_reducible refine Kd.C_alloc ?_ _) | (with_reducible refine Kd.C_drewN ?_ _) | (with_reducible refine Kd.C_drew ?_))); (case side4 => exact (Kd.R_reads' HO194.out).2.1); rintro e w' ⟨rfl, ⟨nd, rfl⟩⟩; (try first | exact ⟨rfl, _, World.drewN_drewN _ _ _⟩ | exact ⟨rfl, _, Eq.trans (World.drewN_drewN _ _ _) (congrArg (World.drewN _) (Nat.add_assoc _ _ _))⟩)))
                              repeat (go_quiet (first | (go_at_call 12; (with_reducible refine (spec_Multiplied.calls k4 t179 _ _ t180 t189 _ ?side1 ?side2 A40.out).mono ?_); (case side1 => repeat (first | exact (Kd.S_reads' HO_11.out).2.2 | (with_reducible refine Kd.C_alloc ?_ _) | (with_reducible refine Kd.C_drewN ?_ _) | (with_reducible refine Kd.C_drew ?_))); (case side2 => exact (Kd.S_reads' HO_11.out).2.1); rintro e w42 ⟨v190, rfl, ho0, hb⟩; have n0_ := Aside0.mk (Kd.S_elder' (by (with_reducible repeat (first | apply Kd.S_alloc | apply Kd.S_drewN | apply Kd.S_drew)); exact HO_11.out) (Kd.R_base ho0) hb); have n1_ := Aside0.mk (Kd.S_elder' (by (with_reducible repeat (first | apply Kd.S_alloc | apply Kd.S_drewN | apply Kd.S_drew)); exact HO_85.out) (Kd.R_base ho0) hb); have n2_ := Aside0.mk (Kd.R_lower ho0 (below_size (by repeat (first | (with_reducible first | exact HB.out | apply below_alloc | apply pw_below_drewN | apply below_drew1) | exact HB.out)))); have n3_ := Aside0.mk (below_step (by repeat (first | (with_reducible first | exact HB.out | apply below_alloc | apply pw_below_drewN | apply below_drew1) | exact HB.out)) hb); clear HO_11; clear HO_85; clear HB; have HO_11 := n0_; have HO_85 := n1_; have HO191 := n2_; have HB := n3_; clear n0_ n1_ n2_ n3_; (try clear hb); (try clear hb2); (try clear hk); (try clear hi); (try clear ho0)) | ((with_reducible refine gate_dst (N := 121) rfl ?_); (try (refine gate_guard (by rfl) ?_; dsimp only)); refine Kd.R_lit (Kd.int .i64) _ 3 ?hg (N := 121) ?hd (xs := ([a0, a1, a2] : List Int)) (inner := [.int .i64 a0, .int .i64 a1, .int .i64 a2]) (ok := fun _ => True) (okp := fun _ => True) ?hr ?hp (fun _ hk => hk) trivial (Below.refl _ _) (Nat.le_refl _) (by simp) ?_; (case hd => rfl); (case hg => rfl); (case hr => first | (go_simp; done) | (go_simp; rfl)); (case hp => exact (Reps.one (show Kd.M (Kd.int .i64) _ _ _ a0 [.int .i64 a0] from rfl) (Reps.one (show Kd.M (Kd.int .i64) _ _ _ a1 [.int .i64 a1] from rfl) (Reps.one (show Kd.M (Kd.int .i64) _ _ _ a2 [.int .i64 a2] from rfl) (Reps.none _ _))))); intro v193 w43 ho44 hb hg_ hnew_; clear hg_ hnew_; (first | rw [← Ny192.out] at ho44 | (simp only [Int.reduceToNat] at ho44; rw [← Ny192.out] at ho44)); have n0_ := Aside0.mk (Kd.S_elder' (by (with_reducible repeat (first | apply Kd.S_alloc | apply Kd.S_drewN | apply Kd.S_drew)); exact HO_11.out) (Kd.R_base ho44) hb); have n1_ := Aside0.mk (Kd.S_elder' (by (with_reducible repeat (first | apply Kd.S_alloc | apply Kd.S_drewN | apply Kd.S_drew)); exact HO_85.out) (Kd.R_base ho44) hb); have n2_ := Aside0.mk (Kd.R_elder' (by (with_reducible repeat (first | apply Kd.R_alloc | apply Kd.R_drewN | apply Kd.R_drew)); exact HO191.out) (Kd.R_base ho44) hb); have n3_ := Aside0.mk (Kd.R_lower (Kd.R_new' ho44 (Kd.R_lt (by (with_reducible repeat (first | apply Kd.R_alloc | apply Kd.R_drewN | apply Kd.R_drew)); exact HO191.out))) (below_size (by repeat (first | (with_reducible first | exact HB.out | apply below_alloc | apply pw_below_drewN | apply below_drew1) | exact HB.out)))); have n4_ := Aside0.mk (below_step (by repeat (first | (with_reducible first | exact HB.out | apply below_alloc | apply pw_below_drewN | apply below_drew1) | exact HB.out)) hb); clear HO_11; clear HO_85; clear HO191; clear HB; have HO_11 := n0_; have HO_85 := n1_; have HO191 := n2_; have HO194 := n3_; have HB := n4_; clear n0_ n1_ n2_ n3_ n4_; clear hb ho44; obtain ⟨Ao45, co45, eo45⟩ := Kd.R_slice HO191.out; subst eo45; obtain ⟨Ao46, co46, eo46⟩ := Kd.R_slice HO194.out; subst eo46) | (go_at_call 11; (with_reducible refine (spec_Same.calls k4 _ _ t189 _ _ y192 t195 _ ?side1 ?side2 ?side3 ?side4 A41.out).mono ?_); (case side1 => repeat (first | exact (Kd.R_reads' HO191.out).2.2 | (with_reducible refine Kd.C_alloc ?_ _) | (with_reducible refine Kd.C_drewN ?_ _) | (with_reducible refine Kd.C_drew ?_))); (case side2 => exact (Kd.R_reads' HO191.out).2.1); (case side3 => repeat (first | exact (Kd.R_reads' HO194.out).2.2 | (with_reducible refine Kd.C_alloc ?_ _) | (with_reducible refine Kd.C_drewN ?_ _) | (with_reducible refine Kd.C_drew ?_))); (case side4 => exact (Kd.R_reads' HO194.out).2.1); rintro e w' ⟨rfl, ⟨nd, rfl⟩⟩; (try first | exact ⟨rfl, _, World.drewN_drewN _ _ _⟩ | exact ⟨rfl, _, Eq.trans (World.drewN_drewN _ _ _) (congrArg (World.drewN _) (Nat.add_assoc _ _ _))⟩))); try go_wp2_with (first | (go_at_call 12; (with_reducible refine (spec_Multiplied.calls k4 t179 _ _ t180 t189 _ ?side1 ?side2 A40.out).mono ?_); (case side1 => repeat (first | exact (Kd.S_reads' HO_11.out).2.2 | (with_reducible refine Kd.C_alloc ?_ _) | (with_reducible refine Kd.C_drewN ?_ _) | (with_reducible refine Kd.C_drew ?_))); (case side2 => exact (Kd.S_reads' HO_11.out).2.1); rintro e w42 ⟨v190, rfl, ho0, hb⟩; have n0_ := Aside0.mk (Kd.S_elder' (by (with_reducible repeat (first | apply Kd.S_alloc | apply Kd.S_drewN | apply Kd.S_drew)); exact HO_11.out) (Kd.R_base ho0) hb); have n1_ := Aside0.mk (Kd.S_elder' (by (with_reducible repeat (first | apply Kd.S_alloc | apply Kd.S_drewN | apply Kd.S_drew)); exact HO_85.out) (Kd.R_base ho0) hb); have n2_ := Aside0.mk (Kd.R_lower ho0 (below_size (by repeat (first | (with_reducible first | exact HB.out | apply below_alloc | apply pw_below_drewN | apply below_drew1) | exact HB.out)))); have n3_ := Aside0.mk (below_step (by repeat (first | (with_reducible first | exact HB.out | apply below_alloc | apply pw_below_drewN | apply below_drew1) | exact HB.out)) hb); clear HO_11; clear HO_85; clear HB; have HO_11 := n0_; have HO_85 := n1_; have HO191 := n2_; have HB := n3_; clear n0_ n1_ n2_ n3_; (try clear hb); (try clear hb2); (try clear hk); (try clear hi); (try clear ho0)) | ((with_reducible refine gate_dst (N := 121) rfl ?_); (try (refine gate_guard (by rfl) ?_; dsimp only)); refine Kd.R_lit (Kd.int .i64) _ 3 ?hg (N := 121) ?hd (xs := ([a0, a1, a2] : List Int)) (inner := [.int .i64 a0, .int .i64 a1, .int .i64 a2]) (ok := fun _ => True) (okp := fun _ => True) ?hr ?hp (fun _ hk => hk) trivial (Below.refl _ _) (Nat.le_refl _) (by simp) ?_; (case hd => rfl); (case hg => rfl); (case hr => first | (go_simp; done) | (go_simp; rfl)); (case hp => exact (Reps.one (show Kd.M (Kd.int .i64) _ _ _ a0 [.int .i64 a0] from rfl) (Reps.one (show Kd.M (Kd.int .i64) _ _ _ a1 [.int .i64 a1] from rfl) (Reps.one (show Kd.M (Kd.int .i64) _ _ _ a2 [.int .i64 a2] from rfl) (Reps.none _ _))))); intro v193 w43 ho44 hb hg_ hnew_; clear hg_ hnew_; (first | rw [← Ny192.out] at ho44 | (simp only [Int.reduceToNat] at ho44; rw [← Ny192.out] at ho44)); have n0_ := Aside0.mk (Kd.S_elder' (by (with_reducible repeat (first | apply Kd.S_alloc | apply Kd.S_drewN | apply Kd.S_drew)); exact HO_11.out) (Kd.R_base ho44) hb); have n1_ := Aside0.mk (Kd.S_elder' (by (with_reducible repeat (first | apply Kd.S_alloc | apply Kd.S_drewN | apply Kd.S_drew)); exact HO_85.out) (Kd.R_base ho44) hb); have n2_ := Aside0.mk (Kd.R_elder' (by (with_reducible repeat (first | apply Kd.R_alloc | apply Kd.R_drewN | apply Kd.R_drew)); exact HO191.out) (Kd.R_base ho44) hb); have n3_ := Aside0.mk (Kd.R_lower (Kd.R_new' ho44 (Kd.R_lt (by (with_reducible repeat (first | apply Kd.R_alloc | apply Kd.R_drewN | apply Kd.R_drew)); exact HO191.out))) (below_size (by repeat (first | (with_reducible first | exact HB.out | apply below_alloc | apply pw_below_drewN | apply below_drew1) | exact HB.out)))); have n4_ := Aside0.mk (below_step (by repeat (first | (with_reducible first | exact HB.out | apply below_alloc | apply pw_below_drewN | apply below_drew1) | exact HB.out)) hb); clear HO_11; clear HO_85; clear HO191; clear HB; have HO_11 := n0_; have HO_85 := n1_; have HO191 := n2_; have HO194 := n3_; have HB := n4_; clear n0_ n1_ n2_ n3_ n4_; clear hb ho44; obtain ⟨Ao45, co45, eo45⟩ := Kd.R_slice HO191.out; subst eo45; obtain ⟨Ao46, co46, eo46⟩ := Kd.R_slice HO194.out; subst eo46) | (go_at_call 11; (with_reducible refine (spec_Same.calls k4 _ _ t189 _ _ y192 t195 _ ?side1 ?side2 ?side3 ?side4 A41.out).mono ?_); (case side1 => repeat (first | exact (Kd.R_reads' HO191.out).2.2 | (with_reducible refine Kd.C_alloc ?_ _) | (with_reducible refine Kd.C_drewN ?_ _) | (with_reducible refine Kd.C_drew ?_))); (case side2 => exact (Kd.R_reads' HO191.out).2.1); (case side3 => repeat (first | exact (Kd.R_reads' HO194.out).2.2 | (with_reducible refine Kd.C_alloc ?_ _) | (with_reducible refine Kd.C_drewN ?_ _) | (with_reducible refine Kd.C_drew ?_))); (case side4 => exact (Kd.R_reads' HO194.out).2.1); rintro e w' ⟨rfl, ⟨nd, rfl⟩⟩; (try first | exact ⟨rfl, _, World.drewN_drewN _ _ _⟩ | exact ⟨rfl, _, Eq.trans (World.drewN_drewN _ _ _) (congrArg (World.drewN _) (Nat.add_assoc _ _ _))⟩))))
                              go_ret
                              exact ⟨by first | rfl | (simp [errW_none, errW_some] <;> rfl) | (simp [*, errW_none, errW_some] <;> rfl), by repeat (first | (with_reducible first | exact HB.out | apply below_alloc | apply pw_below_drewN | apply below_drew1) | exact HB.out)⟩
                            · rw [if_neg c39] at H
                              have c39b0 : ((t180.length : Int) == 2) = false := beq_eq_false_iff_ne.mpr c39
                              have c39b1 : ((t180.length : Int) != 2) = true := bne_iff_ne.mpr c39
                              obtain rfl := Option.some.inj H
                              go_wp2
                              repeat (go_quiet (fail); try go_wp2)
                              go_ret
                              exact ⟨by first | rfl | (simp [errW_none, errW_some] <;> rfl) | (simp [*, errW_none, errW_some] <;> rfl), by repeat (first | (with_reducible first | exact HB.out | apply below_alloc | apply pw_below_drewN | apply below_drew1) | exact HB.out)⟩
                          · replace c38 := Bool.eq_false_iff.mpr c38
                            subst c38
                            have H1 : (some false) = some r := by rw [if_neg (show ¬ (false = true) by decide)] at H; exact H
                            clear H
                            have H := H1
                            clear H1
                            obtain rfl := Option.some.inj H
                            go_wp2
                            repeat (go_quiet (fail); try go_wp2)
                            go_ret
                            exact ⟨by first | rfl | (simp [errW_none, errW_some] <;> rfl) | (simp [*, errW_none, errW_some] <;> rfl), by repeat (first | (with_reducible first | exact HB.out | apply below_alloc | apply pw_below_drewN | apply below_drew1) | exact HB.out)⟩
                        · replace c37 := Bool.eq_false_iff.mpr c37
                          subst c37
                          have H1 : (some false) = some r := by rw [if_neg (show ¬ (false = true) by decide)] at H; exact H
                          clear H
                          have H := H1
                          clear H1
                          obtain rfl := Option.some.inj H
                          go_wp2
                          repeat (go_quiet (fail); try go_wp2)
                          go_ret
                          exact ⟨by first | rfl | (simp [errW_none, errW_some] <;> rfl) | (simp [*, errW_none, errW_some] <;> rfl), by repeat (first | (with_reducible first | exact HB.out | apply below_alloc | apply pw_below_drewN | apply below_drew1) | exact HB.out)⟩

/-- THE ONE PURE STATEMENT of laws_FnQuadFactors: yours. -/
def laws_FnQuadFactors.Pure : Prop := ∀ (a0 : Int) (a1 : Int) (a2 : Int), (Lit.int .i64 a0).wf = true → (Lit.int .i64 a1).wf = true → (Lit.int .i64 a2).wf = true → ∃ k, laws_FnQuadFactors.f k a0 a1 a2 = some true
theorem laws_FnQuadFactors.walk (P : laws_FnQuadFactors.Pure) (a0 : Int) (a1 : Int) (a2 : Int) (w : World) (HT : Aside0 (Tab.Tabs w)) (w0 : (Lit.int .i64 a0).wf = true) (w1 : (Lit.int .i64 a1).wf = true) (w2 : (Lit.int .i64 a2).wf = true) :
    Calls Tryd.prog 4 #[.int .i64 a0, .int .i64 a1, .int .i64 a2] w fun e w' => e = .returned (.bool true) ∧ Below w.heap.size w w' := by
  obtain ⟨k, h⟩ := P a0 a1 a2 w0 w1 w2
  refine (laws_FnQuadFactors.calls k a0 a1 a2 true w HT h).mono ?_
  rintro e w' ⟨rfl, hd⟩
  exact ⟨rfl, hd⟩

end Go.Proofs.YtpelipdecjooeaaDoor.PFnQuadFactors
