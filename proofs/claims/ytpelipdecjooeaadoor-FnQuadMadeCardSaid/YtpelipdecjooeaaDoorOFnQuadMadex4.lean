/- The functions that the law 'FnQuadMade' reaches, each with its contract. -/
import Derived.Test.YtpelipdecjooeaaDoorOFnQuadMadex0
import Derived.Test.YtpelipdecjooeaaDoorOFnQuadMadex2
import Derived.Test.YtpelipdecjooeaaDoorOFnQuadMadex3
namespace Go.Proofs.YtpelipdecjooeaaDoor.PFnQuadMade
open Go.RowKit Go.Proofs.YtpelipdecjooeaaDoorW.PrintWords Go.Proofs.YtpelipdecjooeaaDoorW.PrintLast Go.Proofs.YtpelipdecjooeaaDoorW.PrintMore
attribute [local go_sem] max2_int min2_int max_two min_two max_three min_three max_four min_four   -- for this text's walks alone
set_option linter.unusedVariables false
set_option linter.unusedSimpArgs false

/-! ### laws_FnQuadMade: function 5 -/
mutual
noncomputable def laws_FnQuadMade.j0 : Nat → Int → Int → Int → Int → Int → List Int → Bool → Option (Bool)
  | 0, _, _, _, _, _, _, _ => none
  | k + 1, x0, x1, x2, x3, x4, x11, x14 => if x0 ≥ (-30) then (laws_FnQuadMade.j1 k x1 x2 x3 x4 x11 x14 (decide (x0 ≤ 30))) else (laws_FnQuadMade.j1 k x1 x2 x3 x4 x11 x14 false)
noncomputable def laws_FnQuadMade.j1 : Nat → Int → Int → Int → Int → List Int → Bool → Bool → Option (Bool)
  | 0, _, _, _, _, _, _, _ => none
  | k + 1, x1, x2, x3, x4, x11, x14, x15 => (some (([x1, x2, x3, x4] : List Int) : List Int)).bind fun y188 => (laws_FnQuadMade.l0 k x11 x14 x15 y188 (y188.length : Int) 0)
noncomputable def laws_FnQuadMade.l0 : Nat → List Int → Bool → Bool → List Int → Int → Int → Option (Bool)
  | 0, _, _, _, _, _, _ => none
  | k + 1, x11, x14, x15, x55, x56, x57 => if x57 < x56 then (if 0 ≤ x57 then (if x57 < (x55.length : Int) then (if x15 = true then (if (rd x55 x57) ≥ (-100) then (laws_FnQuadMade.l0 k x11 x14 (decide ((rd x55 x57) ≤ 100)) x55 x56 (wrap64 (x57 + 1))) else (laws_FnQuadMade.l0 k x11 x14 false x55 x56 (wrap64 (x57 + 1)))) else (laws_FnQuadMade.l0 k x11 x14 false x55 x56 (wrap64 (x57 + 1)))) else (none)) else (none)) else (if x15 = true then (if 0 < (x11.length : Int) then (laws_FnQuadMade.j3 k x11 x14 ((rd x11 0) == 0)) else (none)) else (laws_FnQuadMade.j3 k x11 x14 true))
noncomputable def laws_FnQuadMade.j3 : Nat → List Int → Bool → Bool → Option (Bool)
  | 0, _, _, _ => none
  | k + 1, x11, x14, x78 => if x78 = true then (some x14) else (if 0 < (x11.length : Int) then (if 1 < (x11.length : Int) then (if 2 < (x11.length : Int) then ((impl_QuadFactors.f k (rd x11 0) (rd x11 1) (rd x11 2)).bind fun bt196 => (if x14 = true then (if bt196.2.2 = true then ((spec_Multiplied.f k bt196.1 bt196.2.1).bind fun t201 => ((spec_Same.f k t201 x11).bind fun t204 => (some t204))) else (some false)) else (some false))) else (none)) else (none)) else (none))
end
noncomputable def laws_FnQuadMade.f (k : Nat) (a0 : Int) (a1 : Int) (a2 : Int) (a3 : Int) (a4 : Int) : Option (Bool) := (spec_Multiplied.f k a0 (([(([a1, a2] : List Int)), (([a3, a4] : List Int))] : List (List Int)))).bind fun t180 => ((impl_QuadFactors.f k 1 3 2).bind fun bt183 => (if bt183.2.2 = true then (if bt183.1 = 1 then (laws_FnQuadMade.j0 k a0 a1 a2 a3 a4 t180 ((bt183.2.1.length : Int) == 2)) else (laws_FnQuadMade.j0 k a0 a1 a2 a3 a4 t180 false)) else (laws_FnQuadMade.j0 k a0 a1 a2 a3 a4 t180 false)))
theorem laws_FnQuadMade.mono_l : ∀ k, (∀ y0 y1 y2 y3 y4 y5 y6, LeO (laws_FnQuadMade.j0 k y0 y1 y2 y3 y4 y5 y6) (laws_FnQuadMade.j0 (k + 1) y0 y1 y2 y3 y4 y5 y6)) ∧ (∀ y0 y1 y2 y3 y4 y5 y6, LeO (laws_FnQuadMade.j1 k y0 y1 y2 y3 y4 y5 y6) (laws_FnQuadMade.j1 (k + 1) y0 y1 y2 y3 y4 y5 y6)) ∧ (∀ y0 y1 y2 y3 y4 y5, LeO (laws_FnQuadMade.l0 k y0 y1 y2 y3 y4 y5) (laws_FnQuadMade.l0 (k + 1) y0 y1 y2 y3 y4 y5)) ∧ (∀ y0 y1 y2, LeO (laws_FnQuadMade.j3 k y0 y1 y2) (laws_FnQuadMade.j3 (k + 1) y0 y1 y2))
  | 0 => ⟨fun _ _ _ _ _ _ _ r h => by simp [laws_FnQuadMade.j0] at h, fun _ _ _ _ _ _ _ r h => by simp [laws_FnQuadMade.j1] at h, fun _ _ _ _ _ _ r h => by simp [laws_FnQuadMade.l0] at h, fun _ _ _ r h => by simp [laws_FnQuadMade.j3] at h⟩
  | k + 1 => by
    obtain ⟨ih0, ih1, ih2, ih3⟩ := laws_FnQuadMade.mono_l k
    refine ⟨?_, ?_, ?_, ?_⟩
    · intro y0 y1 y2 y3 y4 y5 y6
      unfold laws_FnQuadMade.j0
      repeat' first
      | (with_reducible exact ih0 _ _ _ _ _ _ _)
      | (with_reducible exact ih1 _ _ _ _ _ _ _)
      | (with_reducible exact ih2 _ _ _ _ _ _)
      | (with_reducible exact ih3 _ _ _)
      | (with_reducible exact impl_QuadFactors.mono _ _ _ _)
      | (with_reducible exact spec_Multiplied.mono _ _ _)
      | (with_reducible exact spec_Same.mono _ _ _)
      | (with_reducible exact LeO.refl _)
      | (with_reducible exact LeO.none _)
      | (with_reducible refine LeO.ite ?_ ?_)
      | (with_reducible refine LeO.bind ?_ (fun _ => ?_))
      | exact ih0 _ _ _ _ _ _ _
      | exact ih1 _ _ _ _ _ _ _
      | exact ih2 _ _ _ _ _ _
      | exact ih3 _ _ _
      | exact impl_QuadFactors.mono _ _ _ _
      | exact spec_Multiplied.mono _ _ _
      | exact spec_Same.mono _ _ _
      | exact LeO.none _
      | refine LeO.ite ?_ ?_
      | refine LeO.bind ?_ (fun _ => ?_)
    · intro y0 y1 y2 y3 y4 y5 y6
      unfold laws_FnQuadMade.j1
      repeat' first
      | (with_reducible exact ih0 _ _ _ _ _ _ _)
      | (with_reducible exact ih1 _ _ _ _ _ _ _)
      | (with_reducible exact ih2 _ _ _ _ _ _)
      | (with_reducible exact ih3 _ _ _)
      | (with_reducible exact impl_QuadFactors.mono _ _ _ _)
      | (with_reducible exact spec_Multiplied.mono _ _ _)
      | (with_reducible exact spec_Same.mono _ _ _)
      | (with_reducible exact LeO.refl _)
      | (with_reducible exact LeO.none _)
      | (with_reducible refine LeO.ite ?_ ?_)
      | (with_reducible refine LeO.bind ?_ (fun _ => ?_))
      | exact ih0 _ _ _ _ _ _ _
      | exact ih1 _ _ _ _ _ _ _
      | exact ih2 _ _ _ _ _ _
      | exact ih3 _ _ _
      | exact impl_QuadFactors.mono _ _ _ _
      | exact spec_Multiplied.mono _ _ _
      | exact spec_Same.mono _ _ _
      | exact LeO.none _
      | refine LeO.ite ?_ ?_
      | refine LeO.bind ?_ (fun _ => ?_)
    · intro y0 y1 y2 y3 y4 y5
      unfold laws_FnQuadMade.l0
      repeat' first
      | (with_reducible exact ih0 _ _ _ _ _ _ _)
      | (with_reducible exact ih1 _ _ _ _ _ _ _)
      | (with_reducible exact ih2 _ _ _ _ _ _)
      | (with_reducible exact ih3 _ _ _)
      | (with_reducible exact impl_QuadFactors.mono _ _ _ _)
      | (with_reducible exact spec_Multiplied.mono _ _ _)
      | (with_reducible exact spec_Same.mono _ _ _)
      | (with_reducible exact LeO.refl _)
      | (with_reducible exact LeO.none _)
      | (with_reducible refine LeO.ite ?_ ?_)
      | (with_reducible refine LeO.bind ?_ (fun _ => ?_))
      | exact ih0 _ _ _ _ _ _ _
      | exact ih1 _ _ _ _ _ _ _
      | exact ih2 _ _ _ _ _ _
      | exact ih3 _ _ _
      | exact impl_QuadFactors.mono _ _ _ _
      | exact spec_Multiplied.mono _ _ _
      | exact spec_Same.mono _ _ _
      | exact LeO.none _
      | refine LeO.ite ?_ ?_
      | refine LeO.bind ?_ (fun _ => ?_)
    · intro y0 y1 y2
      unfold laws_FnQuadMade.j3
      repeat' first
      | (with_reducible exact ih0 _ _ _ _ _ _ _)
      | (with_reducible exact ih1 _ _ _ _ _ _ _)
      | (with_reducible exact ih2 _ _ _ _ _ _)
      | (with_reducible exact ih3 _ _ _)
      | (with_reducible exact impl_QuadFactors.mono _ _ _ _)
      | (with_reducible exact spec_Multiplied.mono _ _ _)
      | (with_reducible exact spec_Same.mono _ _ _)
      | (with_reducible exact LeO.refl _)
      | (with_reducible exact LeO.none _)
      | (with_reducible refine LeO.ite ?_ ?_)
      | (with_reducible refine LeO.bind ?_ (fun _ => ?_))
      | exact ih0 _ _ _ _ _ _ _
      | exact ih1 _ _ _ _ _ _ _
      | exact ih2 _ _ _ _ _ _
      | exact ih3 _ _ _
      | exact impl_QuadFactors.mono _ _ _ _
      | exact spec_Multiplied.mono _ _ _
      | exact spec_Same.mono _ _ _
      | exact LeO.none _
      | refine LeO.ite ?_ ?_
      | refine LeO.bind ?_ (fun _ => ?_)
theorem laws_FnQuadMade.mono : ∀ a0 a1 a2 a3 a4 k, LeO (laws_FnQuadMade.f k a0 a1 a2 a3 a4) (laws_FnQuadMade.f (k + 1) a0 a1 a2 a3 a4) := by
  intro a0 a1 a2 a3 a4 k
  obtain ⟨ih0, ih1, ih2, ih3⟩ := laws_FnQuadMade.mono_l k
  unfold laws_FnQuadMade.f
  repeat' first
      | (with_reducible exact ih0 _ _ _ _ _ _ _)
      | (with_reducible exact ih1 _ _ _ _ _ _ _)
      | (with_reducible exact ih2 _ _ _ _ _ _)
      | (with_reducible exact ih3 _ _ _)
      | (with_reducible exact impl_QuadFactors.mono _ _ _ _)
      | (with_reducible exact spec_Multiplied.mono _ _ _)
      | (with_reducible exact spec_Same.mono _ _ _)
      | (with_reducible exact LeO.refl _)
      | (with_reducible exact LeO.none _)
      | (with_reducible refine LeO.ite ?_ ?_)
      | (with_reducible refine LeO.bind ?_ (fun _ => ?_))
      | exact ih0 _ _ _ _ _ _ _
      | exact ih1 _ _ _ _ _ _ _
      | exact ih2 _ _ _ _ _ _
      | exact ih3 _ _ _
      | exact impl_QuadFactors.mono _ _ _ _
      | exact spec_Multiplied.mono _ _ _
      | exact spec_Same.mono _ _ _
      | exact LeO.none _
      | refine LeO.ite ?_ ?_
      | refine LeO.bind ?_ (fun _ => ?_)
noncomputable def laws_FnQuadMade.T12 : Bool × List (List Nat × List Nat) := (true, [([], []), ([0], [0]), ([1], [1]), ([], []), ([3], [3]), ([4], [4]), ([], []), ([6], [6]), ([7], [7]), ([2, 5, 8], [2, 5, 8]), ([9], [9]), ([10], [10]), ([10], [10]), ([10], [10]), ([11, 9, 0, 1, 2, 3, 4, 5, 6, 7, 8, 9, 10, 11], [11]), ([12, 14, 0, 1, 2, 3, 4, 5, 6, 7, 8, 9, 10, 11, 12, 14], [12]), ([13, 15, 0, 1, 2, 3, 4, 5, 6, 7, 8, 9, 10, 11, 12, 13, 14, 15], [13])])
noncomputable def laws_FnQuadMade.B12 : List Nat := [0, 1, 3, 0, 8, 24, 0, 64, 192, 511, 1023, 2047, 2047, 2047, 4095, 24575, 65535]
theorem laws_FnQuadMade.tab12 : rtab .any (opsOf Tryd.f5 12) = laws_FnQuadMade.T12 := by kernel_rfl
theorem laws_FnQuadMade.bits12 : waitsOk laws_FnQuadMade.T12.2 laws_FnQuadMade.B12 = true := by kernel_rfl
set_option maxHeartbeats 8000000 in
set_option maxRecDepth 100000 in
theorem laws_FnQuadMade.calls (k : Nat) (a0 : Int) (a1 : Int) (a2 : Int) (a3 : Int) (a4 : Int) (r : Bool) (w : World) (HT : Aside0 (Tab.Tabs w)) (h : laws_FnQuadMade.f k a0 a1 a2 a3 a4 = some r) :
    Calls Tryd.prog 5 #[.int .i64 a0, .int .i64 a1, .int .i64 a2, .int .i64 a3, .int .i64 a4] w fun e w' => e = .returned (.bool r) ∧ Below w.heap.size w w' := by
  have HB := Aside0.mk (Below.refl w.heap.size w)
  have H : ((spec_Multiplied.f k a0 (([(([a1, a2] : List Int)), (([a3, a4] : List Int))] : List (List Int)))).bind fun t180 => ((impl_QuadFactors.f k 1 3 2).bind fun bt183 => (if bt183.2.2 = true then (if bt183.1 = 1 then (laws_FnQuadMade.j0 k a0 a1 a2 a3 a4 t180 ((bt183.2.1.length : Int) == 2)) else (laws_FnQuadMade.j0 k a0 a1 a2 a3 a4 t180 false)) else (laws_FnQuadMade.j0 k a0 a1 a2 a3 a4 t180 false)))) = some r := h
  clear h
  obtain ⟨y171, hy171⟩ : ∃ y_ : List Int, y_ = (([a1, a2] : List Int)) := ⟨_, rfl⟩
  replace H : ((spec_Multiplied.f k a0 (([y171, (([a3, a4] : List Int))] : List (List Int)))).bind fun t180 => ((impl_QuadFactors.f k 1 3 2).bind fun bt183 => (if bt183.2.2 = true then (if bt183.1 = 1 then (laws_FnQuadMade.j0 k a0 a1 a2 a3 a4 t180 ((bt183.2.1.length : Int) == 2)) else (laws_FnQuadMade.j0 k a0 a1 a2 a3 a4 t180 false)) else (laws_FnQuadMade.j0 k a0 a1 a2 a3 a4 t180 false)))) = some r := by first | (rw [hy171]; with_reducible exact H) | (have H2_ := (Option.bind_some _ _).symm.trans H; rw [hy171]; with_reducible exact H2_) | (have H2_ := (Option.bind_some _ _).symm.trans H; with_reducible exact H2_) | with_reducible exact H | (rw [hy171]; exact H) | exact H
  have Ny171 := Aside0.mk hy171
  clear hy171
  obtain ⟨y174, hy174⟩ : ∃ y_ : List Int, y_ = (([a3, a4] : List Int)) := ⟨_, rfl⟩
  replace H : ((spec_Multiplied.f k a0 (([y171, y174] : List (List Int)))).bind fun t180 => ((impl_QuadFactors.f k 1 3 2).bind fun bt183 => (if bt183.2.2 = true then (if bt183.1 = 1 then (laws_FnQuadMade.j0 k a0 a1 a2 a3 a4 t180 ((bt183.2.1.length : Int) == 2)) else (laws_FnQuadMade.j0 k a0 a1 a2 a3 a4 t180 false)) else (laws_FnQuadMade.j0 k a0 a1 a2 a3 a4 t180 false)))) = some r := by first | (rw [hy174]; with_reducible exact H) | (have H2_ := (Option.bind_some _ _).symm.trans H; rw [hy174]; with_reducible exact H2_) | (have H2_ := (Option.bind_some _ _).symm.trans H; with_reducible exact H2_) | with_reducible exact H | (rw [hy174]; exact H) | exact H
  have Ny174 := Aside0.mk hy174
  clear hy174
  obtain ⟨y177, hy177⟩ : ∃ y_ : List (List Int), y_ = (([y171, y174] : List (List Int))) := ⟨_, rfl⟩
  replace H : ((spec_Multiplied.f k a0 y177).bind fun t180 => ((impl_QuadFactors.f k 1 3 2).bind fun bt183 => (if bt183.2.2 = true then (if bt183.1 = 1 then (laws_FnQuadMade.j0 k a0 a1 a2 a3 a4 t180 ((bt183.2.1.length : Int) == 2)) else (laws_FnQuadMade.j0 k a0 a1 a2 a3 a4 t180 false)) else (laws_FnQuadMade.j0 k a0 a1 a2 a3 a4 t180 false)))) = some r := by first | (rw [hy177]; with_reducible exact H) | (have H2_ := (Option.bind_some _ _).symm.trans H; rw [hy177]; with_reducible exact H2_) | (have H2_ := (Option.bind_some _ _).symm.trans H; with_reducible exact H2_) | with_reducible exact H | (rw [hy177]; exact H) | exact H
  have Ny177 := Aside0.mk hy177
  clear hy177
  replace H := Option.bind_eq_some_iff.mp H
  obtain ⟨t180, A60, H⟩ := H
  replace H : ((impl_QuadFactors.f k 1 3 2).bind fun bt183 => (if bt183.2.2 = true then (if bt183.1 = 1 then (laws_FnQuadMade.j0 k a0 a1 a2 a3 a4 t180 ((bt183.2.1.length : Int) == 2)) else (laws_FnQuadMade.j0 k a0 a1 a2 a3 a4 t180 false)) else (laws_FnQuadMade.j0 k a0 a1 a2 a3 a4 t180 false))) = some r := H
  have A6 := Aside0.mk A60
  clear A60
  replace H := Option.bind_eq_some_iff.mp H
  obtain ⟨⟨t183, t184, t185⟩, A70, H⟩ := H
  replace H : (if t185 = true then (if t183 = 1 then (laws_FnQuadMade.j0 k a0 a1 a2 a3 a4 t180 ((t184.length : Int) == 2)) else (laws_FnQuadMade.j0 k a0 a1 a2 a3 a4 t180 false)) else (laws_FnQuadMade.j0 k a0 a1 a2 a3 a4 t180 false)) = some r := H
  have A7 := Aside0.mk A70
  clear A70
  have HC8 := Aside0.mk H
  clear H
  go_enter Tryd.func5, Tryd.ntmps5
  go_upto_region 3 with (first | ((with_reducible refine gate_dst (N := 24) rfl ?_); (try (refine gate_guard (by rfl) ?_; dsimp only)); refine Kd.R_lit (Kd.int .i64) _ 3 ?hg (N := 24) ?hd (xs := ([a1, a2] : List Int)) (inner := [.int .i64 a1, .int .i64 a2]) (ok := fun _ => True) (okp := fun _ => True) ?hr ?hp (fun _ hk => hk) trivial (Below.refl _ _) (Nat.le_refl _) (by simp) ?_; (case hd => rfl); (case hg => rfl); (case hr => first | (go_simp; done) | (go_simp; rfl)); (case hp => exact (Reps.one (show Kd.M (Kd.int .i64) _ _ _ a1 [.int .i64 a1] from rfl) (Reps.one (show Kd.M (Kd.int .i64) _ _ _ a2 [.int .i64 a2] from rfl) (Reps.none _ _)))); intro v172 w9 ho10 hb hg_ hnew_; clear hg_ hnew_; (first | rw [← Ny171.out] at ho10 | (simp only [Int.reduceToNat] at ho10; rw [← Ny171.out] at ho10)); have n0_ := Aside0.mk (Kd.R_lower ho10 (below_size (by repeat (first | (with_reducible first | exact HB.out | apply below_alloc | apply pw_below_drewN | apply below_drew1) | exact HB.out)))); have n1_ := Aside0.mk (below_step (by repeat (first | (with_reducible first | exact HB.out | apply below_alloc | apply pw_below_drewN | apply below_drew1) | exact HB.out)) hb); clear HB; have HO173 := n0_; have HB := n1_; clear n0_ n1_; clear hb ho10) | ((with_reducible refine gate_dst (N := 27) rfl ?_); (try (refine gate_guard (by rfl) ?_; dsimp only)); refine Kd.R_lit (Kd.int .i64) _ 3 ?hg (N := 27) ?hd (xs := ([a3, a4] : List Int)) (inner := [.int .i64 a3, .int .i64 a4]) (ok := fun _ => True) (okp := fun _ => True) ?hr ?hp (fun _ hk => hk) trivial (Below.refl _ _) (Nat.le_refl _) (by simp) ?_; (case hd => rfl); (case hg => rfl); (case hr => first | (go_simp; done) | (go_simp; rfl)); (case hp => exact (Reps.one (show Kd.M (Kd.int .i64) _ _ _ a3 [.int .i64 a3] from rfl) (Reps.one (show Kd.M (Kd.int .i64) _ _ _ a4 [.int .i64 a4] from rfl) (Reps.none _ _)))); intro v175 w11 ho12 hb hg_ hnew_; clear hg_ hnew_; (first | rw [← Ny174.out] at ho12 | (simp only [Int.reduceToNat] at ho12; rw [← Ny174.out] at ho12)); have n0_ := Aside0.mk (Kd.R_elder' (by (with_reducible repeat (first | apply Kd.R_alloc | apply Kd.R_drewN | apply Kd.R_drew)); exact HO173.out) (Kd.R_base ho12) hb); have n1_ := Aside0.mk (Kd.R_lower (Kd.R_new' ho12 (Kd.R_lt (by (with_reducible repeat (first | apply Kd.R_alloc | apply Kd.R_drewN | apply Kd.R_drew)); exact HO173.out))) (below_size (by repeat (first | (with_reducible first | exact HB.out | apply below_alloc | apply pw_below_drewN | apply below_drew1) | exact HB.out)))); have n2_ := Aside0.mk (below_step (by repeat (first | (with_reducible first | exact HB.out | apply below_alloc | apply pw_below_drewN | apply below_drew1) | exact HB.out)) hb); clear HO173; clear HB; have HO173 := n0_; have HO176 := n1_; have HB := n2_; clear n0_ n1_ n2_; clear hb ho12; obtain ⟨Ao13, co13, eo13⟩ := Kd.R_slice HO173.out; subst eo13; obtain ⟨Ao14, co14, eo14⟩ := Kd.R_slice HO176.out; subst eo14) | ((with_reducible refine gate_dst (N := 28) rfl ?_); (try (refine gate_guard (by rfl) ?_; dsimp only)); refine Kd.N_lit (Kd.slice 3 (Kd.int .i64)) _ 30 ?hg (N' := 28) ?hd (xs := ([y171, y174] : List (List Int))) (inner := [.slice Ao13 y171.length co13, .slice Ao14 y174.length co14]) (ok := (fun _ => True)) (okp := (fun _ => True)) ?hr ?hp (fun _ hk => hk) ((show ∀ k_, w11.heap.size ≤ k_ → (fun _ => True) k_ from fun k_ hk => trivial) _ (Nat.le_refl _)) (Below.refl _ _) (Nat.le_refl _) (by simp) ?_; (case hd => rfl); (case hg => rfl); (case hr => first | (go_simp; done) | (go_simp; rfl)); (case hp => exact (Reps.one (show Kd.FK (Kd.slice 3 (Kd.int .i64)) _ _ y171 [.slice Ao13 y171.length co13] from (Kd.FK_slice_mk (Kd.R_reads' (Kd.R_mono (ok' := (fun _ => True)) (HO173.out) (fun k_ hk => trivial))).2.1 (Kd.R_F (Kd.R_mono (ok' := (fun _ => True)) (HO173.out) (fun k_ hk => trivial))))) (Reps.one (show Kd.FK (Kd.slice 3 (Kd.int .i64)) _ _ y174 [.slice Ao14 y174.length co14] from (Kd.FK_slice_mk (Kd.R_reads' (Kd.R_mono (ok' := (fun _ => True)) (HO176.out) (fun k_ hk => trivial))).2.1 (Kd.R_F (Kd.R_mono (ok' := (fun _ => True)) (HO176.out) (fun k_ hk => trivial))))) (Reps.none _ _)))); intro v178 w15 ho16 hb hg_ hnew_; clear hg_ hnew_; (first | rw [← Ny177.out] at ho16 | (simp only [Int.reduceToNat] at ho16; rw [← Ny177.out] at ho16)); have n0_ := Aside0.mk (Kd.N_lower ho16 (below_size (by repeat (first | (with_reducible first | exact HB.out | apply below_alloc | apply pw_below_drewN | apply below_drew1) | exact HB.out)))); have n1_ := Aside0.mk (below_step (by repeat (first | (with_reducible first | exact HB.out | apply below_alloc | apply pw_below_drewN | apply below_drew1) | exact HB.out)) hb); clear HB; clear HO173; clear HO176; have HO179 := n0_; have HB := n1_; clear n0_ n1_; clear hb ho16; obtain ⟨Ao17, co17, eo17⟩ := Kd.N_slice HO179.out; subst eo17) | ((with_reducible refine gate_callee (f := 12) rfl ?_); refine goesL_ (some 29) rfl rfl Tryd.func12 (by kernel_rfl) rfl #[.int .i64 a0, .slice Ao17 y177.length co17] rfl (by (try simp only [List.map_toArray, List.map_cons, List.map_nil]); first | done | rfl | (simp only [List.length_drop, List.length_take]; rfl)) ?_; (with_reducible refine (spec_Multiplied.calls k a0 _ _ y177 t180 _ ?side1 ?side2 A6.out).mono ?_); (case side1 => repeat (first | exact (Kd.N_reads' HO179.out).2.2 | (with_reducible refine Kd.C_alloc ?_ _) | (with_reducible refine Kd.C_drewN ?_ _) | (with_reducible refine Kd.C_drew ?_))); (case side2 => exact (Kd.N_reads' HO179.out).2.1); rintro e w18 ⟨v181, rfl, ho0, hb⟩; refine ⟨_, rfl, ?_⟩; have n0_ := Aside0.mk (Kd.N_elder' (by (with_reducible repeat (first | apply Kd.N_alloc | apply Kd.N_drewN | apply Kd.N_drew)); exact HO179.out) (Kd.R_base ho0) hb); have n1_ := Aside0.mk (Kd.R_lower ho0 (below_size (by repeat (first | (with_reducible first | exact HB.out | apply below_alloc | apply pw_below_drewN | apply below_drew1) | exact HB.out)))); have n2_ := Aside0.mk (below_step (by repeat (first | (with_reducible first | exact HB.out | apply below_alloc | apply pw_below_drewN | apply below_drew1) | exact HB.out)) hb); clear HO179; clear HB; have HO179 := n0_; have HO182 := n1_; have HB := n2_; clear n0_ n1_ n2_; (try clear hb); (try clear hb2); (try clear hk); (try clear hi); (try clear ho0)) | ((with_reducible refine gate_callee (f := 9) rfl ?_); refine goesL_ (some 31) rfl rfl Tryd.func9 (by kernel_rfl) rfl #[.int .i64 1, .int .i64 3, .int .i64 2] rfl (by (try simp only [List.map_toArray, List.map_cons, List.map_nil]); first | done | rfl | (simp only [List.length_drop, List.length_take]; rfl)) ?_; (with_reducible refine (impl_QuadFactors.calls k 1 3 2 t183 t184 t185 _ ?sideT A7.out).mono ?_); (case sideT => exact ⟨QpdC.tabs_below HT (by repeat (first | (with_reducible first | exact HB.out | apply below_alloc | apply pw_below_drewN | apply below_drew1) | exact HB.out))⟩); rintro e w19 ⟨v186, rfl, ho0, hb⟩; refine ⟨_, rfl, ?_⟩; have n0_ := Aside0.mk (Kd.N_elder' (by (with_reducible repeat (first | apply Kd.N_alloc | apply Kd.N_drewN | apply Kd.N_drew)); exact HO179.out) (Kd.S_base ho0) hb); have n1_ := Aside0.mk (Kd.R_below (by (with_reducible repeat (first | apply Kd.R_alloc | apply Kd.R_drewN | apply Kd.R_drew)); exact HO182.out) hb); have n2_ := Aside0.mk (Kd.N_lower (Kd.N_mono (ok' := fun k_ => some k_ ≠ (.slice Ao17 y177.length co17 : Value).ownBlock ∧ some k_ ≠ (v181 : Value).ownBlock) (Kd.S_N (Kd.S_bound ho0)) (fun k_ hk_ => ⟨(Kd.fresh' (Kd.N_lt (by (with_reducible repeat (first | apply Kd.N_alloc | apply Kd.N_drewN | apply Kd.N_drew)); exact HO179.out)) k_ hk_.2.1), (Kd.fresh' (Kd.R_lt (by (with_reducible repeat (first | apply Kd.R_alloc | apply Kd.R_drewN | apply Kd.R_drew)); exact HO182.out)) k_ hk_.2.1)⟩)) (below_size (by repeat (first | (with_reducible first | exact HB.out | apply below_alloc | apply pw_below_drewN | apply below_drew1) | exact HB.out)))); have n3_ := Aside0.mk (below_step (by repeat (first | (with_reducible first | exact HB.out | apply below_alloc | apply pw_below_drewN | apply below_drew1) | exact HB.out)) hb); clear HO179; clear HO182; clear HB; have HO179 := n0_; have HO182 := n1_; have HO187 := n2_; have HB := n3_; clear n0_ n1_ n2_ n3_; (try clear hb); (try clear hb2); (try clear hk); (try clear hi); (try clear ho0)))
  (try simp only [Act.put, List.setIfInBounds_toArray, List.set_cons_zero, List.set_cons_succ])
  go_cut [14] (fun v14 wc => ∃ (kq : Nat) (x14_7 : Bool), v14 = .bool x14_7 ∧ Aside0 (laws_FnQuadMade.j0 kq a0 a1 a2 a3 a4 t180 x14_7 = some r) ∧ Aside0 (kq ≤ k) ∧ Aside0 (Kd.R (Kd.int .i64) 3 wc w.heap.size (fun _ => True) v181 t180) ∧ Aside0 (Below w.heap.size w wc))
  case first =>
    have H := HC8.out
    clear HC8
    by_cases c20 : t185 = true
    · subst c20
      have H1 : (if t183 = 1 then (laws_FnQuadMade.j0 k a0 a1 a2 a3 a4 t180 ((t184.length : Int) == 2)) else (laws_FnQuadMade.j0 k a0 a1 a2 a3 a4 t180 false)) = some r := by rw [if_pos rfl] at H; exact H
      clear H
      have H := H1
      clear H1
      by_cases c21 : t183 = 1
      · rw [if_pos c21] at H
        have c21b0 : (t183 == 1) = true := beq_iff_eq.mpr c21
        have c21b1 : (t183 != 1) = false := bne_eq_false_iff_eq.mpr c21
        clear c21
        (first | rw [c21b0] | (simp only [i64_w, i32_w]; rw [c21b0]) | skip)
        have H' := Aside0.mk H
        clear H
        obtain ⟨Ao22, co22, eo22⟩ := Kd.N_slice HO187.out
        subst eo22
        go_wp2
        go_meet
        case rel => exact ⟨_, (((t184.length : Int) == 2)), (by first | rfl | (simp; done) | (simp [*]; done)), H', ⟨by first | omega | exact Nat.le_refl _⟩, ⟨by (with_reducible repeat (first | apply Kd.R_alloc | apply Kd.R_drewN | apply Kd.R_drew)); exact HO182.out⟩, ⟨by repeat (first | (with_reducible first | exact HB.out | apply below_alloc | apply pw_below_drewN | apply below_drew1) | exact HB.out)⟩⟩
      · rw [if_neg c21] at H
        have c21b0 : (t183 == 1) = false := beq_eq_false_iff_ne.mpr c21
        have c21b1 : (t183 != 1) = true := bne_iff_ne.mpr c21
        (first | rw [c21b0] | (simp only [i64_w, i32_w]; rw [c21b0]) | skip)
        have H' := Aside0.mk H
        clear H
        go_wp2
        go_meet
        case rel => exact ⟨_, (false), (by first | rfl | (simp; done) | (simp [*]; done)), H', ⟨by first | omega | exact Nat.le_refl _⟩, ⟨by (with_reducible repeat (first | apply Kd.R_alloc | apply Kd.R_drewN | apply Kd.R_drew)); exact HO182.out⟩, ⟨by repeat (first | (with_reducible first | exact HB.out | apply below_alloc | apply pw_below_drewN | apply below_drew1) | exact HB.out)⟩⟩
    · replace c20 := Bool.eq_false_iff.mpr c20
      subst c20
      have H1 : (laws_FnQuadMade.j0 k a0 a1 a2 a3 a4 t180 false) = some r := by rw [if_neg (show ¬ (false = true) by decide)] at H; exact H
      clear H
      have H := H1
      clear H1
      have H' := Aside0.mk H
      clear H
      go_wp2
      go_meet
      case rel => exact ⟨_, (false), (by first | rfl | (simp; done) | (simp [*]; done)), H', ⟨by first | omega | exact Nat.le_refl _⟩, ⟨by (with_reducible repeat (first | apply Kd.R_alloc | apply Kd.R_drewN | apply Kd.R_drew)); exact HO182.out⟩, ⟨by repeat (first | (with_reducible first | exact HB.out | apply below_alloc | apply pw_below_drewN | apply below_drew1) | exact HB.out)⟩⟩
  case rest =>
    clear HC8
    try clear c1
    try clear c2
    try clear p2
    try clear c5
    try clear c9
    try clear c12
    try clear c20
    try clear c21
    try clear c21b0
    try clear c21b1
    obtain ⟨kq, x14_7, rfl, HA, HJ7, HO_11, HB⟩ := hcut
    cases kq with
    | zero => exact absurd HA.out (by simp [laws_FnQuadMade.j0])
    | succ kj7 =>
      have H := HA.out
      clear HA
      simp only [laws_FnQuadMade.j0] at H
      have HC23 := Aside0.mk H
      clear H
      go_upto_region 4 with (fail)
      go_cut [15] (fun v15 wc => ∃ (kq : Nat) (x15_22 : Bool), v15 = .bool x15_22 ∧ Aside0 (laws_FnQuadMade.j1 kq a1 a2 a3 a4 t180 x14_7 x15_22 = some r) ∧ Aside0 (kq ≤ kj7) ∧ Aside0 (Kd.R (Kd.int .i64) 3 wc w.heap.size (fun _ => True) v181 t180) ∧ Aside0 (Below w.heap.size w wc))
      case first =>
        have H := HC23.out
        clear HC23
        by_cases c24 : a0 ≥ (-30)
        · rw [if_pos c24] at H
          have c24b0 : decide ((-30) ≤ a0) = true := decide_eq_true c24
          clear c24
          (first | rw [c24b0] | (simp only [i64_w, i32_w]; rw [c24b0]) | skip)
          have H' := Aside0.mk H
          clear H
          go_wp2
          go_meet
          case rel => exact ⟨_, (decide (a0 ≤ 30)), (by first | rfl | (simp; done) | (simp [*]; done)), H', ⟨by have := HJ7.out; first | omega | exact Nat.le_refl _⟩, ⟨by (with_reducible repeat (first | apply Kd.R_alloc | apply Kd.R_drewN | apply Kd.R_drew)); exact HO_11.out⟩, ⟨by repeat (first | (with_reducible first | exact HB.out | apply below_alloc | apply pw_below_drewN | apply below_drew1) | exact HB.out)⟩⟩
        · rw [if_neg c24] at H
          have c24b0 : decide ((-30) ≤ a0) = false := decide_eq_false c24
          clear c24
          (first | rw [c24b0] | (simp only [i64_w, i32_w]; rw [c24b0]) | skip)
          have H' := Aside0.mk H
          clear H
          go_wp2
          go_meet
          case rel => exact ⟨_, (false), (by first | rfl | (simp; done) | (simp [*]; done)), H', ⟨by have := HJ7.out; first | omega | exact Nat.le_refl _⟩, ⟨by (with_reducible repeat (first | apply Kd.R_alloc | apply Kd.R_drewN | apply Kd.R_drew)); exact HO_11.out⟩, ⟨by repeat (first | (with_reducible first | exact HB.out | apply below_alloc | apply pw_below_drewN | apply below_drew1) | exact HB.out)⟩⟩
      case rest =>
        clear HC23
        try clear c1
        try clear c2
        try clear p2
        try clear c5
        try clear c9
        try clear c12
        try clear c20
        try clear c21
        try clear c21b0
        try clear c21b1
        try clear c24
        try clear c24b0
        try clear p2
        obtain ⟨kq, x15_22, rfl, HA, HJ22, HO_11, HB⟩ := hcut
        cases kq with
        | zero => exact absurd HA.out (by simp [laws_FnQuadMade.j1])
        | succ kj22 =>
          have H := HA.out
          clear HA
          simp only [laws_FnQuadMade.j1] at H
          obtain ⟨y188, hy188⟩ : ∃ y_ : List Int, y_ = (([a1, a2, a3, a4] : List Int)) := ⟨_, rfl⟩
          replace H : (laws_FnQuadMade.l0 kj22 t180 x14_7 x15_22 y188 (y188.length : Int) 0) = some r := by first | (rw [hy188]; with_reducible exact H) | (have H2_ := (Option.bind_some _ _).symm.trans H; rw [hy188]; with_reducible exact H2_) | (have H2_ := (Option.bind_some _ _).symm.trans H; with_reducible exact H2_) | with_reducible exact H | (rw [hy188]; exact H) | exact H
          have Ny188 := Aside0.mk hy188
          clear hy188
          have H' := Aside0.mk H
          clear H
          go_wp2_with (first | ((with_reducible refine gate_dst (N := 55) rfl ?_); (try (refine gate_guard (by rfl) ?_; dsimp only)); refine Kd.R_lit (Kd.int .i64) _ 3 ?hg (N := 55) ?hd (xs := ([a1, a2, a3, a4] : List Int)) (inner := [.int .i64 a1, .int .i64 a2, .int .i64 a3, .int .i64 a4]) (ok := fun _ => True) (okp := fun _ => True) ?hr ?hp (fun _ hk => hk) trivial (Below.refl _ _) (Nat.le_refl _) (by simp) ?_; (case hd => rfl); (case hg => rfl); (case hr => first | (go_simp; done) | (go_simp; rfl)); (case hp => exact (Reps.one (show Kd.M (Kd.int .i64) _ _ _ a1 [.int .i64 a1] from rfl) (Reps.one (show Kd.M (Kd.int .i64) _ _ _ a2 [.int .i64 a2] from rfl) (Reps.one (show Kd.M (Kd.int .i64) _ _ _ a3 [.int .i64 a3] from rfl) (Reps.one (show Kd.M (Kd.int .i64) _ _ _ a4 [.int .i64 a4] from rfl) (Reps.none _ _)))))); intro v189 w25 ho26 hb hg_ hnew_; clear hg_ hnew_; (first | rw [← Ny188.out] at ho26 | (simp only [Int.reduceToNat] at ho26; rw [← Ny188.out] at ho26)); have n0_ := Aside0.mk (Kd.R_elder' (by (with_reducible repeat (first | apply Kd.R_alloc | apply Kd.R_drewN | apply Kd.R_drew)); exact HO_11.out) (Kd.R_base ho26) hb); have n1_ := Aside0.mk (Kd.R_lower (Kd.R_new' ho26 (Kd.R_lt (by (with_reducible repeat (first | apply Kd.R_alloc | apply Kd.R_drewN | apply Kd.R_drew)); exact HO_11.out))) (below_size (by repeat (first | (with_reducible first | exact HB.out | apply below_alloc | apply pw_below_drewN | apply below_drew1) | exact HB.out)))); have n2_ := Aside0.mk (below_step (by repeat (first | (with_reducible first | exact HB.out | apply below_alloc | apply pw_below_drewN | apply below_drew1) | exact HB.out)) hb); clear HO_11; clear HB; have HO_11 := n0_; have HO190 := n1_; have HB := n2_; clear n0_ n1_ n2_; clear hb ho26; obtain ⟨Ao27, co27, eo27⟩ := Kd.R_slice HO190.out; subst eo27))
          go_loopg [15, 57] kj22 (fun kq v15 v57 w' => ∃ (x15_3 : Bool) (x57_3 : Int), v15 = .bool x15_3 ∧ v57 = .int .i64 x57_3 ∧ Aside0 (laws_FnQuadMade.l0 kq t180 x14_7 x15_3 y188 (y188.length : Int) x57_3 = some r) ∧ Aside0 (kq ≤ kj22) ∧ Aside0 (Kd.R (Kd.int .i64) 3 w' w.heap.size (fun k_ => some k_ ≠ ((.slice Ao27 y188.length co27) : Value).ownBlock) v181 t180) ∧ Aside0 (Kd.R (Kd.int .i64) 3 w' w.heap.size (fun k_ => some k_ ≠ (v181 : Value).ownBlock) (.slice Ao27 y188.length co27) y188) ∧ Aside0 (Below w.heap.size w w'))
          case atStart => exact ⟨(x15_22), (0), (by first | rfl | (simp; done) | (simp [*]; done)), (by first | rfl | (simp; done) | (simp [*]; done)), H', ⟨Nat.le_refl _⟩, ⟨by (with_reducible repeat (first | apply Kd.R_alloc | apply Kd.R_drewN | apply Kd.R_drew)); exact Kd.R_mono HO_11.out (fun _ hk => hk.2)⟩, ⟨by (with_reducible repeat (first | apply Kd.R_alloc | apply Kd.R_drewN | apply Kd.R_drew)); exact Kd.R_mono HO190.out (fun _ hk => hk.2)⟩, ⟨by repeat (first | (with_reducible first | exact HB.out | apply below_alloc | apply pw_below_drewN | apply below_drew1) | exact HB.out)⟩⟩
          case round =>
            clear H'
            try clear c1
            try clear c2
            try clear p2
            try clear c5
            try clear c9
            try clear c12
            try clear c20
            try clear c21
            try clear c21b0
            try clear c21b1
            try clear c24
            try clear c24b0
            try clear p2
            obtain ⟨x15_3, x57_3, rfl, rfl, HA, HK3, HO_11, HO_55, HB⟩ := hrel
            cases gk with
            | zero => exact absurd HA.out (by simp [laws_FnQuadMade.l0])
            | succ k3 =>
              have H := HA.out
              clear HA
              simp only [laws_FnQuadMade.l0] at H
              by_cases c28 : x57_3 < (y188.length : Int)
              · rw [if_pos c28] at H
                have c28b0 : decide (x57_3 < (y188.length : Int)) = true := decide_eq_true c28
                clear c28
                by_cases c29 : 0 ≤ x57_3
                · rw [if_pos c29] at H
                  have c29b0 : decide (0 ≤ x57_3) = true := decide_eq_true c29
                  clear c29
                  by_cases c30 : x57_3 < (y188.length : Int)
                  · rw [if_pos c30] at H
                    have c30b0 : decide (x57_3 < (y188.length : Int)) = true := decide_eq_true c30
                    clear c30
                    by_cases c31 : x15_3 = true
                    · subst c31
                      have H1 : (if (rd y188 x57_3) ≥ (-100) then (laws_FnQuadMade.l0 k3 t180 x14_7 (decide ((rd y188 x57_3) ≤ 100)) y188 (y188.length : Int) (wrap64 (x57_3 + 1))) else (laws_FnQuadMade.l0 k3 t180 x14_7 false y188 (y188.length : Int) (wrap64 (x57_3 + 1)))) = some r := by rw [if_pos rfl] at H; exact H
                      clear H
                      have H := H1
                      clear H1
                      by_cases c32 : (rd y188 x57_3) ≥ (-100)
                      · rw [if_pos c32] at H
                        have c32b0 : decide ((-100) ≤ (rd y188 x57_3)) = true := decide_eq_true c32
                        clear c32
                        have H' := Aside0.mk H
                        clear H
                        have p191 : 0 ≤ (x57_3 : Int) := of_decide_eq_true (by first | (with_reducible assumption) | assumption)
                        have q191 : x57_3 < (y188.length : Int) := of_decide_eq_true (by first | (with_reducible assumption) | assumption)
                        obtain ⟨ad191, e191, hx191_0⟩ := Kd.at_int (Kd.R_reads' HO_55.out).2.2 x57_3 p191 q191
                        cases e191
                        replace p191 := eq_true p191
                        replace q191 := eq_true q191
                        go_wp2
                        go_roundg k3
                        case measure => have := HJ7.out; have := HJ22.out; have := HK3.out; omega
                        case rel => exact ⟨(decide ((rd y188 x57_3) ≤ 100)), (wrap64 (x57_3 + 1)), (by first | rfl | (simp; done) | (simp [*]; done)), (by first | rfl | (simp; done) | (simp [*]; done)), H', ⟨by have := HJ7.out; have := HJ22.out; have := HK3.out; omega⟩, ⟨by (with_reducible repeat (first | apply Kd.R_alloc | apply Kd.R_drewN | apply Kd.R_drew)); exact HO_11.out⟩, ⟨by (with_reducible repeat (first | apply Kd.R_alloc | apply Kd.R_drewN | apply Kd.R_drew)); exact HO_55.out⟩, ⟨by repeat (first | (with_reducible first | exact HB.out | apply below_alloc | apply pw_below_drewN | apply below_drew1) | exact HB.out)⟩⟩
                      · rw [if_neg c32] at H
                        have c32b0 : decide ((-100) ≤ (rd y188 x57_3)) = false := decide_eq_false c32
                        clear c32
                        have H' := Aside0.mk H
                        clear H
                        have p191 : 0 ≤ (x57_3 : Int) := of_decide_eq_true (by first | (with_reducible assumption) | assumption)
                        have q191 : x57_3 < (y188.length : Int) := of_decide_eq_true (by first | (with_reducible assumption) | assumption)
                        obtain ⟨ad191, e191, hx191_0⟩ := Kd.at_int (Kd.R_reads' HO_55.out).2.2 x57_3 p191 q191
                        cases e191
                        replace p191 := eq_true p191
                        replace q191 := eq_true q191
                        go_wp2
                        go_roundg k3
                        case measure => have := HJ7.out; have := HJ22.out; have := HK3.out; omega
                        case rel => exact ⟨(false), (wrap64 (x57_3 + 1)), (by first | rfl | (simp; done) | (simp [*]; done)), (by first | rfl | (simp; done) | (simp [*]; done)), H', ⟨by have := HJ7.out; have := HJ22.out; have := HK3.out; omega⟩, ⟨by (with_reducible repeat (first | apply Kd.R_alloc | apply Kd.R_drewN | apply Kd.R_drew)); exact HO_11.out⟩, ⟨by (with_reducible repeat (first | apply Kd.R_alloc | apply Kd.R_drewN | apply Kd.R_drew)); exact HO_55.out⟩, ⟨by repeat (first | (with_reducible first | exact HB.out | apply below_alloc | apply pw_below_drewN | apply below_drew1) | exact HB.out)⟩⟩
                    · replace c31 := Bool.eq_false_iff.mpr c31
                      subst c31
                      have H1 : (laws_FnQuadMade.l0 k3 t180 x14_7 false y188 (y188.length : Int) (wrap64 (x57_3 + 1))) = some r := by rw [if_neg (show ¬ (false = true) by decide)] at H; exact H
                      clear H
                      have H := H1
                      clear H1
                      have H' := Aside0.mk H
                      clear H
                      have p191 : 0 ≤ (x57_3 : Int) := of_decide_eq_true (by first | (with_reducible assumption) | assumption)
                      have q191 : x57_3 < (y188.length : Int) := of_decide_eq_true (by first | (with_reducible assumption) | assumption)
                      obtain ⟨ad191, e191, hx191_0⟩ := Kd.at_int (Kd.R_reads' HO_55.out).2.2 x57_3 p191 q191
                      cases e191
                      replace p191 := eq_true p191
                      replace q191 := eq_true q191
                      go_wp2
                      go_roundg k3
                      case measure => have := HJ7.out; have := HJ22.out; have := HK3.out; omega
                      case rel => exact ⟨(false), (wrap64 (x57_3 + 1)), (by first | rfl | (simp; done) | (simp [*]; done)), (by first | rfl | (simp; done) | (simp [*]; done)), H', ⟨by have := HJ7.out; have := HJ22.out; have := HK3.out; omega⟩, ⟨by (with_reducible repeat (first | apply Kd.R_alloc | apply Kd.R_drewN | apply Kd.R_drew)); exact HO_11.out⟩, ⟨by (with_reducible repeat (first | apply Kd.R_alloc | apply Kd.R_drewN | apply Kd.R_drew)); exact HO_55.out⟩, ⟨by repeat (first | (with_reducible first | exact HB.out | apply below_alloc | apply pw_below_drewN | apply below_drew1) | exact HB.out)⟩⟩
                  · rw [if_neg c30] at H
                    exact absurd H (by simp)
                · rw [if_neg c29] at H
                  exact absurd H (by simp)
              · rw [if_neg c28] at H
                have c28b0 : decide (x57_3 < (y188.length : Int)) = false := decide_eq_false c28
                clear c28
                have HC33 := Aside0.mk H
                clear H
                go_upto_region 10 with (fail)
                go_cut [78] (fun v78 wc => ∃ (kq : Nat) (x78_32 : Bool), v78 = .bool x78_32 ∧ Aside0 (laws_FnQuadMade.j3 kq t180 x14_7 x78_32 = some r) ∧ Aside0 (kq ≤ k3) ∧ Aside0 (Kd.R (Kd.int .i64) 3 wc w.heap.size (fun _ => True) v181 t180) ∧ Aside0 (Below w.heap.size w wc))
                case first =>
                  have H := HC33.out
                  clear HC33
                  by_cases c34 : x15_3 = true
                  · subst c34
                    have H1 : (if 0 < (t180.length : Int) then (laws_FnQuadMade.j3 k3 t180 x14_7 ((rd t180 0) == 0)) else (none)) = some r := by rw [if_pos rfl] at H; exact H
                    clear H
                    have H := H1
                    clear H1
                    by_cases c35 : 0 < (t180.length : Int)
                    · rw [if_pos c35] at H
                      have c35b0 : decide (0 < (t180.length : Int)) = true := decide_eq_true c35
                      have c35b1 : decide (0 < t180.length) = true := decide_eq_true (by omega)
                      clear c35
                      (first | rw [c35b0] | (simp only [i64_w, i32_w]; rw [c35b0]) | skip)
                      have H' := Aside0.mk H
                      clear H
                      obtain ⟨Ao36, co36, eo36⟩ := Kd.R_slice HO_11.out
                      subst eo36
                      have p192 : 0 ≤ (0 : Int) := (by omega)
                      have q192 : 0 < (t180.length : Int) := of_decide_eq_true (by first | (with_reducible assumption) | assumption)
                      obtain ⟨ad192, e192, hx192_0⟩ := Kd.at_int (Kd.R_reads' HO_11.out).2.2 0 p192 q192
                      cases e192
                      have qi192 : (0 < t180.length) = True := eq_true (by omega)
                      (try rw [show ((0 : Int)).toNat = 0 from rfl] at hx192_0)
                      (try rw [Addr.add_zero'] at hx192_0)
                      replace p192 := eq_true p192
                      replace q192 := eq_true q192
                      go_wp2
                      go_meet
                      case rel => exact ⟨_, (((rd t180 0) == 0)), (by first | rfl | (simp; done) | (simp [*]; done)), H', ⟨by have := HJ7.out; have := HJ22.out; have := HK3.out; first | omega | exact Nat.le_refl _⟩, ⟨by (with_reducible repeat (first | apply Kd.R_alloc | apply Kd.R_drewN | apply Kd.R_drew)); exact Kd.R_mono HO_11.out (fun _ hk => trivial)⟩, ⟨by repeat (first | (with_reducible first | exact HB.out | apply below_alloc | apply pw_below_drewN | apply below_drew1) | exact HB.out)⟩⟩
                    · rw [if_neg c35] at H
                      exact absurd H (by simp)
                  · replace c34 := Bool.eq_false_iff.mpr c34
                    subst c34
                    have H1 : (laws_FnQuadMade.j3 k3 t180 x14_7 true) = some r := by rw [if_neg (show ¬ (false = true) by decide)] at H; exact H
                    clear H
                    have H := H1
                    clear H1
                    have H' := Aside0.mk H
                    clear H
                    go_wp2
                    go_meet
                    case rel => exact ⟨_, (true), (by first | rfl | (simp; done) | (simp [*]; done)), H', ⟨by have := HJ7.out; have := HJ22.out; have := HK3.out; first | omega | exact Nat.le_refl _⟩, ⟨by (with_reducible repeat (first | apply Kd.R_alloc | apply Kd.R_drewN | apply Kd.R_drew)); exact Kd.R_mono HO_11.out (fun _ hk => trivial)⟩, ⟨by repeat (first | (with_reducible first | exact HB.out | apply below_alloc | apply pw_below_drewN | apply below_drew1) | exact HB.out)⟩⟩
                case rest =>
                  clear HC33
                  try clear c1
                  try clear p1
                  try clear q1
                  try clear hx1
                  try clear qi1
                  try clear c2
                  try clear p2
                  try clear c3
                  try clear c5
                  try clear p6
                  try clear c9
                  try clear c12
                  try clear p19
                  try clear q19
                  try clear hx19
                  try clear qi19
                  try clear c20
                  try clear c21
                  try clear c21b0
                  try clear c21b1
                  try clear c24
                  try clear c24b0
                  try clear c28
                  try clear c28b0
                  try clear c29
                  try clear c29b0
                  try clear c30
                  try clear c30b0
                  try clear c31
                  try clear c32
                  try clear c32b0
                  try clear c34
                  try clear c35
                  try clear c35b0
                  try clear c35b1
                  try clear hx191_0
                  try clear hx192_0
                  try clear p191
                  try clear p192
                  try clear p2
                  try clear q191
                  try clear q192
                  obtain ⟨kq, x78_32, rfl, HA, HJ32, HO_11, HB⟩ := hcut
                  cases kq with
                  | zero => exact absurd HA.out (by simp [laws_FnQuadMade.j3])
                  | succ kj32 =>
                    have H := HA.out
                    clear HA
                    simp only [laws_FnQuadMade.j3] at H
                    by_cases c37 : x78_32 = true
                    · subst c37
                      have H1 : (some x14_7) = some r := by rw [if_pos rfl] at H; exact H
                      clear H
                      have H := H1
                      clear H1
                      obtain rfl := Option.some.inj H
                      go_wp2
                      go_ret
                      exact ⟨by first | rfl | (simp [errW_none, errW_some] <;> rfl) | (simp [*, errW_none, errW_some] <;> rfl), by repeat (first | (with_reducible first | exact HB.out | apply below_alloc | apply pw_below_drewN | apply below_drew1) | exact HB.out)⟩
                    · replace c37 := Bool.eq_false_iff.mpr c37
                      subst c37
                      have H1 : (if 0 < (t180.length : Int) then (if 1 < (t180.length : Int) then (if 2 < (t180.length : Int) then ((impl_QuadFactors.f kj32 (rd t180 0) (rd t180 1) (rd t180 2)).bind fun bt196 => (if x14_7 = true then (if bt196.2.2 = true then ((spec_Multiplied.f kj32 bt196.1 bt196.2.1).bind fun t201 => ((spec_Same.f kj32 t201 t180).bind fun t204 => (some t204))) else (some false)) else (some false))) else (none)) else (none)) else (none)) = some r := by rw [if_neg (show ¬ (false = true) by decide)] at H; exact H
                      clear H
                      have H := H1
                      clear H1
                      by_cases c38 : 0 < (t180.length : Int)
                      · rw [if_pos c38] at H
                        have c38b0 : decide (0 < (t180.length : Int)) = true := decide_eq_true c38
                        have c38b1 : decide (0 < t180.length) = true := decide_eq_true (by omega)
                        clear c38
                        by_cases c39 : 1 < (t180.length : Int)
                        · rw [if_pos c39] at H
                          have c39b0 : decide (1 < (t180.length : Int)) = true := decide_eq_true c39
                          have c39b1 : decide (1 < t180.length) = true := decide_eq_true (by omega)
                          clear c39
                          by_cases c40 : 2 < (t180.length : Int)
                          · rw [if_pos c40] at H
                            have c40b0 : decide (2 < (t180.length : Int)) = true := decide_eq_true c40
                            have c40b1 : decide (2 < t180.length) = true := decide_eq_true (by omega)
                            clear c40
                            replace H := Option.bind_eq_some_iff.mp H
                            obtain ⟨⟨t196, t197, t198⟩, A410, H⟩ := H
                            replace H : (if x14_7 = true then (if t198 = true then ((spec_Multiplied.f kj32 t196 t197).bind fun t201 => ((spec_Same.f kj32 t201 t180).bind fun t204 => (some t204))) else (some false)) else (some false)) = some r := H
                            have A41 := Aside0.mk A410
                            clear A410
                            by_cases c42 : x14_7 = true
                            · subst c42
                              have H1 : (if t198 = true then ((spec_Multiplied.f kj32 t196 t197).bind fun t201 => ((spec_Same.f kj32 t201 t180).bind fun t204 => (some t204))) else (some false)) = some r := by rw [if_pos rfl] at H; exact H
                              clear H
                              have H := H1
                              clear H1
                              by_cases c43 : t198 = true
                              · subst c43
                                have H1 : ((spec_Multiplied.f kj32 t196 t197).bind fun t201 => ((spec_Same.f kj32 t201 t180).bind fun t204 => (some t204))) = some r := by rw [if_pos rfl] at H; exact H
                                clear H
                                have H := H1
                                clear H1
                                replace H := Option.bind_eq_some_iff.mp H
                                obtain ⟨t201, A440, H⟩ := H
                                replace H : ((spec_Same.f kj32 t201 t180).bind fun t204 => (some t204)) = some r := H
                                have A44 := Aside0.mk A440
                                clear A440
                                replace H := Option.bind_eq_some_iff.mp H
                                obtain ⟨t204, A450, H⟩ := H
                                replace H : (some t204) = some r := H
                                have A45 := Aside0.mk A450
                                clear A450
                                obtain rfl := Option.some.inj H
                                try go_wp2
                                have n0_ := Aside0.mk (Kd.R_drew HO_11.out)
                                have n1_ := Aside0.mk (below_drew1 HB.out)
                                clear HO_11
                                clear HB
                                have HO_11 := n0_
                                have HB := n1_
                                clear n0_ n1_
                                obtain ⟨Ao47, co47, eo47⟩ := Kd.R_slice HO_11.out
                                (first | subst eo47 | (injection eo47 with f1_ f2_ f3_; have f4_ := f1_.symm; have f5_ := f3_.symm; clear f1_ f2_ f3_; subst f4_; subst f5_))
                                have p193 : 0 ≤ (0 : Int) := (by omega)
                                have q193 : 0 < (t180.length : Int) := of_decide_eq_true (by first | (with_reducible assumption) | assumption)
                                obtain ⟨ad193, e193, hx193_0⟩ := Kd.at_int (Kd.R_reads' HO_11.out).2.2 0 p193 q193
                                cases e193
                                have qi193 : (0 < t180.length) = True := eq_true (by omega)
                                (try rw [show ((0 : Int)).toNat = 0 from rfl] at hx193_0)
                                (try rw [Addr.add_zero'] at hx193_0)
                                replace p193 := eq_true p193
                                replace q193 := eq_true q193
                                have p194 : 0 ≤ (1 : Int) := (by omega)
                                have q194 : 1 < (t180.length : Int) := of_decide_eq_true (by first | (with_reducible assumption) | assumption)
                                obtain ⟨ad194, e194, hx194_0⟩ := Kd.at_int (Kd.R_reads' HO_11.out).2.2 1 p194 q194
                                obtain rfl : ad193 = ad194 := (by injection e194)
                                (try simp only [show (1 : Int).toNat = 1 from rfl, Nat.reduceMul, Nat.reduceEqDiff, Go.Addr.add, ↓reduceIte] at hx194_0)
                                have qi194 : (1 < t180.length) = True := eq_true (by omega)
                                (try rw [show ((1 : Int)).toNat = 1 from rfl] at hx194_0)
                                replace p194 := eq_true p194
                                replace q194 := eq_true q194
                                have p195 : 0 ≤ (2 : Int) := (by omega)
                                have q195 : 2 < (t180.length : Int) := of_decide_eq_true (by first | (with_reducible assumption) | assumption)
                                obtain ⟨ad195, e195, hx195_0⟩ := Kd.at_int (Kd.R_reads' HO_11.out).2.2 2 p195 q195
                                obtain rfl : ad193 = ad195 := (by injection e195)
                                (try simp only [show (2 : Int).toNat = 2 from rfl, Nat.reduceMul, Nat.reduceEqDiff, Go.Addr.add, ↓reduceIte] at hx195_0)
                                have qi195 : (2 < t180.length) = True := eq_true (by omega)
                                (try rw [show ((2 : Int)).toNat = 2 from rfl] at hx195_0)
                                replace p195 := eq_true p195
                                replace q195 := eq_true q195
                                refine start_ (n := 17) (S := fun w' => w'.cell? ad193 = some (.int .i64 (rd t180 0)) ∧ w'.cell? ⟨ad193.block, ad193.off + 1, none⟩ = some (.int .i64 (rd t180 1)) ∧ w'.cell? ⟨ad193.block, ad193.off + 2, none⟩ = some (.int .i64 (rd t180 2))) (ds := []) #[false, false, false, false, false, false, false, false, false, false, false, false, false, false, false, false, false] (by kernel_rfl) rfl rfl ⟨hx193_0, hx194_0, hx195_0⟩ (fun hHeld => ?_); refine with_tabW laws_FnQuadMade.tab12 laws_FnQuadMade.bits12 (fun HT_ HW_ => ?_)
                                generalize wc.drew = w46 at HO_11 HB hx193_0 hx194_0 hx195_0 hHeld ⊢
                                refine pure_ (i := 0) (N := some 81) (v := ?_) (a' := ?_) #[true, false, false, false, false, false, false, false, false, false, false, false, false, false, false, false, false] rfl rfl (any_of HT_.out (by kernel_rfl)) (fun _ _ _ h => h) (Or.inl ⟨by rfl, ?_⟩) ?_ ?_
                                rotate_left
                                · intro w'
                                  go_simp
                                  with_reducible rfl
                                rotate_left
                                · simp only [Act.put, List.setIfInBounds_toArray, List.set_cons_zero, List.set_cons_succ, i64_w, i32_w]
                                  rfl
                                refine pure_ (i := 1) (N := some 82) (v := ?_) (a' := ?_) #[true, true, false, false, false, false, false, false, false, false, false, false, false, false, false, false, false] rfl rfl (any_of HT_.out (by kernel_rfl)) (fun _ _ _ h => h) (Or.inl ⟨by rfl, ?_⟩) ?_ ?_
                                rotate_left
                                · intro w'
                                  go_simp
                                  with_reducible rfl
                                rotate_left
                                · simp only [Act.put, List.setIfInBounds_toArray, List.set_cons_zero, List.set_cons_succ, i64_w, i32_w]
                                  rfl
                                refine pure_ (i := 3) (N := some 84) (v := ?_) (a' := ?_) #[true, true, false, true, false, false, false, false, false, false, false, false, false, false, false, false, false] rfl rfl (any_of HT_.out (by kernel_rfl)) (fun _ _ _ h => h) (Or.inl ⟨by rfl, ?_⟩) ?_ ?_
                                rotate_left
                                · intro w'
                                  go_simp
                                  with_reducible rfl
                                rotate_left
                                · simp only [Act.put, List.setIfInBounds_toArray, List.set_cons_zero, List.set_cons_succ, i64_w, i32_w]
                                  rfl
                                refine pure_ (i := 4) (N := some 85) (v := ?_) (a' := ?_) #[true, true, false, true, true, false, false, false, false, false, false, false, false, false, false, false, false] rfl rfl (any_of HT_.out (by kernel_rfl)) (fun _ _ _ h => h) (Or.inl ⟨by rfl, ?_⟩) ?_ ?_
                                rotate_left
                                · intro w'
                                  go_simp
                                  with_reducible rfl
                                rotate_left
                                · simp only [Act.put, List.setIfInBounds_toArray, List.set_cons_zero, List.set_cons_succ, i64_w, i32_w]
                                  rfl
                                refine pure_ (i := 6) (N := some 87) (v := ?_) (a' := ?_) #[true, true, false, true, true, false, true, false, false, false, false, false, false, false, false, false, false] rfl rfl (any_of HT_.out (by kernel_rfl)) (fun _ _ _ h => h) (Or.inl ⟨by rfl, ?_⟩) ?_ ?_
                                rotate_left
                                · intro w'
                                  go_simp
                                  with_reducible rfl
                                rotate_left
                                · simp only [Act.put, List.setIfInBounds_toArray, List.set_cons_zero, List.set_cons_succ, i64_w, i32_w]
                                  rfl
                                refine pure_ (i := 7) (N := some 88) (v := ?_) (a' := ?_) #[true, true, false, true, true, false, true, true, false, false, false, false, false, false, false, false, false] rfl rfl (any_of HT_.out (by kernel_rfl)) (fun _ _ _ h => h) (Or.inl ⟨by rfl, ?_⟩) ?_ ?_
                                rotate_left
                                · intro w'
                                  go_simp
                                  with_reducible rfl
                                rotate_left
                                · simp only [Act.put, List.setIfInBounds_toArray, List.set_cons_zero, List.set_cons_succ, i64_w, i32_w]
                                  rfl
                                refine take_ (i := 2) (N := some 83) (v := ?_) (a' := ?_) #[true, true, true, true, true, false, true, true, false, false, false, false, false, false, false, false, false] rfl rfl (take_ofW HT_.out HW_.out (by kernel_rfl)) (fun _ _ _ h => h) (Or.inl ⟨by rfl, ?_⟩) hHeld ?_ ?_
                                rotate_left
                                · rintro w' ⟨s0, s1, s2⟩
                                  go_simp
                                  with_reducible rfl
                                rotate_left
                                · simp only [Act.put, List.setIfInBounds_toArray, List.set_cons_zero, List.set_cons_succ, i64_w, i32_w]
                                  rfl
                                refine take_ (i := 5) (N := some 86) (v := ?_) (a' := ?_) #[true, true, true, true, true, true, true, true, false, false, false, false, false, false, false, false, false] rfl rfl (take_ofW HT_.out HW_.out (by kernel_rfl)) (fun _ _ _ h => h) (Or.inl ⟨by rfl, ?_⟩) hHeld ?_ ?_
                                rotate_left
                                · rintro w' ⟨s0, s1, s2⟩
                                  go_simp
                                  with_reducible rfl
                                rotate_left
                                · simp only [Act.put, List.setIfInBounds_toArray, List.set_cons_zero, List.set_cons_succ, i64_w, i32_w]
                                  rfl
                                refine take_ (i := 8) (N := some 89) (v := ?_) (a' := ?_) #[true, true, true, true, true, true, true, true, true, false, false, false, false, false, false, false, false] rfl rfl (take_ofW HT_.out HW_.out (by kernel_rfl)) (fun _ _ _ h => h) (Or.inl ⟨by rfl, ?_⟩) hHeld ?_ ?_
                                rotate_left
                                · rintro w' ⟨s0, s1, s2⟩
                                  go_simp
                                  with_reducible rfl
                                rotate_left
                                · simp only [Act.put, List.setIfInBounds_toArray, List.set_cons_zero, List.set_cons_succ, i64_w, i32_w]
                                  rfl
                                refine one_ (i := 9) (N := some 90) #[true, true, true, true, true, true, true, true, true, true, false, false, false, false, false, false, false] rfl rfl (one_of HT_.out (by kernel_rfl)) (by decide) (fun K hK => ?_)
                                refine goes_ Tryd.func9 (by kernel_rfl) rfl #[.int .i64 (rd t180 0), .int .i64 (rd t180 1), .int .i64 (rd t180 2)] (by rfl) rfl rfl (by (try simp only [List.map_toArray, List.map_cons, List.map_nil]); first | done | rfl | (simp only [List.length_drop, List.length_take]; rfl)) ?_
                                with_reducible refine (impl_QuadFactors.calls kj32 (rd t180 0) (rd t180 1) (rd t180 2) t196 t197 true _ ?sideT A41.out).mono ?_
                                case sideT => exact ⟨QpdC.tabs_below HT (by repeat (first | (with_reducible first | exact HB.out | apply below_alloc | apply pw_below_drewN | apply below_drew1) | exact HB.out))⟩
                                rintro e w48 ⟨v199, rfl, ho0, hb⟩
                                have HS0_ := (hb.cell (World.block_lt_of_cell? _ _ (hHeld.1))).trans (hHeld.1)
                                have HS1_ := (hb.cell (World.block_lt_of_cell? _ _ (hHeld.2.1))).trans (hHeld.2.1)
                                have HS2_ := (hb.cell (World.block_lt_of_cell? _ _ (hHeld.2.2))).trans (hHeld.2.2)
                                refine ⟨_, rfl, ?_⟩
                                have n0_ := Aside0.mk (Kd.R_below (by (with_reducible repeat (first | apply Kd.R_alloc | apply Kd.R_drewN | apply Kd.R_drew)); exact HO_11.out) hb)
                                have n1_ := Aside0.mk (Kd.N_lower (Kd.N_mono (ok' := fun k_ => some k_ ≠ (.slice (some ad193) t180.length co47 : Value).ownBlock) (Kd.S_N (Kd.S_bound ho0)) (fun k_ hk_ => (Kd.fresh' (Kd.R_lt (by (with_reducible repeat (first | apply Kd.R_alloc | apply Kd.R_drewN | apply Kd.R_drew)); exact HO_11.out)) k_ hk_.2.1))) (below_size (by repeat (first | (with_reducible first | exact HB.out | apply below_alloc | apply pw_below_drewN | apply below_drew1) | exact HB.out))))
                                have n2_ := Aside0.mk (below_step (by repeat (first | (with_reducible first | exact HB.out | apply below_alloc | apply pw_below_drewN | apply below_drew1) | exact HB.out)) hb)
                                clear HO_11
                                clear HB
                                have HO_11 := n0_
                                have HO200 := n1_
                                have HB := n2_
                                clear n0_ n1_ n2_
                                (try clear hb)
                                (try clear hb2)
                                (try clear hk)
                                (try clear hi)
                                (try clear ho0)
                                refine hK.out _ _ ⟨HS0_, HS1_, HS2_⟩ (fun hHeld => ?_)
                                clear hK K
                                refine norm_ (a' := ?_) ?_ ?_
                                rotate_left
                                · show Act.put _ (some 90) _ = _
                                  simp only [Act.put, List.setIfInBounds_toArray, List.set_cons_zero, List.set_cons_succ, i64_w, i32_w]
                                  rfl
                                refine pure_ (i := 10) (N := some 80) (v := ?_) (a' := ?_) #[true, true, true, true, true, true, true, true, true, true, true, false, false, false, false, false, false] rfl rfl (any_of HT_.out (by kernel_rfl)) (fun _ _ _ h => h) (Or.inl ⟨by rfl, ?_⟩) ?_ ?_
                                rotate_left
                                · intro w'
                                  go_simp
                                  with_reducible rfl
                                rotate_left
                                · simp only [Act.put, List.setIfInBounds_toArray, List.set_cons_zero, List.set_cons_succ, i64_w, i32_w]
                                  rfl
                                refine pure_ (i := 11) (N := some 91) (v := ?_) (a' := ?_) #[true, true, true, true, true, true, true, true, true, true, true, true, false, false, false, false, false] rfl rfl (any_of HT_.out (by kernel_rfl)) (fun _ _ _ h => h) (Or.inl ⟨by rfl, ?_⟩) ?_ ?_
                                rotate_left
                                · intro w'
                                  go_simp
                                  with_reducible rfl
                                rotate_left
                                · simp only [Act.put, List.setIfInBounds_toArray, List.set_cons_zero, List.set_cons_succ, i64_w, i32_w]
                                  rfl
                                refine pure_ (i := 12) (N := some 92) (v := ?_) (a' := ?_) #[true, true, true, true, true, true, true, true, true, true, true, true, true, false, false, false, false] rfl rfl (any_of HT_.out (by kernel_rfl)) (fun _ _ _ h => h) (Or.inl ⟨by rfl, ?_⟩) ?_ ?_
                                rotate_left
                                · intro w'
                                  go_simp
                                  with_reducible rfl
                                rotate_left
                                · simp only [Act.put, List.setIfInBounds_toArray, List.set_cons_zero, List.set_cons_succ, i64_w, i32_w]
                                  rfl
                                refine pure_ (i := 13) (N := some 93) (v := ?_) (a' := ?_) #[true, true, true, true, true, true, true, true, true, true, true, true, true, true, false, false, false] rfl rfl (any_of HT_.out (by kernel_rfl)) (fun _ _ _ h => h) (Or.inl ⟨by rfl, ?_⟩) ?_ ?_
                                rotate_left
                                · intro w'
                                  go_simp
                                  with_reducible rfl
                                rotate_left
                                · simp only [Act.put, List.setIfInBounds_toArray, List.set_cons_zero, List.set_cons_succ, i64_w, i32_w]
                                  rfl
                                refine pure_ (i := 14) (N := some 18) (v := ?_) (a' := ?_) #[true, true, true, true, true, true, true, true, true, true, true, true, true, true, true, false, false] rfl rfl (any_of HT_.out (by kernel_rfl)) (fun _ _ _ h => h) (Or.inl ⟨by rfl, ?_⟩) ?_ ?_
                                rotate_left
                                · intro w'
                                  go_simp
                                  with_reducible rfl
                                rotate_left
                                · simp only [Act.put, List.setIfInBounds_toArray, List.set_cons_zero, List.set_cons_succ, i64_w, i32_w]
                                  rfl
                                refine pure_ (i := 15) (N := some 19) (v := ?_) (a' := ?_) #[true, true, true, true, true, true, true, true, true, true, true, true, true, true, true, true, false] rfl rfl (any_of HT_.out (by kernel_rfl)) (fun _ _ _ h => h) (Or.inl ⟨by rfl, ?_⟩) ?_ ?_
                                rotate_left
                                · intro w'
                                  go_simp
                                  with_reducible rfl
                                rotate_left
                                · simp only [Act.put, List.setIfInBounds_toArray, List.set_cons_zero, List.set_cons_succ, i64_w, i32_w]
                                  rfl
                                refine pure_ (i := 16) (N := some 20) (v := ?_) (a' := ?_) #[true, true, true, true, true, true, true, true, true, true, true, true, true, true, true, true, true] rfl rfl (any_of HT_.out (by kernel_rfl)) (fun _ _ _ h => h) (Or.inl ⟨by rfl, ?_⟩) ?_ ?_
                                rotate_left
                                · intro w'
                                  go_simp
                                  with_reducible rfl
                                rotate_left
                                · simp only [Act.put, List.setIfInBounds_toArray, List.set_cons_zero, List.set_cons_succ, i64_w, i32_w]
                                  rfl
                                refine done_ (done_of HT_.out (by kernel_rfl)) ?_
                                obtain ⟨Ao49, co49, eo49⟩ := Kd.N_slice HO200.out
                                subst eo49
                                try go_wp2_with (first | (go_at_call 12; (with_reducible refine (spec_Multiplied.calls kj32 t196 _ _ t197 t201 _ ?side1 ?side2 A44.out).mono ?_); (case side1 => repeat (first | exact (Kd.N_reads' HO200.out).2.2 | (with_reducible refine Kd.C_alloc ?_ _) | (with_reducible refine Kd.C_drewN ?_ _) | (with_reducible refine Kd.C_drew ?_))); (case side2 => exact (Kd.N_reads' HO200.out).2.1); rintro e w50 ⟨v202, rfl, ho0, hb⟩; have n0_ := Aside0.mk (Kd.R_elder' (by (with_reducible repeat (first | apply Kd.R_alloc | apply Kd.R_drewN | apply Kd.R_drew)); exact HO_11.out) (Kd.R_base ho0) hb); have n1_ := Aside0.mk (Kd.N_elder' (by (with_reducible repeat (first | apply Kd.N_alloc | apply Kd.N_drewN | apply Kd.N_drew)); exact HO200.out) (Kd.R_base ho0) hb); have n2_ := Aside0.mk (Kd.R_lower (Kd.R_new' ho0 (Kd.R_lt (by (with_reducible repeat (first | apply Kd.R_alloc | apply Kd.R_drewN | apply Kd.R_drew)); exact HO_11.out))) (below_size (by repeat (first | (with_reducible first | exact HB.out | apply below_alloc | apply pw_below_drewN | apply below_drew1) | exact HB.out)))); have n3_ := Aside0.mk (below_step (by repeat (first | (with_reducible first | exact HB.out | apply below_alloc | apply pw_below_drewN | apply below_drew1) | exact HB.out)) hb); clear HO_11; clear HO200; clear HB; have HO_11 := n0_; have HO200 := n1_; have HO203 := n2_; have HB := n3_; clear n0_ n1_ n2_ n3_; (try clear hb); (try clear hb2); (try clear hk); (try clear hi); (try clear ho0); obtain ⟨Ao51, co51, eo51⟩ := Kd.R_slice HO203.out; subst eo51) | (go_at_call 11; (with_reducible refine (spec_Same.calls kj32 _ _ t201 _ _ t180 t204 _ ?side1 ?side2 ?side3 ?side4 A45.out).mono ?_); (case side1 => repeat (first | exact (Kd.R_reads' HO203.out).2.2 | (with_reducible refine Kd.C_alloc ?_ _) | (with_reducible refine Kd.C_drewN ?_ _) | (with_reducible refine Kd.C_drew ?_))); (case side2 => exact (Kd.R_reads' HO203.out).2.1); (case side3 => repeat (first | exact (Kd.R_reads' HO_11.out).2.2 | (with_reducible refine Kd.C_alloc ?_ _) | (with_reducible refine Kd.C_drewN ?_ _) | (with_reducible refine Kd.C_drew ?_))); (case side4 => exact (Kd.R_reads' HO_11.out).2.1); rintro e w' ⟨rfl, ⟨nd, rfl⟩⟩))
                                go_ret
                                exact ⟨by first | rfl | (simp [errW_none, errW_some] <;> rfl) | (simp [*, errW_none, errW_some] <;> rfl), by repeat (first | (with_reducible first | exact HB.out | apply below_alloc | apply pw_below_drewN | apply below_drew1) | exact HB.out)⟩
                              · replace c43 := Bool.eq_false_iff.mpr c43
                                subst c43
                                have H1 : (some false) = some r := by rw [if_neg (show ¬ (false = true) by decide)] at H; exact H
                                clear H
                                have H := H1
                                clear H1
                                obtain rfl := Option.some.inj H
                                try go_wp2
                                have n0_ := Aside0.mk (Kd.R_drew HO_11.out)
                                have n1_ := Aside0.mk (below_drew1 HB.out)
                                clear HO_11
                                clear HB
                                have HO_11 := n0_
                                have HB := n1_
                                clear n0_ n1_
                                obtain ⟨Ao53, co53, eo53⟩ := Kd.R_slice HO_11.out
                                (first | subst eo53 | (injection eo53 with f1_ f2_ f3_; have f4_ := f1_.symm; have f5_ := f3_.symm; clear f1_ f2_ f3_; subst f4_; subst f5_))
                                have p193 : 0 ≤ (0 : Int) := (by omega)
                                have q193 : 0 < (t180.length : Int) := of_decide_eq_true (by first | (with_reducible assumption) | assumption)
                                obtain ⟨ad193, e193, hx193_0⟩ := Kd.at_int (Kd.R_reads' HO_11.out).2.2 0 p193 q193
                                cases e193
                                have qi193 : (0 < t180.length) = True := eq_true (by omega)
                                (try rw [show ((0 : Int)).toNat = 0 from rfl] at hx193_0)
                                (try rw [Addr.add_zero'] at hx193_0)
                                replace p193 := eq_true p193
                                replace q193 := eq_true q193
                                have p194 : 0 ≤ (1 : Int) := (by omega)
                                have q194 : 1 < (t180.length : Int) := of_decide_eq_true (by first | (with_reducible assumption) | assumption)
                                obtain ⟨ad194, e194, hx194_0⟩ := Kd.at_int (Kd.R_reads' HO_11.out).2.2 1 p194 q194
                                obtain rfl : ad193 = ad194 := (by injection e194)
                                (try simp only [show (1 : Int).toNat = 1 from rfl, Nat.reduceMul, Nat.reduceEqDiff, Go.Addr.add, ↓reduceIte] at hx194_0)
                                have qi194 : (1 < t180.length) = True := eq_true (by omega)
                                (try rw [show ((1 : Int)).toNat = 1 from rfl] at hx194_0)
                                replace p194 := eq_true p194
                                replace q194 := eq_true q194
                                have p195 : 0 ≤ (2 : Int) := (by omega)
                                have q195 : 2 < (t180.length : Int) := of_decide_eq_true (by first | (with_reducible assumption) | assumption)
                                obtain ⟨ad195, e195, hx195_0⟩ := Kd.at_int (Kd.R_reads' HO_11.out).2.2 2 p195 q195
                                obtain rfl : ad193 = ad195 := (by injection e195)
                                (try simp only [show (2 : Int).toNat = 2 from rfl, Nat.reduceMul, Nat.reduceEqDiff, Go.Addr.add, ↓reduceIte] at hx195_0)
                                have qi195 : (2 < t180.length) = True := eq_true (by omega)
                                (try rw [show ((2 : Int)).toNat = 2 from rfl] at hx195_0)
                                replace p195 := eq_true p195
                                replace q195 := eq_true q195
                                refine start_ (n := 17) (S := fun w' => w'.cell? ad193 = some (.int .i64 (rd t180 0)) ∧ w'.cell? ⟨ad193.block, ad193.off + 1, none⟩ = some (.int .i64 (rd t180 1)) ∧ w'.cell? ⟨ad193.block, ad193.off + 2, none⟩ = some (.int .i64 (rd t180 2))) (ds := []) #[false, false, false, false, false, false, false, false, false, false, false, false, false, false, false, false, false] (by kernel_rfl) rfl rfl ⟨hx193_0, hx194_0, hx195_0⟩ (fun hHeld => ?_); refine with_tabW laws_FnQuadMade.tab12 laws_FnQuadMade.bits12 (fun HT_ HW_ => ?_)
                                generalize wc.drew = w52 at HO_11 HB hx193_0 hx194_0 hx195_0 hHeld ⊢
                                refine pure_ (i := 0) (N := some 81) (v := ?_) (a' := ?_) #[true, false, false, false, false, false, false, false, false, false, false, false, false, false, false, false, false] rfl rfl (any_of HT_.out (by kernel_rfl)) (fun _ _ _ h => h) (Or.inl ⟨by rfl, ?_⟩) ?_ ?_
                                rotate_left
                                · intro w'
                                  go_simp
                                  with_reducible rfl
                                rotate_left
                                · simp only [Act.put, List.setIfInBounds_toArray, List.set_cons_zero, List.set_cons_succ, i64_w, i32_w]
                                  rfl
                                refine pure_ (i := 1) (N := some 82) (v := ?_) (a' := ?_) #[true, true, false, false, false, false, false, false, false, false, false, false, false, false, false, false, false] rfl rfl (any_of HT_.out (by kernel_rfl)) (fun _ _ _ h => h) (Or.inl ⟨by rfl, ?_⟩) ?_ ?_
                                rotate_left
                                · intro w'
                                  go_simp
                                  with_reducible rfl
                                rotate_left
                                · simp only [Act.put, List.setIfInBounds_toArray, List.set_cons_zero, List.set_cons_succ, i64_w, i32_w]
                                  rfl
                                refine pure_ (i := 3) (N := some 84) (v := ?_) (a' := ?_) #[true, true, false, true, false, false, false, false, false, false, false, false, false, false, false, false, false] rfl rfl (any_of HT_.out (by kernel_rfl)) (fun _ _ _ h => h) (Or.inl ⟨by rfl, ?_⟩) ?_ ?_
                                rotate_left
                                · intro w'
                                  go_simp
                                  with_reducible rfl
                                rotate_left
                                · simp only [Act.put, List.setIfInBounds_toArray, List.set_cons_zero, List.set_cons_succ, i64_w, i32_w]
                                  rfl
                                refine pure_ (i := 4) (N := some 85) (v := ?_) (a' := ?_) #[true, true, false, true, true, false, false, false, false, false, false, false, false, false, false, false, false] rfl rfl (any_of HT_.out (by kernel_rfl)) (fun _ _ _ h => h) (Or.inl ⟨by rfl, ?_⟩) ?_ ?_
                                rotate_left
                                · intro w'
                                  go_simp
                                  with_reducible rfl
                                rotate_left
                                · simp only [Act.put, List.setIfInBounds_toArray, List.set_cons_zero, List.set_cons_succ, i64_w, i32_w]
                                  rfl
                                refine pure_ (i := 6) (N := some 87) (v := ?_) (a' := ?_) #[true, true, false, true, true, false, true, false, false, false, false, false, false, false, false, false, false] rfl rfl (any_of HT_.out (by kernel_rfl)) (fun _ _ _ h => h) (Or.inl ⟨by rfl, ?_⟩) ?_ ?_
                                rotate_left
                                · intro w'
                                  go_simp
                                  with_reducible rfl
                                rotate_left
                                · simp only [Act.put, List.setIfInBounds_toArray, List.set_cons_zero, List.set_cons_succ, i64_w, i32_w]
                                  rfl
                                refine pure_ (i := 7) (N := some 88) (v := ?_) (a' := ?_) #[true, true, false, true, true, false, true, true, false, false, false, false, false, false, false, false, false] rfl rfl (any_of HT_.out (by kernel_rfl)) (fun _ _ _ h => h) (Or.inl ⟨by rfl, ?_⟩) ?_ ?_
                                rotate_left
                                · intro w'
                                  go_simp
                                  with_reducible rfl
                                rotate_left
                                · simp only [Act.put, List.setIfInBounds_toArray, List.set_cons_zero, List.set_cons_succ, i64_w, i32_w]
                                  rfl
                                refine take_ (i := 2) (N := some 83) (v := ?_) (a' := ?_) #[true, true, true, true, true, false, true, true, false, false, false, false, false, false, false, false, false] rfl rfl (take_ofW HT_.out HW_.out (by kernel_rfl)) (fun _ _ _ h => h) (Or.inl ⟨by rfl, ?_⟩) hHeld ?_ ?_
                                rotate_left
                                · rintro w' ⟨s0, s1, s2⟩
                                  go_simp
                                  with_reducible rfl
                                rotate_left
                                · simp only [Act.put, List.setIfInBounds_toArray, List.set_cons_zero, List.set_cons_succ, i64_w, i32_w]
                                  rfl
                                refine take_ (i := 5) (N := some 86) (v := ?_) (a' := ?_) #[true, true, true, true, true, true, true, true, false, false, false, false, false, false, false, false, false] rfl rfl (take_ofW HT_.out HW_.out (by kernel_rfl)) (fun _ _ _ h => h) (Or.inl ⟨by rfl, ?_⟩) hHeld ?_ ?_
                                rotate_left
                                · rintro w' ⟨s0, s1, s2⟩
                                  go_simp
                                  with_reducible rfl
                                rotate_left
                                · simp only [Act.put, List.setIfInBounds_toArray, List.set_cons_zero, List.set_cons_succ, i64_w, i32_w]
                                  rfl
                                refine take_ (i := 8) (N := some 89) (v := ?_) (a' := ?_) #[true, true, true, true, true, true, true, true, true, false, false, false, false, false, false, false, false] rfl rfl (take_ofW HT_.out HW_.out (by kernel_rfl)) (fun _ _ _ h => h) (Or.inl ⟨by rfl, ?_⟩) hHeld ?_ ?_
                                rotate_left
                                · rintro w' ⟨s0, s1, s2⟩
                                  go_simp
                                  with_reducible rfl
                                rotate_left
                                · simp only [Act.put, List.setIfInBounds_toArray, List.set_cons_zero, List.set_cons_succ, i64_w, i32_w]
                                  rfl
                                refine one_ (i := 9) (N := some 90) #[true, true, true, true, true, true, true, true, true, true, false, false, false, false, false, false, false] rfl rfl (one_of HT_.out (by kernel_rfl)) (by decide) (fun K hK => ?_)
                                refine goes_ Tryd.func9 (by kernel_rfl) rfl #[.int .i64 (rd t180 0), .int .i64 (rd t180 1), .int .i64 (rd t180 2)] (by rfl) rfl rfl (by (try simp only [List.map_toArray, List.map_cons, List.map_nil]); first | done | rfl | (simp only [List.length_drop, List.length_take]; rfl)) ?_
                                with_reducible refine (impl_QuadFactors.calls kj32 (rd t180 0) (rd t180 1) (rd t180 2) t196 t197 false _ ?sideT A41.out).mono ?_
                                case sideT => exact ⟨QpdC.tabs_below HT (by repeat (first | (with_reducible first | exact HB.out | apply below_alloc | apply pw_below_drewN | apply below_drew1) | exact HB.out))⟩
                                rintro e w54 ⟨v199, rfl, ho0, hb⟩
                                have HS0_ := (hb.cell (World.block_lt_of_cell? _ _ (hHeld.1))).trans (hHeld.1)
                                have HS1_ := (hb.cell (World.block_lt_of_cell? _ _ (hHeld.2.1))).trans (hHeld.2.1)
                                have HS2_ := (hb.cell (World.block_lt_of_cell? _ _ (hHeld.2.2))).trans (hHeld.2.2)
                                refine ⟨_, rfl, ?_⟩
                                have n0_ := Aside0.mk (Kd.R_below (by (with_reducible repeat (first | apply Kd.R_alloc | apply Kd.R_drewN | apply Kd.R_drew)); exact HO_11.out) hb)
                                have n1_ := Aside0.mk (Kd.N_lower (Kd.N_mono (ok' := fun k_ => some k_ ≠ (.slice (some ad193) t180.length co53 : Value).ownBlock) (Kd.S_N (Kd.S_bound ho0)) (fun k_ hk_ => (Kd.fresh' (Kd.R_lt (by (with_reducible repeat (first | apply Kd.R_alloc | apply Kd.R_drewN | apply Kd.R_drew)); exact HO_11.out)) k_ hk_.2.1))) (below_size (by repeat (first | (with_reducible first | exact HB.out | apply below_alloc | apply pw_below_drewN | apply below_drew1) | exact HB.out))))
                                have n2_ := Aside0.mk (below_step (by repeat (first | (with_reducible first | exact HB.out | apply below_alloc | apply pw_below_drewN | apply below_drew1) | exact HB.out)) hb)
                                clear HO_11
                                clear HB
                                have HO_11 := n0_
                                have HO200 := n1_
                                have HB := n2_
                                clear n0_ n1_ n2_
                                (try clear hb)
                                (try clear hb2)
                                (try clear hk)
                                (try clear hi)
                                (try clear ho0)
                                refine hK.out _ _ ⟨HS0_, HS1_, HS2_⟩ (fun hHeld => ?_)
                                clear hK K
                                refine norm_ (a' := ?_) ?_ ?_
                                rotate_left
                                · show Act.put _ (some 90) _ = _
                                  simp only [Act.put, List.setIfInBounds_toArray, List.set_cons_zero, List.set_cons_succ, i64_w, i32_w]
                                  rfl
                                refine pure_ (i := 10) (N := some 80) (v := ?_) (a' := ?_) #[true, true, true, true, true, true, true, true, true, true, true, false, false, false, false, false, false] rfl rfl (any_of HT_.out (by kernel_rfl)) (fun _ _ _ h => h) (Or.inl ⟨by rfl, ?_⟩) ?_ ?_
                                rotate_left
                                · intro w'
                                  go_simp
                                  with_reducible rfl
                                rotate_left
                                · simp only [Act.put, List.setIfInBounds_toArray, List.set_cons_zero, List.set_cons_succ, i64_w, i32_w]
                                  rfl
                                refine pure_ (i := 11) (N := some 91) (v := ?_) (a' := ?_) #[true, true, true, true, true, true, true, true, true, true, true, true, false, false, false, false, false] rfl rfl (any_of HT_.out (by kernel_rfl)) (fun _ _ _ h => h) (Or.inl ⟨by rfl, ?_⟩) ?_ ?_
                                rotate_left
                                · intro w'
                                  go_simp
                                  with_reducible rfl
                                rotate_left
                                · simp only [Act.put, List.setIfInBounds_toArray, List.set_cons_zero, List.set_cons_succ, i64_w, i32_w]
                                  rfl
                                refine pure_ (i := 12) (N := some 92) (v := ?_) (a' := ?_) #[true, true, true, true, true, true, true, true, true, true, true, true, true, false, false, false, false] rfl rfl (any_of HT_.out (by kernel_rfl)) (fun _ _ _ h => h) (Or.inl ⟨by rfl, ?_⟩) ?_ ?_
                                rotate_left
                                · intro w'
                                  go_simp
                                  with_reducible rfl
                                rotate_left
                                · simp only [Act.put, List.setIfInBounds_toArray, List.set_cons_zero, List.set_cons_succ, i64_w, i32_w]
                                  rfl
                                refine pure_ (i := 13) (N := some 93) (v := ?_) (a' := ?_) #[true, true, true, true, true, true, true, true, true, true, true, true, true, true, false, false, false] rfl rfl (any_of HT_.out (by kernel_rfl)) (fun _ _ _ h => h) (Or.inl ⟨by rfl, ?_⟩) ?_ ?_
                                rotate_left
                                · intro w'
                                  go_simp
                                  with_reducible rfl
                                rotate_left
                                · simp only [Act.put, List.setIfInBounds_toArray, List.set_cons_zero, List.set_cons_succ, i64_w, i32_w]
                                  rfl
                                refine pure_ (i := 14) (N := some 18) (v := ?_) (a' := ?_) #[true, true, true, true, true, true, true, true, true, true, true, true, true, true, true, false, false] rfl rfl (any_of HT_.out (by kernel_rfl)) (fun _ _ _ h => h) (Or.inl ⟨by rfl, ?_⟩) ?_ ?_
                                rotate_left
                                · intro w'
                                  go_simp
                                  with_reducible rfl
                                rotate_left
                                · simp only [Act.put, List.setIfInBounds_toArray, List.set_cons_zero, List.set_cons_succ, i64_w, i32_w]
                                  rfl
                                refine pure_ (i := 15) (N := some 19) (v := ?_) (a' := ?_) #[true, true, true, true, true, true, true, true, true, true, true, true, true, true, true, true, false] rfl rfl (any_of HT_.out (by kernel_rfl)) (fun _ _ _ h => h) (Or.inl ⟨by rfl, ?_⟩) ?_ ?_
                                rotate_left
                                · intro w'
                                  go_simp
                                  with_reducible rfl
                                rotate_left
                                · simp only [Act.put, List.setIfInBounds_toArray, List.set_cons_zero, List.set_cons_succ, i64_w, i32_w]
                                  rfl
                                refine pure_ (i := 16) (N := some 20) (v := ?_) (a' := ?_) #[true, true, true, true, true, true, true, true, true, true, true, true, true, true, true, true, true] rfl rfl (any_of HT_.out (by kernel_rfl)) (fun _ _ _ h => h) (Or.inl ⟨by rfl, ?_⟩) ?_ ?_
                                rotate_left
                                · intro w'
                                  go_simp
                                  with_reducible rfl
                                rotate_left
                                · simp only [Act.put, List.setIfInBounds_toArray, List.set_cons_zero, List.set_cons_succ, i64_w, i32_w]
                                  rfl
                                refine done_ (done_of HT_.out (by kernel_rfl)) ?_
                                try go_wp2
                                go_ret
                                exact ⟨by first | rfl | (simp [errW_none, errW_some] <;> rfl) | (simp [*, errW_none, errW_some] <;> rfl), by repeat (first | (with_reducible first | exact HB.out | apply below_alloc | apply pw_below_drewN | apply below_drew1) | exact HB.out)⟩
                            · replace c42 := Bool.eq_false_iff.mpr c42
                              subst c42
                              have H1 : (some false) = some r := by rw [if_neg (show ¬ (false = true) by decide)] at H; exact H
                              clear H
                              have H := H1
                              clear H1
                              obtain rfl := Option.some.inj H
                              try go_wp2
                              have n0_ := Aside0.mk (Kd.R_drew HO_11.out)
                              have n1_ := Aside0.mk (below_drew1 HB.out)
                              clear HO_11
                              clear HB
                              have HO_11 := n0_
                              have HB := n1_
                              clear n0_ n1_
                              obtain ⟨Ao56, co56, eo56⟩ := Kd.R_slice HO_11.out
                              (first | subst eo56 | (injection eo56 with f1_ f2_ f3_; have f4_ := f1_.symm; have f5_ := f3_.symm; clear f1_ f2_ f3_; subst f4_; subst f5_))
                              have p193 : 0 ≤ (0 : Int) := (by omega)
                              have q193 : 0 < (t180.length : Int) := of_decide_eq_true (by first | (with_reducible assumption) | assumption)
                              obtain ⟨ad193, e193, hx193_0⟩ := Kd.at_int (Kd.R_reads' HO_11.out).2.2 0 p193 q193
                              cases e193
                              have qi193 : (0 < t180.length) = True := eq_true (by omega)
                              (try rw [show ((0 : Int)).toNat = 0 from rfl] at hx193_0)
                              (try rw [Addr.add_zero'] at hx193_0)
                              replace p193 := eq_true p193
                              replace q193 := eq_true q193
                              have p194 : 0 ≤ (1 : Int) := (by omega)
                              have q194 : 1 < (t180.length : Int) := of_decide_eq_true (by first | (with_reducible assumption) | assumption)
                              obtain ⟨ad194, e194, hx194_0⟩ := Kd.at_int (Kd.R_reads' HO_11.out).2.2 1 p194 q194
                              obtain rfl : ad193 = ad194 := (by injection e194)
                              (try simp only [show (1 : Int).toNat = 1 from rfl, Nat.reduceMul, Nat.reduceEqDiff, Go.Addr.add, ↓reduceIte] at hx194_0)
                              have qi194 : (1 < t180.length) = True := eq_true (by omega)
                              (try rw [show ((1 : Int)).toNat = 1 from rfl] at hx194_0)
                              replace p194 := eq_true p194
                              replace q194 := eq_true q194
                              have p195 : 0 ≤ (2 : Int) := (by omega)
                              have q195 : 2 < (t180.length : Int) := of_decide_eq_true (by first | (with_reducible assumption) | assumption)
                              obtain ⟨ad195, e195, hx195_0⟩ := Kd.at_int (Kd.R_reads' HO_11.out).2.2 2 p195 q195
                              obtain rfl : ad193 = ad195 := (by injection e195)
                              (try simp only [show (2 : Int).toNat = 2 from rfl, Nat.reduceMul, Nat.reduceEqDiff, Go.Addr.add, ↓reduceIte] at hx195_0)
                              have qi195 : (2 < t180.length) = True := eq_true (by omega)
                              (try rw [show ((2 : Int)).toNat = 2 from rfl] at hx195_0)
                              replace p195 := eq_true p195
                              replace q195 := eq_true q195
                              refine start_ (n := 17) (S := fun w' => w'.cell? ad193 = some (.int .i64 (rd t180 0)) ∧ w'.cell? ⟨ad193.block, ad193.off + 1, none⟩ = some (.int .i64 (rd t180 1)) ∧ w'.cell? ⟨ad193.block, ad193.off + 2, none⟩ = some (.int .i64 (rd t180 2))) (ds := []) #[false, false, false, false, false, false, false, false, false, false, false, false, false, false, false, false, false] (by kernel_rfl) rfl rfl ⟨hx193_0, hx194_0, hx195_0⟩ (fun hHeld => ?_); refine with_tabW laws_FnQuadMade.tab12 laws_FnQuadMade.bits12 (fun HT_ HW_ => ?_)
                              generalize wc.drew = w55 at HO_11 HB hx193_0 hx194_0 hx195_0 hHeld ⊢
                              refine pure_ (i := 0) (N := some 81) (v := ?_) (a' := ?_) #[true, false, false, false, false, false, false, false, false, false, false, false, false, false, false, false, false] rfl rfl (any_of HT_.out (by kernel_rfl)) (fun _ _ _ h => h) (Or.inl ⟨by rfl, ?_⟩) ?_ ?_
                              rotate_left
                              · intro w'
                                go_simp
                                with_reducible rfl
                              rotate_left
                              · simp only [Act.put, List.setIfInBounds_toArray, List.set_cons_zero, List.set_cons_succ, i64_w, i32_w]
                                rfl
                              refine pure_ (i := 1) (N := some 82) (v := ?_) (a' := ?_) #[true, true, false, false, false, false, false, false, false, false, false, false, false, false, false, false, false] rfl rfl (any_of HT_.out (by kernel_rfl)) (fun _ _ _ h => h) (Or.inl ⟨by rfl, ?_⟩) ?_ ?_
                              rotate_left
                              · intro w'
                                go_simp
                                with_reducible rfl
                              rotate_left
                              · simp only [Act.put, List.setIfInBounds_toArray, List.set_cons_zero, List.set_cons_succ, i64_w, i32_w]
                                rfl
                              refine pure_ (i := 3) (N := some 84) (v := ?_) (a' := ?_) #[true, true, false, true, false, false, false, false, false, false, false, false, false, false, false, false, false] rfl rfl (any_of HT_.out (by kernel_rfl)) (fun _ _ _ h => h) (Or.inl ⟨by rfl, ?_⟩) ?_ ?_
                              rotate_left
                              · intro w'
                                go_simp
                                with_reducible rfl
                              rotate_left
                              · simp only [Act.put, List.setIfInBounds_toArray, List.set_cons_zero, List.set_cons_succ, i64_w, i32_w]
                                rfl
                              refine pure_ (i := 4) (N := some 85) (v := ?_) (a' := ?_) #[true, true, false, true, true, false, false, false, false, false, false, false, false, false, false, false, false] rfl rfl (any_of HT_.out (by kernel_rfl)) (fun _ _ _ h => h) (Or.inl ⟨by rfl, ?_⟩) ?_ ?_
                              rotate_left
                              · intro w'
                                go_simp
                                with_reducible rfl
                              rotate_left
                              · simp only [Act.put, List.setIfInBounds_toArray, List.set_cons_zero, List.set_cons_succ, i64_w, i32_w]
                                rfl
                              refine pure_ (i := 6) (N := some 87) (v := ?_) (a' := ?_) #[true, true, false, true, true, false, true, false, false, false, false, false, false, false, false, false, false] rfl rfl (any_of HT_.out (by kernel_rfl)) (fun _ _ _ h => h) (Or.inl ⟨by rfl, ?_⟩) ?_ ?_
                              rotate_left
                              · intro w'
                                go_simp
                                with_reducible rfl
                              rotate_left
                              · simp only [Act.put, List.setIfInBounds_toArray, List.set_cons_zero, List.set_cons_succ, i64_w, i32_w]
                                rfl
                              refine pure_ (i := 7) (N := some 88) (v := ?_) (a' := ?_) #[true, true, false, true, true, false, true, true, false, false, false, false, false, false, false, false, false] rfl rfl (any_of HT_.out (by kernel_rfl)) (fun _ _ _ h => h) (Or.inl ⟨by rfl, ?_⟩) ?_ ?_
                              rotate_left
                              · intro w'
                                go_simp
                                with_reducible rfl
                              rotate_left
                              · simp only [Act.put, List.setIfInBounds_toArray, List.set_cons_zero, List.set_cons_succ, i64_w, i32_w]
                                rfl
                              refine take_ (i := 2) (N := some 83) (v := ?_) (a' := ?_) #[true, true, true, true, true, false, true, true, false, false, false, false, false, false, false, false, false] rfl rfl (take_ofW HT_.out HW_.out (by kernel_rfl)) (fun _ _ _ h => h) (Or.inl ⟨by rfl, ?_⟩) hHeld ?_ ?_
                              rotate_left
                              · rintro w' ⟨s0, s1, s2⟩
                                go_simp
                                with_reducible rfl
                              rotate_left
                              · simp only [Act.put, List.setIfInBounds_toArray, List.set_cons_zero, List.set_cons_succ, i64_w, i32_w]
                                rfl
                              refine take_ (i := 5) (N := some 86) (v := ?_) (a' := ?_) #[true, true, true, true, true, true, true, true, false, false, false, false, false, false, false, false, false] rfl rfl (take_ofW HT_.out HW_.out (by kernel_rfl)) (fun _ _ _ h => h) (Or.inl ⟨by rfl, ?_⟩) hHeld ?_ ?_
                              rotate_left
                              · rintro w' ⟨s0, s1, s2⟩
                                go_simp
                                with_reducible rfl
                              rotate_left
                              · simp only [Act.put, List.setIfInBounds_toArray, List.set_cons_zero, List.set_cons_succ, i64_w, i32_w]
                                rfl
                              refine take_ (i := 8) (N := some 89) (v := ?_) (a' := ?_) #[true, true, true, true, true, true, true, true, true, false, false, false, false, false, false, false, false] rfl rfl (take_ofW HT_.out HW_.out (by kernel_rfl)) (fun _ _ _ h => h) (Or.inl ⟨by rfl, ?_⟩) hHeld ?_ ?_
                              rotate_left
                              · rintro w' ⟨s0, s1, s2⟩
                                go_simp
                                with_reducible rfl
                              rotate_left
                              · simp only [Act.put, List.setIfInBounds_toArray, List.set_cons_zero, List.set_cons_succ, i64_w, i32_w]
                                rfl
                              refine one_ (i := 9) (N := some 90) #[true, true, true, true, true, true, true, true, true, true, false, false, false, false, false, false, false] rfl rfl (one_of HT_.out (by kernel_rfl)) (by decide) (fun K hK => ?_)
                              refine goes_ Tryd.func9 (by kernel_rfl) rfl #[.int .i64 (rd t180 0), .int .i64 (rd t180 1), .int .i64 (rd t180 2)] (by rfl) rfl rfl (by (try simp only [List.map_toArray, List.map_cons, List.map_nil]); first | done | rfl | (simp only [List.length_drop, List.length_take]; rfl)) ?_
                              with_reducible refine (impl_QuadFactors.calls kj32 (rd t180 0) (rd t180 1) (rd t180 2) t196 t197 t198 _ ?sideT A41.out).mono ?_
                              case sideT => exact ⟨QpdC.tabs_below HT (by repeat (first | (with_reducible first | exact HB.out | apply below_alloc | apply pw_below_drewN | apply below_drew1) | exact HB.out))⟩
                              rintro e w57 ⟨v199, rfl, ho0, hb⟩
                              have HS0_ := (hb.cell (World.block_lt_of_cell? _ _ (hHeld.1))).trans (hHeld.1)
                              have HS1_ := (hb.cell (World.block_lt_of_cell? _ _ (hHeld.2.1))).trans (hHeld.2.1)
                              have HS2_ := (hb.cell (World.block_lt_of_cell? _ _ (hHeld.2.2))).trans (hHeld.2.2)
                              refine ⟨_, rfl, ?_⟩
                              have n0_ := Aside0.mk (Kd.R_below (by (with_reducible repeat (first | apply Kd.R_alloc | apply Kd.R_drewN | apply Kd.R_drew)); exact HO_11.out) hb)
                              have n1_ := Aside0.mk (Kd.N_lower (Kd.N_mono (ok' := fun k_ => some k_ ≠ (.slice (some ad193) t180.length co56 : Value).ownBlock) (Kd.S_N (Kd.S_bound ho0)) (fun k_ hk_ => (Kd.fresh' (Kd.R_lt (by (with_reducible repeat (first | apply Kd.R_alloc | apply Kd.R_drewN | apply Kd.R_drew)); exact HO_11.out)) k_ hk_.2.1))) (below_size (by repeat (first | (with_reducible first | exact HB.out | apply below_alloc | apply pw_below_drewN | apply below_drew1) | exact HB.out))))
                              have n2_ := Aside0.mk (below_step (by repeat (first | (with_reducible first | exact HB.out | apply below_alloc | apply pw_below_drewN | apply below_drew1) | exact HB.out)) hb)
                              clear HO_11
                              clear HB
                              have HO_11 := n0_
                              have HO200 := n1_
                              have HB := n2_
                              clear n0_ n1_ n2_
                              (try clear hb)
                              (try clear hb2)
                              (try clear hk)
                              (try clear hi)
                              (try clear ho0)
                              refine hK.out _ _ ⟨HS0_, HS1_, HS2_⟩ (fun hHeld => ?_)
                              clear hK K
                              refine norm_ (a' := ?_) ?_ ?_
                              rotate_left
                              · show Act.put _ (some 90) _ = _
                                simp only [Act.put, List.setIfInBounds_toArray, List.set_cons_zero, List.set_cons_succ, i64_w, i32_w]
                                rfl
                              refine pure_ (i := 10) (N := some 80) (v := ?_) (a' := ?_) #[true, true, true, true, true, true, true, true, true, true, true, false, false, false, false, false, false] rfl rfl (any_of HT_.out (by kernel_rfl)) (fun _ _ _ h => h) (Or.inl ⟨by rfl, ?_⟩) ?_ ?_
                              rotate_left
                              · intro w'
                                go_simp
                                with_reducible rfl
                              rotate_left
                              · simp only [Act.put, List.setIfInBounds_toArray, List.set_cons_zero, List.set_cons_succ, i64_w, i32_w]
                                rfl
                              refine pure_ (i := 11) (N := some 91) (v := ?_) (a' := ?_) #[true, true, true, true, true, true, true, true, true, true, true, true, false, false, false, false, false] rfl rfl (any_of HT_.out (by kernel_rfl)) (fun _ _ _ h => h) (Or.inl ⟨by rfl, ?_⟩) ?_ ?_
                              rotate_left
                              · intro w'
                                go_simp
                                with_reducible rfl
                              rotate_left
                              · simp only [Act.put, List.setIfInBounds_toArray, List.set_cons_zero, List.set_cons_succ, i64_w, i32_w]
                                rfl
                              refine pure_ (i := 12) (N := some 92) (v := ?_) (a' := ?_) #[true, true, true, true, true, true, true, true, true, true, true, true, true, false, false, false, false] rfl rfl (any_of HT_.out (by kernel_rfl)) (fun _ _ _ h => h) (Or.inl ⟨by rfl, ?_⟩) ?_ ?_
                              rotate_left
                              · intro w'
                                go_simp
                                with_reducible rfl
                              rotate_left
                              · simp only [Act.put, List.setIfInBounds_toArray, List.set_cons_zero, List.set_cons_succ, i64_w, i32_w]
                                rfl
                              refine pure_ (i := 13) (N := some 93) (v := ?_) (a' := ?_) #[true, true, true, true, true, true, true, true, true, true, true, true, true, true, false, false, false] rfl rfl (any_of HT_.out (by kernel_rfl)) (fun _ _ _ h => h) (Or.inl ⟨by rfl, ?_⟩) ?_ ?_
                              rotate_left
                              · intro w'
                                go_simp
                                with_reducible rfl
                              rotate_left
                              · simp only [Act.put, List.setIfInBounds_toArray, List.set_cons_zero, List.set_cons_succ, i64_w, i32_w]
                                rfl
                              refine pure_ (i := 14) (N := some 18) (v := ?_) (a' := ?_) #[true, true, true, true, true, true, true, true, true, true, true, true, true, true, true, false, false] rfl rfl (any_of HT_.out (by kernel_rfl)) (fun _ _ _ h => h) (Or.inl ⟨by rfl, ?_⟩) ?_ ?_
                              rotate_left
                              · intro w'
                                go_simp
                                with_reducible rfl
                              rotate_left
                              · simp only [Act.put, List.setIfInBounds_toArray, List.set_cons_zero, List.set_cons_succ, i64_w, i32_w]
                                rfl
                              refine pure_ (i := 15) (N := some 19) (v := ?_) (a' := ?_) #[true, true, true, true, true, true, true, true, true, true, true, true, true, true, true, true, false] rfl rfl (any_of HT_.out (by kernel_rfl)) (fun _ _ _ h => h) (Or.inl ⟨by rfl, ?_⟩) ?_ ?_
                              rotate_left
                              · intro w'
                                go_simp
                                with_reducible rfl
                              rotate_left
                              · simp only [Act.put, List.setIfInBounds_toArray, List.set_cons_zero, List.set_cons_succ, i64_w, i32_w]
                                rfl
                              refine pure_ (i := 16) (N := some 20) (v := ?_) (a' := ?_) #[true, true, true, true, true, true, true, true, true, true, true, true, true, true, true, true, true] rfl rfl (any_of HT_.out (by kernel_rfl)) (fun _ _ _ h => h) (Or.inl ⟨by rfl, ?_⟩) ?_ ?_
                              rotate_left
                              · intro w'
                                go_simp
                                with_reducible rfl
                              rotate_left
                              · simp only [Act.put, List.setIfInBounds_toArray, List.set_cons_zero, List.set_cons_succ, i64_w, i32_w]
                                rfl
                              refine done_ (done_of HT_.out (by kernel_rfl)) ?_
                              try go_wp2
                              go_ret
                              exact ⟨by first | rfl | (simp [errW_none, errW_some] <;> rfl) | (simp [*, errW_none, errW_some] <;> rfl), by repeat (first | (with_reducible first | exact HB.out | apply below_alloc | apply pw_below_drewN | apply below_drew1) | exact HB.out)⟩
                          · rw [if_neg c40] at H
                            exact absurd H (by simp)
                        · rw [if_neg c39] at H
                          exact absurd H (by simp)
                      · rw [if_neg c38] at H
                        exact absurd H (by simp)

/-- THE ONE PURE STATEMENT of laws_FnQuadMade: yours. -/
def laws_FnQuadMade.Pure : Prop := ∀ (a0 : Int) (a1 : Int) (a2 : Int) (a3 : Int) (a4 : Int), (Lit.int .i64 a0).wf = true → (Lit.int .i64 a1).wf = true → (Lit.int .i64 a2).wf = true → (Lit.int .i64 a3).wf = true → (Lit.int .i64 a4).wf = true → ∃ k, laws_FnQuadMade.f k a0 a1 a2 a3 a4 = some true
theorem laws_FnQuadMade.walk (P : laws_FnQuadMade.Pure) (a0 : Int) (a1 : Int) (a2 : Int) (a3 : Int) (a4 : Int) (w : World) (HT : Aside0 (Tab.Tabs w)) (w0 : (Lit.int .i64 a0).wf = true) (w1 : (Lit.int .i64 a1).wf = true) (w2 : (Lit.int .i64 a2).wf = true) (w3 : (Lit.int .i64 a3).wf = true) (w4 : (Lit.int .i64 a4).wf = true) :
    Calls Tryd.prog 5 #[.int .i64 a0, .int .i64 a1, .int .i64 a2, .int .i64 a3, .int .i64 a4] w fun e w' => e = .returned (.bool true) ∧ Below w.heap.size w w' := by
  obtain ⟨k, h⟩ := P a0 a1 a2 a3 a4 w0 w1 w2 w3 w4
  refine (laws_FnQuadMade.calls k a0 a1 a2 a3 a4 true w HT h).mono ?_
  rintro e w' ⟨rfl, hd⟩
  exact ⟨rfl, hd⟩

end Go.Proofs.YtpelipdecjooeaaDoor.PFnQuadMade
