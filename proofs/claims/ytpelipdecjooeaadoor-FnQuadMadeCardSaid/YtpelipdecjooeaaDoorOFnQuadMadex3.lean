/- The functions that the law 'FnQuadMade' reaches, each with its contract. -/
import Derived.Test.YtpelipdecjooeaaDoorOFnQuadMadex0
namespace Go.Proofs.YtpelipdecjooeaaDoor.PFnQuadMade
open Go.RowKit Go.Proofs.YtpelipdecjooeaaDoorW.PrintWords Go.Proofs.YtpelipdecjooeaaDoorW.PrintLast Go.Proofs.YtpelipdecjooeaaDoorW.PrintMore
attribute [local go_sem] max2_int min2_int max_two min_two max_three min_three max_four min_four   -- for this text's walks alone
set_option linter.unusedVariables false
set_option linter.unusedSimpArgs false

/-! ### spec_Multiplied: function 12 -/
mutual
def spec_Multiplied.l0 : Nat → List Int → List (List Int) → Int → Int → Option (List Int)
  | 0, _, _, _, _ => none
  | k + 1, x5, x13, x14, x15 => if x15 < x14 then (if 0 ≤ x15 then (if x15 < (x13.length : Int) then (if ((rd_L2 x13 x15).length : Int) = 2 then (if 0 ≤ (wrap64 ((x5.length : Int) + 1)) then (if (wrap64 ((x5.length : Int) + 1) : Int).toNat ≤ 35184372088832 then (spec_Multiplied.l1 k (rd_L2 x13 x15) (List.replicate (wrap64 ((x5.length : Int) + 1) : Int).toNat 0) x13 x14 x15 x5 (x5.length : Int) 0) else (none)) else (none)) else (some (([] : List Int)))) else (none)) else (none)) else (some x5)
def spec_Multiplied.l1 : Nat → List Int → List Int → List (List Int) → Int → Int → List Int → Int → Int → Option (List Int)
  | 0, _, _, _, _, _, _, _, _ => none
  | k + 1, x7, x8, x13, x14, x15, x27, x28, x29 => if x29 < x28 then (if 0 ≤ x29 then (if x29 < (x27.length : Int) then (if x29 < (x8.length : Int) then (if 0 < (x7.length : Int) then ((some (x8.set (x29 : Int).toNat (wrap64 ((rd x8 x29) + (wrap64 ((rd x27 x29) * (rd x7 0))))) : List Int)).bind fun y167 => (if 0 ≤ (wrap64 (x29 + 1)) then (if (wrap64 (x29 + 1)) < (x8.length : Int) then (if 1 < (x7.length : Int) then (spec_Multiplied.l1 k x7 (y167.set ((wrap64 (x29 + 1)) : Int).toNat (wrap64 ((rd y167 (wrap64 (x29 + 1))) + (wrap64 ((rd x27 x29) * (rd x7 1)))))) x13 x14 x15 x27 x28 (wrap64 (x29 + 1))) else (none)) else (none)) else (none))) else (none)) else (none)) else (none)) else (none)) else (spec_Multiplied.l0 k x8 x13 x14 (wrap64 (x15 + 1)))
end
def spec_Multiplied.f (k : Nat) (a0 : Int) (l1 : List (List Int)) : Option (List Int) := spec_Multiplied.l0 k (([a0] : List Int)) l1 (l1.length : Int) 0
theorem spec_Multiplied.mono_l : ∀ k, (∀ y0 y1 y2 y3, LeO (spec_Multiplied.l0 k y0 y1 y2 y3) (spec_Multiplied.l0 (k + 1) y0 y1 y2 y3)) ∧ (∀ y0 y1 y2 y3 y4 y5 y6 y7, LeO (spec_Multiplied.l1 k y0 y1 y2 y3 y4 y5 y6 y7) (spec_Multiplied.l1 (k + 1) y0 y1 y2 y3 y4 y5 y6 y7))
  | 0 => ⟨fun _ _ _ _ r h => by simp [spec_Multiplied.l0] at h, fun _ _ _ _ _ _ _ _ r h => by simp [spec_Multiplied.l1] at h⟩
  | k + 1 => by
    obtain ⟨ih0, ih1⟩ := spec_Multiplied.mono_l k
    refine ⟨?_, ?_⟩
    · intro y0 y1 y2 y3
      unfold spec_Multiplied.l0
      repeat' first
      | (with_reducible exact ih0 _ _ _ _)
      | (with_reducible exact ih1 _ _ _ _ _ _ _ _)
      | (with_reducible exact LeO.refl _)
      | (with_reducible exact LeO.none _)
      | (with_reducible refine LeO.ite ?_ ?_)
      | (with_reducible refine LeO.bind ?_ (fun _ => ?_))
      | exact ih0 _ _ _ _
      | exact ih1 _ _ _ _ _ _ _ _
      | exact LeO.none _
      | refine LeO.ite ?_ ?_
      | refine LeO.bind ?_ (fun _ => ?_)
    · intro y0 y1 y2 y3 y4 y5 y6 y7
      unfold spec_Multiplied.l1
      repeat' first
      | (with_reducible exact ih0 _ _ _ _)
      | (with_reducible exact ih1 _ _ _ _ _ _ _ _)
      | (with_reducible exact LeO.refl _)
      | (with_reducible exact LeO.none _)
      | (with_reducible refine LeO.ite ?_ ?_)
      | (with_reducible refine LeO.bind ?_ (fun _ => ?_))
      | exact ih0 _ _ _ _
      | exact ih1 _ _ _ _ _ _ _ _
      | exact LeO.none _
      | refine LeO.ite ?_ ?_
      | refine LeO.bind ?_ (fun _ => ?_)
theorem spec_Multiplied.mono : ∀ a0 a1 k, LeO (spec_Multiplied.f k a0 a1) (spec_Multiplied.f (k + 1) a0 a1) := by
  intro a0 a1 k
  obtain ⟨ih0, ih1⟩ := spec_Multiplied.mono_l k
  unfold spec_Multiplied.f
  repeat' first
      | (with_reducible exact ih0 _ _ _ _)
      | (with_reducible exact ih1 _ _ _ _ _ _ _ _)
      | (with_reducible exact LeO.refl _)
      | (with_reducible exact LeO.none _)
      | (with_reducible refine LeO.ite ?_ ?_)
      | (with_reducible refine LeO.bind ?_ (fun _ => ?_))
      | exact ih0 _ _ _ _
      | exact ih1 _ _ _ _ _ _ _ _
      | exact LeO.none _
      | refine LeO.ite ?_ ?_
      | refine LeO.bind ?_ (fun _ => ?_)
def spec_Multiplied.T11 : Bool × List (List Nat × List Nat) := (true, [([], []), ([], []), ([0, 1], [0, 1]), ([2], [2]), ([], []), ([], []), ([5], [5]), ([6], [6]), ([4, 7], [4, 7]), ([3, 8], [3, 8]), ([0, 1, 0, 1, 2, 3, 4, 5, 6, 7, 8, 9], [0, 1]), ([10, 9, 0, 1, 2, 3, 4, 5, 6, 7, 8, 9], [9, 10])])
def spec_Multiplied.B11 : List Nat := [0, 0, 3, 7, 0, 0, 32, 96, 240, 511, 1023, 2047]
theorem spec_Multiplied.tab11 : rtab .any (opsOf Tryd.f12 11) = spec_Multiplied.T11 := by kernel_rfl
theorem spec_Multiplied.bits11 : waitsOk spec_Multiplied.T11.2 spec_Multiplied.B11 = true := by kernel_rfl
def spec_Multiplied.T12 : Bool × List (List Nat × List Nat) := (true, [([], []), ([], []), ([1], [1]), ([0, 2], [0, 2]), ([3], [3]), ([], []), ([], []), ([6], [6]), ([7], [7]), ([5, 8], [5, 8]), ([4, 9], [4, 9]), ([0, 2, 0, 1, 2, 3, 4, 5, 6, 7, 8, 9, 10], [0, 2]), ([11, 10, 0, 1, 2, 3, 4, 5, 6, 7, 8, 9, 10], [10, 11])])
def spec_Multiplied.B12 : List Nat := [0, 0, 2, 7, 15, 0, 0, 64, 192, 480, 1023, 2047, 4095]
theorem spec_Multiplied.tab12 : rtab .any (opsOf Tryd.f12 12) = spec_Multiplied.T12 := by kernel_rfl
theorem spec_Multiplied.bits12 : waitsOk spec_Multiplied.T12.2 spec_Multiplied.B12 = true := by kernel_rfl
set_option maxHeartbeats 8000000 in
set_option maxRecDepth 100000 in
theorem spec_Multiplied.calls (k : Nat) (a0 : Int) (A1 : Option Addr) (c1 : Nat) (l1 : List (List Int)) (r : List Int) (w : World) (hr1 : Kd.C (Kd.slice 3 (Kd.int .i64)) w A1 l1.length l1) (hc1 : l1.length ≤ c1) (h : spec_Multiplied.f k a0 l1 = some r) :
    Calls Tryd.prog 12 #[.int .i64 a0, .slice A1 l1.length c1] w fun e w' => ∃ v0_ : Value, e = .returned (v0_) ∧ Kd.R (Kd.int .i64) 3 w' w.heap.size (fun _ => True) v0_ r ∧ Below w.heap.size w w' := by
  have HR1 := Aside0.mk hr1
  have HC1 := Aside0.mk hc1
  clear hr1 hc1
  have HB := Aside0.mk (Below.refl w.heap.size w)
  have H : (spec_Multiplied.l0 k (([a0] : List Int)) l1 (l1.length : Int) 0) = some r := h
  clear h
  obtain ⟨y154, hy154⟩ : ∃ y_ : List Int, y_ = (([a0] : List Int)) := ⟨_, rfl⟩
  replace H : (spec_Multiplied.l0 k y154 l1 (l1.length : Int) 0) = some r := by first | (rw [hy154]; with_reducible exact H) | (have H2_ := (Option.bind_some _ _).symm.trans H; rw [hy154]; with_reducible exact H2_) | (have H2_ := (Option.bind_some _ _).symm.trans H; with_reducible exact H2_) | with_reducible exact H | (rw [hy154]; exact H) | exact H
  have Ny154 := Aside0.mk hy154
  clear hy154
  have H' := Aside0.mk H
  clear H
  go_enter Tryd.func12, Tryd.ntmps12
  go_wp2_with (first | ((with_reducible refine gate_dst (N := 12) rfl ?_); refine Kd.R_lit (Kd.int .i64) _ 3 ?hg (N := 12) ?hd (xs := ([a0] : List Int)) (inner := [.int .i64 a0]) (ok := fun _ => True) (okp := fun _ => True) ?hr ?hp (fun _ hk => hk) trivial (Below.refl _ _) (Nat.le_refl _) (by simp) ?_; (case hd => rfl); (case hg => rfl); (case hr => first | (go_simp; done) | (go_simp; rfl)); (case hp => exact (Reps.one (show Kd.M (Kd.int .i64) _ _ _ a0 [.int .i64 a0] from rfl) (Reps.none _ _))); intro v155 w3 ho4 hb hg_ hnew_; clear hg_ hnew_; (first | rw [← Ny154.out] at ho4 | (simp only [Int.reduceToNat] at ho4; rw [← Ny154.out] at ho4)); have n0_ := Aside0.mk (Kd.R_lower ho4 (below_size (by repeat (first | (with_reducible first | exact HB.out | apply below_alloc | apply pw_below_drewN | apply below_drew1) | exact HB.out)))); have n1_ := Aside0.mk (below_step (by repeat (first | (with_reducible first | exact HB.out | apply below_alloc | apply pw_below_drewN | apply below_drew1) | exact HB.out)) hb); clear HB; have HO156 := n0_; have HB := n1_; clear n0_ n1_; clear hb ho4))
  go_loopg [5, 15] k (fun kq v5 v15 w' => ∃ (x5_1 : List Int) (x15_1 : Int), v15 = .int .i64 x15_1 ∧ Aside0 (spec_Multiplied.l0 kq x5_1 l1 (l1.length : Int) x15_1 = some r) ∧ Aside0 (kq ≤ k) ∧ Aside0 (Kd.R (Kd.int .i64) 3 w' w.heap.size (fun _ => True) v5 x5_1) ∧ Aside0 (Below w.heap.size w w'))
  case atStart => exact ⟨(y154), (0), (by first | rfl | (simp; done) | (simp [*]; done)), H', ⟨Nat.le_refl _⟩, ⟨by (with_reducible repeat (first | apply Kd.R_alloc | apply Kd.R_drewN | apply Kd.R_drew)); exact HO156.out⟩, ⟨by repeat (first | (with_reducible first | exact HB.out | apply below_alloc | apply pw_below_drewN | apply below_drew1) | exact HB.out)⟩⟩
  case round =>
    clear H'
    try clear c1
    try clear p2
    obtain ⟨x5_1, x15_1, rfl, HA, HK1, HO_5, HB⟩ := hrel
    cases gk with
    | zero => exact absurd HA.out (by simp [spec_Multiplied.l0])
    | succ k1 =>
      have H := HA.out
      clear HA
      simp only [spec_Multiplied.l0] at H
      by_cases c5 : x15_1 < (l1.length : Int)
      · rw [if_pos c5] at H
        have c5b0 : decide (x15_1 < (l1.length : Int)) = true := decide_eq_true c5
        clear c5
        by_cases c6 : 0 ≤ x15_1
        · rw [if_pos c6] at H
          have c6b0 : decide (0 ≤ x15_1) = true := decide_eq_true c6
          clear c6
          by_cases c7 : x15_1 < (l1.length : Int)
          · rw [if_pos c7] at H
            have c7b0 : decide (x15_1 < (l1.length : Int)) = true := decide_eq_true c7
            clear c7
            by_cases c8 : ((rd_L2 l1 x15_1).length : Int) = 2
            · rw [if_pos c8] at H
              have c8b0 : (((rd_L2 l1 x15_1).length : Int) == 2) = true := beq_iff_eq.mpr c8
              have c8b1 : (((rd_L2 l1 x15_1).length : Int) != 2) = false := bne_eq_false_iff_eq.mpr c8
              clear c8
              obtain ⟨ji9, hji9⟩ : ∃ j_ : Int, (wrap64 ((x5_1.length : Int) + 1)) = j_ := ⟨_, rfl⟩
              replace H : (if 0 ≤ (ji9) then (if (ji9 : Int).toNat ≤ 35184372088832 then (spec_Multiplied.l1 k1 (rd_L2 l1 x15_1) (List.replicate (ji9 : Int).toNat 0) l1 (l1.length : Int) x15_1 x5_1 (x5_1.length : Int) 0) else (none)) else (none)) = some r := by first | (rw [hji9] at H; exact H) | (simp only [hji9] at H ⊢; exact H)
              have hji9w : (IntKind.i64.wrap ((x5_1.length : Int) + 1)) = ji9 := (i64_w _).trans hji9
              by_cases c10 : 0 ≤ (ji9)
              · rw [if_pos c10] at H
                have c10b0 := eq_true c10
                have c10b1 : decide (0 ≤ (ji9)) = true := decide_eq_true c10
                clear c10
                by_cases c11 : (ji9 : Int).toNat ≤ 35184372088832
                · rw [if_pos c11] at H
                  have c11b0 := eq_true c11
                  have c11b1 : decide ((ji9 : Int).toNat ≤ 35184372088832) = true := decide_eq_true c11
                  clear c11
                  obtain ⟨y161, hy161⟩ : ∃ y_ : List Int, y_ = (List.replicate (ji9 : Int).toNat 0) := ⟨_, rfl⟩
                  replace H : (spec_Multiplied.l1 k1 (rd_L2 l1 x15_1) y161 l1 (l1.length : Int) x15_1 x5_1 (x5_1.length : Int) 0) = some r := by first | (rw [hy161]; with_reducible exact H) | (have H2_ := (Option.bind_some _ _).symm.trans H; rw [hy161]; with_reducible exact H2_) | (have H2_ := (Option.bind_some _ _).symm.trans H; with_reducible exact H2_) | with_reducible exact H | (rw [hy161]; exact H) | exact H
                  have Ny161 := Aside0.mk hy161
                  clear hy161
                  have H' := Aside0.mk H
                  clear H
                  have p157 : 0 ≤ (x15_1 : Int) := of_decide_eq_true (by first | (with_reducible assumption) | assumption)
                  have q157 : x15_1 < (l1.length : Int) := of_decide_eq_true (by first | (with_reducible assumption) | assumption)
                  obtain ⟨ad157, A157_0, c157_0, e157, hx157_0, hl157_0, hi157_0⟩ := at_L2 HR1.out x15_1 p157 q157
                  cases e157
                  replace hx157_0 := (HB.out.cell (World.block_lt_of_cell? w _ hx157_0)).trans hx157_0
                  have HR157_0 := Aside0.mk hi157_0
                  have HC157_0 := Aside0.mk hl157_0
                  clear hi157_0 hl157_0
                  replace p157 := eq_true p157
                  replace q157 := eq_true q157
                  obtain ⟨Ao12, co12, eo12⟩ := Kd.R_slice HO_5.out
                  subst eo12
                  go_wp2_with (first | ((with_reducible refine gate_dst (N := 26) rfl ?_); refine Kd.R_make (Kd.int .i64) _ 3 rfl (N := 26) rfl 30 _ _ rfl ji9 rfl rfl Tryd.underlying30 (.int .i64 0) 8 info3 rfl (by decide) (by omega) 0 (ok := fun _ => True) (okp := fun _ => True) rfl (fun _ hk => hk) trivial (of_decide_eq_true (by first | (with_reducible assumption) | assumption)) (Nat.le_trans (Nat.mul_le_mul_right _ (of_decide_eq_true (by first | (with_reducible assumption) | assumption) : ji9.toNat ≤ 35184372088832)) (by omega)) (Below.refl _ _) (Nat.le_refl _) ?_; intro v162 w13 ho14 hb hg_ hnew_; clear hg_ hnew_; (first | rw [← Ny161.out] at ho14 | (simp only [Int.reduceToNat] at ho14; rw [← Ny161.out] at ho14)); have n0_ := Aside0.mk (Kd.R_elder' (by (with_reducible repeat (first | apply Kd.R_alloc | apply Kd.R_drewN | apply Kd.R_drew)); exact HO_5.out) (Kd.R_base ho14) hb); have n1_ := Aside0.mk (Kd.R_lower (Kd.R_new' ho14 (Kd.R_lt (by (with_reducible repeat (first | apply Kd.R_alloc | apply Kd.R_drewN | apply Kd.R_drew)); exact HO_5.out))) (below_size (by repeat (first | (with_reducible first | exact HB.out | apply below_alloc | apply pw_below_drewN | apply below_drew1) | exact HB.out)))); have n2_ := Aside0.mk (below_step (by repeat (first | (with_reducible first | exact HB.out | apply below_alloc | apply pw_below_drewN | apply below_drew1) | exact HB.out)) hb); clear HO_5; clear HB; have HO_5 := n0_; have HO163 := n1_; have HB := n2_; clear n0_ n1_ n2_; clear hb ho14))
                  go_loopg [29] k1 (fun kq v29 w' => ∃ (x8_2 : List Int) (x29_2 : Int), v29 = .int .i64 x29_2 ∧ Aside0 (spec_Multiplied.l1 kq (rd_L2 l1 x15_1) x8_2 l1 (l1.length : Int) x15_1 x5_1 (x5_1.length : Int) x29_2 = some r) ∧ Aside0 (kq ≤ k1) ∧ Aside0 (Kd.R (Kd.int .i64) 3 w' w.heap.size (fun k_ => some k_ ≠ ((.slice Ao12 x5_1.length co12) : Value).ownBlock) v162 x8_2) ∧ Aside0 (Kd.R (Kd.int .i64) 3 w' w.heap.size (fun k_ => some k_ ≠ (v162 : Value).ownBlock) (.slice Ao12 x5_1.length co12) x5_1) ∧ Aside0 (Below w.heap.size w w'))
                  case atStart => exact ⟨(y161), (0), (by first | rfl | (simp; done) | (simp [*]; done)), H', ⟨Nat.le_refl _⟩, ⟨by (with_reducible repeat (first | apply Kd.R_alloc | apply Kd.R_drewN | apply Kd.R_drew)); exact Kd.R_mono HO163.out (fun _ hk => hk.2)⟩, ⟨by (with_reducible repeat (first | apply Kd.R_alloc | apply Kd.R_drewN | apply Kd.R_drew)); exact Kd.R_mono HO_5.out (fun _ hk => hk.2)⟩, ⟨by repeat (first | (with_reducible first | exact HB.out | apply below_alloc | apply pw_below_drewN | apply below_drew1) | exact HB.out)⟩⟩
                  case round =>
                    clear H'
                    try clear c1
                    try clear p1
                    try clear q1
                    try clear hx1
                    try clear p2
                    try clear c5
                    try clear c5b0
                    try clear c6
                    try clear c6b0
                    try clear p6
                    try clear c7
                    try clear c7b0
                    try clear c8
                    try clear c8b0
                    try clear c8b1
                    try clear c10
                    try clear c10b0
                    try clear c10b1
                    try clear c11
                    try clear c11b0
                    try clear c11b1
                    try clear c12
                    try clear hx157_0
                    try clear p157
                    try clear p2
                    try clear q157
                    obtain ⟨x8_2, x29_2, rfl, HA, HK2, HO_8, HO_27, HB⟩ := hrel
                    cases gk with
                    | zero => exact absurd HA.out (by simp [spec_Multiplied.l1])
                    | succ k2 =>
                      have H := HA.out
                      clear HA
                      simp only [spec_Multiplied.l1] at H
                      by_cases c15 : x29_2 < (x5_1.length : Int)
                      · rw [if_pos c15] at H
                        have c15b0 : decide (x29_2 < (x5_1.length : Int)) = true := decide_eq_true c15
                        clear c15
                        by_cases c16 : 0 ≤ x29_2
                        · rw [if_pos c16] at H
                          have c16b0 : decide (0 ≤ x29_2) = true := decide_eq_true c16
                          clear c16
                          by_cases c17 : x29_2 < (x5_1.length : Int)
                          · rw [if_pos c17] at H
                            have c17b0 : decide (x29_2 < (x5_1.length : Int)) = true := decide_eq_true c17
                            clear c17
                            by_cases c18 : x29_2 < (x8_2.length : Int)
                            · rw [if_pos c18] at H
                              have c18b0 : decide (x29_2 < (x8_2.length : Int)) = true := decide_eq_true c18
                              clear c18
                              by_cases c19 : 0 < ((rd_L2 l1 x15_1).length : Int)
                              · rw [if_pos c19] at H
                                have c19b0 : decide (0 < ((rd_L2 l1 x15_1).length : Int)) = true := decide_eq_true c19
                                have c19b1 : decide (0 < (rd_L2 l1 x15_1).length) = true := decide_eq_true (by omega)
                                clear c19
                                obtain ⟨y167, hy167⟩ : ∃ y_ : List Int, y_ = (x8_2.set (x29_2 : Int).toNat (wrap64 ((rd x8_2 x29_2) + (wrap64 ((rd x5_1 x29_2) * (rd (rd_L2 l1 x15_1) 0)))))) := ⟨_, rfl⟩
                                replace H : (if 0 ≤ (wrap64 (x29_2 + 1)) then (if (wrap64 (x29_2 + 1)) < (x8_2.length : Int) then (if 1 < ((rd_L2 l1 x15_1).length : Int) then (spec_Multiplied.l1 k2 (rd_L2 l1 x15_1) (y167.set ((wrap64 (x29_2 + 1)) : Int).toNat (wrap64 ((rd y167 (wrap64 (x29_2 + 1))) + (wrap64 ((rd x5_1 x29_2) * (rd (rd_L2 l1 x15_1) 1)))))) l1 (l1.length : Int) x15_1 x5_1 (x5_1.length : Int) (wrap64 (x29_2 + 1))) else (none)) else (none)) else (none)) = some r := by first | (rw [hy167]; with_reducible exact H) | (have H2_ := (Option.bind_some _ _).symm.trans H; rw [hy167]; with_reducible exact H2_) | (have H2_ := (Option.bind_some _ _).symm.trans H; with_reducible exact H2_) | with_reducible exact H | (rw [hy167]; exact H) | exact H
                                have Ny167 := Aside0.mk hy167
                                clear hy167
                                obtain ⟨ji21, hji21⟩ : ∃ j_ : Int, (wrap64 (x29_2 + 1)) = j_ := ⟨_, rfl⟩
                                replace H : (if 0 ≤ (ji21) then (if (ji21) < (x8_2.length : Int) then (if 1 < ((rd_L2 l1 x15_1).length : Int) then (spec_Multiplied.l1 k2 (rd_L2 l1 x15_1) (y167.set ((ji21) : Int).toNat (wrap64 ((rd y167 (ji21)) + (wrap64 ((rd x5_1 x29_2) * (rd (rd_L2 l1 x15_1) 1)))))) l1 (l1.length : Int) x15_1 x5_1 (x5_1.length : Int) ji21) else (none)) else (none)) else (none)) = some r := by first | (rw [hji21] at H; exact H) | (simp only [hji21] at H ⊢; exact H)
                                have hji21w : (IntKind.i64.wrap (x29_2 + 1)) = ji21 := (i64_w _).trans hji21
                                by_cases c22 : 0 ≤ (ji21)
                                · rw [if_pos c22] at H
                                  have c22b0 : decide (0 ≤ (ji21)) = true := decide_eq_true c22
                                  clear c22
                                  by_cases c23 : (ji21) < (x8_2.length : Int)
                                  · rw [if_pos c23] at H
                                    have c23b0 : decide ((ji21) < (x8_2.length : Int)) = true := decide_eq_true c23
                                    clear c23
                                    by_cases c24 : 1 < ((rd_L2 l1 x15_1).length : Int)
                                    · rw [if_pos c24] at H
                                      have c24b0 : decide (1 < ((rd_L2 l1 x15_1).length : Int)) = true := decide_eq_true c24
                                      have c24b1 : decide (1 < (rd_L2 l1 x15_1).length) = true := decide_eq_true (by omega)
                                      clear c24
                                      obtain ⟨y170, hy170⟩ : ∃ y_ : List Int, y_ = (y167.set ((ji21) : Int).toNat (wrap64 ((rd y167 (ji21)) + (wrap64 ((rd x5_1 x29_2) * (rd (rd_L2 l1 x15_1) 1)))))) := ⟨_, rfl⟩
                                      replace H : (spec_Multiplied.l1 k2 (rd_L2 l1 x15_1) y170 l1 (l1.length : Int) x15_1 x5_1 (x5_1.length : Int) ji21) = some r := by first | (rw [hy170]; with_reducible exact H) | (have H2_ := (Option.bind_some _ _).symm.trans H; rw [hy170]; with_reducible exact H2_) | (have H2_ := (Option.bind_some _ _).symm.trans H; with_reducible exact H2_) | with_reducible exact H | (rw [hy170]; exact H) | exact H
                                      have Ny170 := Aside0.mk hy170
                                      clear hy170
                                      have H' := Aside0.mk H
                                      clear H
                                      have p164 : 0 ≤ (x29_2 : Int) := of_decide_eq_true (by first | (with_reducible assumption) | assumption)
                                      have q164 : x29_2 < (x5_1.length : Int) := of_decide_eq_true (by first | (with_reducible assumption) | assumption)
                                      obtain ⟨ad164, e164, hx164_0⟩ := Kd.at_int (Kd.R_reads' HO_27.out).2.2 x29_2 p164 q164
                                      cases e164
                                      replace p164 := eq_true p164
                                      replace q164 := eq_true q164
                                      try go_wp2
                                      have n0_ := Aside0.mk (Kd.R_drew HO_8.out)
                                      have n1_ := Aside0.mk (Kd.R_drew HO_27.out)
                                      have n2_ := Aside0.mk (below_drew1 HB.out)
                                      clear HO_8
                                      clear HO_27
                                      clear HB
                                      have HO_8 := n0_
                                      have HO_27 := n1_
                                      have HB := n2_
                                      clear n0_ n1_ n2_
                                      obtain ⟨Ao27, co27, eo27⟩ := Kd.R_slice HO_8.out
                                      (first | subst eo27 | (injection eo27 with f1_ f2_ f3_; have f4_ := f1_.symm; have f5_ := f3_.symm; clear f1_ f2_ f3_; subst f4_; subst f5_))
                                      have p165 : 0 ≤ (x29_2 : Int) := of_decide_eq_true (by first | (with_reducible assumption) | assumption)
                                      have q165 : x29_2 < (x8_2.length : Int) := of_decide_eq_true (by first | (with_reducible assumption) | assumption)
                                      obtain ⟨ad165, e165, hx165_0⟩ := Kd.at_int (Kd.R_reads' HO_8.out).2.2 x29_2 p165 q165
                                      cases e165
                                      replace p165 := eq_true p165
                                      replace q165 := eq_true q165
                                      have p166 : 0 ≤ (0 : Int) := (by omega)
                                      have q166 : 0 < ((rd_L2 l1 x15_1).length : Int) := of_decide_eq_true (by first | (with_reducible assumption) | assumption)
                                      obtain ⟨ad166, e166, hx166_0⟩ := Kd.at_int HR157_0.out 0 p166 q166
                                      have hw166_0 := hx166_0
                                      (try rw [show ((0 : Int)).toNat = 0 from rfl] at hw166_0)
                                      (try rw [show 0 * 1 = 0 from rfl] at hw166_0)
                                      (try rw [Addr.add_zero'] at hw166_0)
                                      cases e166
                                      have qi166 : (0 < (rd_L2 l1 x15_1).length) = True := eq_true (by omega)
                                      (try rw [show ((0 : Int)).toNat = 0 from rfl] at hx166_0)
                                      (try rw [Addr.add_zero'] at hx166_0)
                                      replace hx166_0 := (HB.out.cell (World.block_lt_of_cell? w _ hx166_0)).trans hx166_0
                                      replace p166 := eq_true p166
                                      replace q166 := eq_true q166
                                      have p20 : 0 ≤ (x29_2 : Int) := of_decide_eq_true (by first | (with_reducible assumption) | assumption)
                                      have q20 : (x29_2 : Int) < ((x8_2.length : Int) : Int) := of_decide_eq_true (by first | (with_reducible assumption) | assumption)
                                      obtain ⟨go20, co20, eo20, gb20, gl20, cl20, HG20⟩ := Kd.R_form HO_8.out (by omega)
                                      (first | cases eo20 | (injection eo20 with ea_ en_ ec_; (first | subst ea_ | (injection ea_ with ea_; subst ea_)); subst ec_; clear en_))
                                      have GB20 := Aside0.mk gb20
                                      have GG20 := Aside0.mk HG20
                                      clear gb20 gl20 HG20
                                      (first | simp only [add_plain] at hx165_0 | skip)
                                      obtain ⟨hx20_0, hf20_0⟩ := Kd.R_celln 0 HO_8.out (x29_2 : Int) p20 q20
                                      replace p20 := eq_true p20
                                      replace q20 := eq_true q20
                                      have HP28 := Kd.R_putn HO_8.out (x29_2 : Int) (wrap64 ((rd x8_2 x29_2) + (wrap64 ((rd x5_1 x29_2) * (rd (rd_L2 l1 x15_1) 0)))))
                                      rw [← Ny167.out] at HP28
                                      have HQ28 := Aside0.mk HP28
                                      clear HP28
                                      refine start_ (n := 12) (S := fun w' => w'.cell? ⟨go20, (x29_2).toNat, none⟩ = some (.int .i64 (rd x8_2 x29_2)) ∧ w'.cell? ad166 = some (.int .i64 (rd (rd_L2 l1 x15_1) 0))) (ds := [11]) #[false, false, false, false, false, false, false, false, false, false, false, false] (by kernel_rfl) rfl rfl ⟨hx165_0, ((HB.out.cell (World.block_lt_of_cell? w _ hw166_0)).trans hw166_0)⟩ (fun hHeld => ?_); refine with_tabW spec_Multiplied.tab11 spec_Multiplied.bits11 (fun HT_ HW_ => ?_)
                                      generalize wr.drew = w26 at HO_8 HO_27 HB GG20 HQ28 hf20_0 hx165_0 hx166_0 hx20_0 hHeld ⊢
                                      refine pure_ (i := 0) (N := some 34) (v := ?_) (a' := ?_) #[true, false, false, false, false, false, false, false, false, false, false, false] rfl rfl (any_of HT_.out (by kernel_rfl)) (fun _ _ _ h => h) (Or.inl ⟨by rfl, ?_⟩) ?_ ?_
                                      rotate_left
                                      · intro w'
                                        go_simp
                                        with_reducible rfl
                                      rotate_left
                                      · simp only [Act.put, List.setIfInBounds_toArray, List.set_cons_zero, List.set_cons_succ, i64_w, i32_w]
                                        rfl
                                      refine pure_ (i := 1) (N := some 35) (v := ?_) (a' := ?_) #[true, true, false, false, false, false, false, false, false, false, false, false] rfl rfl (any_of HT_.out (by kernel_rfl)) (fun _ _ _ h => h) (Or.inl ⟨by rfl, ?_⟩) ?_ ?_
                                      rotate_left
                                      · intro w'
                                        go_simp
                                        with_reducible rfl
                                      rotate_left
                                      · simp only [Act.put, List.setIfInBounds_toArray, List.set_cons_zero, List.set_cons_succ, i64_w, i32_w]
                                        rfl
                                      refine pure_ (i := 2) (N := some 36) (v := ?_) (a' := ?_) #[true, true, true, false, false, false, false, false, false, false, false, false] rfl rfl (any_of HT_.out (by kernel_rfl)) (fun _ _ _ h => h) (Or.inl ⟨by rfl, ?_⟩) ?_ ?_
                                      rotate_left
                                      · intro w'
                                        go_simp
                                        with_reducible rfl
                                      rotate_left
                                      · simp only [Act.put, List.setIfInBounds_toArray, List.set_cons_zero, List.set_cons_succ, i64_w, i32_w]
                                        rfl
                                      refine pure_ (i := 4) (N := some 38) (v := ?_) (a' := ?_) #[true, true, true, false, true, false, false, false, false, false, false, false] rfl rfl (any_of HT_.out (by kernel_rfl)) (fun _ _ _ h => h) (Or.inl ⟨by rfl, ?_⟩) ?_ ?_
                                      rotate_left
                                      · intro w'
                                        go_simp
                                        with_reducible rfl
                                      rotate_left
                                      · simp only [Act.put, List.setIfInBounds_toArray, List.set_cons_zero, List.set_cons_succ, i64_w, i32_w]
                                        rfl
                                      refine pure_ (i := 5) (N := some 39) (v := ?_) (a' := ?_) #[true, true, true, false, true, true, false, false, false, false, false, false] rfl rfl (any_of HT_.out (by kernel_rfl)) (fun _ _ _ h => h) (Or.inl ⟨by rfl, ?_⟩) ?_ ?_
                                      rotate_left
                                      · intro w'
                                        go_simp
                                        with_reducible rfl
                                      rotate_left
                                      · simp only [Act.put, List.setIfInBounds_toArray, List.set_cons_zero, List.set_cons_succ, i64_w, i32_w]
                                        rfl
                                      refine pure_ (i := 6) (N := some 40) (v := ?_) (a' := ?_) #[true, true, true, false, true, true, true, false, false, false, false, false] rfl rfl (any_of HT_.out (by kernel_rfl)) (fun _ _ _ h => h) (Or.inl ⟨by rfl, ?_⟩) ?_ ?_
                                      rotate_left
                                      · intro w'
                                        go_simp
                                        with_reducible rfl
                                      rotate_left
                                      · simp only [Act.put, List.setIfInBounds_toArray, List.set_cons_zero, List.set_cons_succ, i64_w, i32_w]
                                        rfl
                                      refine take_ (i := 3) (N := some 37) (v := ?_) (a' := ?_) #[true, true, true, true, true, true, true, false, false, false, false, false] rfl rfl (take_ofW HT_.out HW_.out (by kernel_rfl)) (fun _ _ _ h => h) (Or.inl ⟨by rfl, ?_⟩) hHeld ?_ ?_
                                      rotate_left
                                      · rintro w' ⟨s0, s1⟩
                                        go_simp
                                        with_reducible rfl
                                      rotate_left
                                      · simp only [Act.put, List.setIfInBounds_toArray, List.set_cons_zero, List.set_cons_succ, i64_w, i32_w]
                                        rfl
                                      refine take_ (i := 7) (N := some 41) (v := ?_) (a' := ?_) #[true, true, true, true, true, true, true, true, false, false, false, false] rfl rfl (take_ofW HT_.out HW_.out (by kernel_rfl)) (fun _ _ _ h => h) (Or.inl ⟨by rfl, ?_⟩) hHeld ?_ ?_
                                      rotate_left
                                      · rintro w' ⟨s0, s1⟩
                                        go_simp
                                        with_reducible rfl
                                      rotate_left
                                      · simp only [Act.put, List.setIfInBounds_toArray, List.set_cons_zero, List.set_cons_succ, i64_w, i32_w]
                                        rfl
                                      refine pure_ (i := 8) (N := some 42) (v := ?_) (a' := ?_) #[true, true, true, true, true, true, true, true, true, false, false, false] rfl rfl (any_of HT_.out (by kernel_rfl)) (fun _ _ _ h => h) (Or.inl ⟨by rfl, ?_⟩) ?_ ?_
                                      rotate_left
                                      · intro w'
                                        go_simp
                                        with_reducible rfl
                                      rotate_left
                                      · simp only [Act.put, List.setIfInBounds_toArray, List.set_cons_zero, List.set_cons_succ, i64_w, i32_w]
                                        rfl
                                      refine pure_ (i := 9) (N := some 43) (v := ?_) (a' := ?_) #[true, true, true, true, true, true, true, true, true, true, false, false] rfl rfl (any_of HT_.out (by kernel_rfl)) (fun _ _ _ h => h) (Or.inl ⟨by rfl, ?_⟩) ?_ ?_
                                      rotate_left
                                      · intro w'
                                        go_simp
                                        with_reducible rfl
                                      rotate_left
                                      · simp only [Act.put, List.setIfInBounds_toArray, List.set_cons_zero, List.set_cons_succ, i64_w, i32_w]
                                        rfl
                                      refine pure_ (i := 10) (N := some 44) (v := ?_) (a' := ?_) #[true, true, true, true, true, true, true, true, true, true, true, false] rfl rfl (any_of HT_.out (by kernel_rfl)) (fun _ _ _ h => h) (Or.inl ⟨by rfl, ?_⟩) ?_ ?_
                                      rotate_left
                                      · intro w'
                                        go_simp
                                        with_reducible rfl
                                      rotate_left
                                      · simp only [Act.put, List.setIfInBounds_toArray, List.set_cons_zero, List.set_cons_succ, i64_w, i32_w]
                                        rfl
                                      refine last_ (i := 11) (N := none) #[true, true, true, true, true, true, true, true, true, true, true, true] rfl rfl (one_of HT_.out (by kernel_rfl)) (by decide) (fun K hK => ?_)
                                      refine skip_ (w1 := ?_) (by rfl) rfl ?_ ?_
                                      rotate_left
                                      · go_simp
                                        rfl
                                      refine hK.out _ _ ?_
                                      clear hK K
                                      refine done_ (done_of HT_.out (by kernel_rfl)) ?_
                                      try go_wp2
                                      have n0_ : Aside0 (Kd.R (Kd.int .i64) 3 (w26.setCell ⟨go20, (x29_2 : Int).toNat, none⟩ (.int .i64 (wrap64 ((rd x8_2 x29_2) + (wrap64 ((rd x5_1 x29_2) * (rd (rd_L2 l1 x15_1) 0))))))) w.heap.size (fun k_ => some k_ ≠ (.slice (some ad164) x5_1.length co12 : Value).ownBlock) (.slice (some ⟨go20, 0, none⟩) x8_2.length co27) y167) := ⟨by (with_reducible repeat (first | apply Kd.R_alloc | apply Kd.R_drewN | apply Kd.R_drew)); exact HQ28.out⟩
                                      have n1_ : Aside0 (Kd.R (Kd.int .i64) 3 (w26.setCell ⟨go20, (x29_2 : Int).toNat, none⟩ (.int .i64 (wrap64 ((rd x8_2 x29_2) + (wrap64 ((rd x5_1 x29_2) * (rd (rd_L2 l1 x15_1) 0))))))) w.heap.size (fun k_ => some k_ ≠ (.slice (some ⟨go20, 0, none⟩) x8_2.length co27 : Value).ownBlock) (.slice (some ad164) x5_1.length co12) x5_1) := ⟨by (with_reducible repeat (first | apply Kd.R_alloc | apply Kd.R_drewN | apply Kd.R_drew)); exact Kd.R_mono (Kd.R_far (p := ⟨go20, (x29_2 : Int).toNat, none⟩) (Kd.R_mono HO_27.out (fun k_ hk => (⟨hk, fun e_ => hk (by rw [e_]; rfl)⟩ : _ ∧ k_ ≠ go20))) (fun _ hk => hk.2) (.int .i64 (wrap64 ((rd x8_2 x29_2) + (wrap64 ((rd x5_1 x29_2) * (rd (rd_L2 l1 x15_1) 0))))))) (fun _ hk => hk.1)⟩
                                      have n2_ : Aside0 (Below w.heap.size w (w26.setCell ⟨go20, (x29_2 : Int).toNat, none⟩ (.int .i64 (wrap64 ((rd x8_2 x29_2) + (wrap64 ((rd x5_1 x29_2) * (rd (rd_L2 l1 x15_1) 0)))))))) := ⟨by repeat (first | (with_reducible first | exact HB.out | apply below_alloc | apply pw_below_drewN | apply below_drew1 | refine below_set ?_ GB20.out) | exact HB.out)⟩
                                      (try clear HO_8)
                                      (try clear HO_27)
                                      (try clear HB)
                                      generalize (w26.setCell ⟨go20, (x29_2 : Int).toNat, none⟩ (.int .i64 (wrap64 ((rd x8_2 x29_2) + (wrap64 ((rd x5_1 x29_2) * (rd (rd_L2 l1 x15_1) 0))))))) = w29 at n0_ n1_ n2_ ⊢
                                      have HO_8 := n0_
                                      have HO_27 := n1_
                                      have HB := n2_
                                      clear n0_ n1_ n2_
                                      have n0_ := Aside0.mk (Kd.R_drew HO_8.out)
                                      have n1_ := Aside0.mk (Kd.R_drew HO_27.out)
                                      have n2_ := Aside0.mk (below_drew1 HB.out)
                                      clear HO_8
                                      clear HO_27
                                      clear HB
                                      have HO_8 := n0_
                                      have HO_27 := n1_
                                      have HB := n2_
                                      clear n0_ n1_ n2_
                                      have p168 : 0 ≤ ((ji21) : Int) := of_decide_eq_true (by first | (with_reducible assumption) | assumption)
                                      have q168 : (ji21) < (y167.length : Int) := (by have h_ : ((ji21) : Int) < ((x8_2.length : Int) : Int) := of_decide_eq_true (by first | (with_reducible assumption) | assumption); first | (have e_ := (Kd.R_reads' HO_8.out).1; omega) | simpa only [Ny167.out, List.length_set] using h_)
                                      have ql168 : (((ji21) : Int) < ((x8_2.length : Int) : Int)) = True := eq_true (of_decide_eq_true (by first | (with_reducible assumption) | assumption))
                                      obtain ⟨ad168, e168, hx168_0⟩ := Kd.at_int (Kd.R_reads' HO_8.out).2.2 (ji21) p168 q168
                                      obtain rfl : (⟨go20, 0, none⟩ : Addr) = ad168 := (by injection e168)
                                      (first | simp only [add_plain] at hx168_0 | simp only [add_at] at hx168_0 | simp only [Addr.add, Nat.zero_add] at hx168_0 | skip)
                                      replace p168 := eq_true p168
                                      replace q168 := eq_true q168
                                      have p169 : 0 ≤ (1 : Int) := (by omega)
                                      have q169 : 1 < ((rd_L2 l1 x15_1).length : Int) := of_decide_eq_true (by first | (with_reducible assumption) | assumption)
                                      obtain ⟨ad169, e169, hx169_0⟩ := Kd.at_int HR157_0.out 1 p169 q169
                                      have hw169_0 := hx169_0
                                      (try rw [show ((1 : Int)).toNat = 1 from rfl] at hw169_0)
                                      (try rw [show 1 * 1 = 1 from rfl] at hw169_0)
                                      (try simp only [Nat.reduceMul, Nat.reduceEqDiff, Go.Addr.add, ↓reduceIte] at hw169_0)
                                      obtain rfl : ad166 = ad169 := (by injection e169)
                                      (try simp only [show (1 : Int).toNat = 1 from rfl, Nat.reduceMul, Nat.reduceEqDiff, Go.Addr.add, ↓reduceIte] at hx169_0)
                                      have qi169 : (1 < (rd_L2 l1 x15_1).length) = True := eq_true (by omega)
                                      (try rw [show ((1 : Int)).toNat = 1 from rfl] at hx169_0)
                                      replace hx169_0 := (HB.out.cell (World.block_lt_of_cell? w _ hx169_0)).trans hx169_0
                                      replace p169 := eq_true p169
                                      replace q169 := eq_true q169
                                      have p25 : 0 ≤ ((ji21) : Int) := of_decide_eq_true (by first | (with_reducible assumption) | assumption)
                                      have q25 : ((ji21) : Int) < ((x8_2.length : Int) : Int) := of_decide_eq_true (by first | (with_reducible assumption) | assumption)
                                      obtain ⟨hx25_0, hf25_0⟩ := Kd.R_celln 0 HO_8.out ((ji21) : Int) p25 q25
                                      replace p25 := eq_true p25
                                      replace q25 := eq_true q25
                                      have HP31 := Kd.R_putn HO_8.out ((ji21) : Int) (wrap64 ((rd y167 (ji21)) + (wrap64 ((rd x5_1 x29_2) * (rd (rd_L2 l1 x15_1) 1)))))
                                      rw [← Ny170.out] at HP31
                                      have HQ31 := Aside0.mk HP31
                                      clear HP31
                                      refine start_ (n := 13) (S := fun w' => w'.cell? ⟨go20, ((ji21)).toNat, none⟩ = some (.int .i64 (rd y167 (ji21))) ∧ w'.cell? ⟨ad166.block, ad166.off + 1, none⟩ = some (.int .i64 (rd (rd_L2 l1 x15_1) 1))) (ds := [12]) #[false, false, false, false, false, false, false, false, false, false, false, false, false] (by kernel_rfl) rfl rfl ⟨hx168_0, ((HB.out.cell (World.block_lt_of_cell? w _ hw169_0)).trans hw169_0)⟩ (fun hHeld => ?_); refine with_tabW spec_Multiplied.tab12 spec_Multiplied.bits12 (fun HT_ HW_ => ?_)
                                      generalize w29.drew = w30 at HO_8 HO_27 HB HQ28 HQ31 hf25_0 hx168_0 hx169_0 hx25_0 hHeld ⊢
                                      refine pure_ (i := 0) (N := some 45) (v := ?_) (a' := ?_) #[true, false, false, false, false, false, false, false, false, false, false, false, false] rfl rfl (any_of HT_.out (by kernel_rfl)) (fun _ _ _ h => h) (Or.inl ⟨by rfl, ?_⟩) ?_ ?_
                                      rotate_left
                                      · intro w'
                                        go_simp
                                        with_reducible rfl
                                      rotate_left
                                      · simp only [Act.put, List.setIfInBounds_toArray, List.set_cons_zero, List.set_cons_succ, i64_w, i32_w]
                                        rfl
                                      refine pure_ (i := 1) (N := some 46) (v := ?_) (a' := ?_) #[true, true, false, false, false, false, false, false, false, false, false, false, false] rfl rfl (any_of HT_.out (by kernel_rfl)) (fun _ _ _ h => h) (Or.inl ⟨by rfl, ?_⟩) ?_ ?_
                                      rotate_left
                                      · intro w'
                                        go_simp
                                        with_reducible rfl
                                      rotate_left
                                      · simp only [Act.put, List.setIfInBounds_toArray, List.set_cons_zero, List.set_cons_succ, i64_w, i32_w]
                                        rfl
                                      refine pure_ (i := 2) (N := some 47) (v := ?_) (a' := ?_) #[true, true, true, false, false, false, false, false, false, false, false, false, false] rfl rfl (any_of HT_.out (by kernel_rfl)) (fun _ _ _ h => h) (Or.inl ⟨by rfl, ?_⟩) ?_ ?_
                                      rotate_left
                                      · intro w'
                                        go_simp
                                        with_reducible rfl
                                      rotate_left
                                      · simp only [Act.put, List.setIfInBounds_toArray, List.set_cons_zero, List.set_cons_succ, i64_w, i32_w]
                                        rfl
                                      refine pure_ (i := 3) (N := some 48) (v := ?_) (a' := ?_) #[true, true, true, true, false, false, false, false, false, false, false, false, false] rfl rfl (any_of HT_.out (by kernel_rfl)) (fun _ _ _ h => h) (Or.inl ⟨by rfl, ?_⟩) ?_ ?_
                                      rotate_left
                                      · intro w'
                                        go_simp
                                        with_reducible rfl
                                      rotate_left
                                      · simp only [Act.put, List.setIfInBounds_toArray, List.set_cons_zero, List.set_cons_succ, i64_w, i32_w]
                                        rfl
                                      refine pure_ (i := 5) (N := some 50) (v := ?_) (a' := ?_) #[true, true, true, true, false, true, false, false, false, false, false, false, false] rfl rfl (any_of HT_.out (by kernel_rfl)) (fun _ _ _ h => h) (Or.inl ⟨by rfl, ?_⟩) ?_ ?_
                                      rotate_left
                                      · intro w'
                                        go_simp
                                        with_reducible rfl
                                      rotate_left
                                      · simp only [Act.put, List.setIfInBounds_toArray, List.set_cons_zero, List.set_cons_succ, i64_w, i32_w]
                                        rfl
                                      refine pure_ (i := 6) (N := some 51) (v := ?_) (a' := ?_) #[true, true, true, true, false, true, true, false, false, false, false, false, false] rfl rfl (any_of HT_.out (by kernel_rfl)) (fun _ _ _ h => h) (Or.inl ⟨by rfl, ?_⟩) ?_ ?_
                                      rotate_left
                                      · intro w'
                                        go_simp
                                        with_reducible rfl
                                      rotate_left
                                      · simp only [Act.put, List.setIfInBounds_toArray, List.set_cons_zero, List.set_cons_succ, i64_w, i32_w]
                                        rfl
                                      refine pure_ (i := 7) (N := some 52) (v := ?_) (a' := ?_) #[true, true, true, true, false, true, true, true, false, false, false, false, false] rfl rfl (any_of HT_.out (by kernel_rfl)) (fun _ _ _ h => h) (Or.inl ⟨by rfl, ?_⟩) ?_ ?_
                                      rotate_left
                                      · intro w'
                                        go_simp
                                        with_reducible rfl
                                      rotate_left
                                      · simp only [Act.put, List.setIfInBounds_toArray, List.set_cons_zero, List.set_cons_succ, i64_w, i32_w]
                                        rfl
                                      refine take_ (i := 4) (N := some 49) (v := ?_) (a' := ?_) #[true, true, true, true, true, true, true, true, false, false, false, false, false] rfl rfl (take_ofW HT_.out HW_.out (by kernel_rfl)) (fun _ _ _ h => h) (Or.inl ⟨by rfl, ?_⟩) hHeld ?_ ?_
                                      rotate_left
                                      · rintro w' ⟨s0, s1⟩
                                        go_simp
                                        with_reducible rfl
                                      rotate_left
                                      · simp only [Act.put, List.setIfInBounds_toArray, List.set_cons_zero, List.set_cons_succ, i64_w, i32_w]
                                        rfl
                                      refine take_ (i := 8) (N := some 53) (v := ?_) (a' := ?_) #[true, true, true, true, true, true, true, true, true, false, false, false, false] rfl rfl (take_ofW HT_.out HW_.out (by kernel_rfl)) (fun _ _ _ h => h) (Or.inl ⟨by rfl, ?_⟩) hHeld ?_ ?_
                                      rotate_left
                                      · rintro w' ⟨s0, s1⟩
                                        go_simp
                                        with_reducible rfl
                                      rotate_left
                                      · simp only [Act.put, List.setIfInBounds_toArray, List.set_cons_zero, List.set_cons_succ, i64_w, i32_w]
                                        rfl
                                      refine pure_ (i := 9) (N := some 54) (v := ?_) (a' := ?_) #[true, true, true, true, true, true, true, true, true, true, false, false, false] rfl rfl (any_of HT_.out (by kernel_rfl)) (fun _ _ _ h => h) (Or.inl ⟨by rfl, ?_⟩) ?_ ?_
                                      rotate_left
                                      · intro w'
                                        go_simp
                                        with_reducible rfl
                                      rotate_left
                                      · simp only [Act.put, List.setIfInBounds_toArray, List.set_cons_zero, List.set_cons_succ, i64_w, i32_w]
                                        rfl
                                      refine pure_ (i := 10) (N := some 55) (v := ?_) (a' := ?_) #[true, true, true, true, true, true, true, true, true, true, true, false, false] rfl rfl (any_of HT_.out (by kernel_rfl)) (fun _ _ _ h => h) (Or.inl ⟨by rfl, ?_⟩) ?_ ?_
                                      rotate_left
                                      · intro w'
                                        go_simp
                                        with_reducible rfl
                                      rotate_left
                                      · simp only [Act.put, List.setIfInBounds_toArray, List.set_cons_zero, List.set_cons_succ, i64_w, i32_w]
                                        rfl
                                      refine pure_ (i := 11) (N := some 56) (v := ?_) (a' := ?_) #[true, true, true, true, true, true, true, true, true, true, true, true, false] rfl rfl (any_of HT_.out (by kernel_rfl)) (fun _ _ _ h => h) (Or.inl ⟨by rfl, ?_⟩) ?_ ?_
                                      rotate_left
                                      · intro w'
                                        go_simp
                                        with_reducible rfl
                                      rotate_left
                                      · simp only [Act.put, List.setIfInBounds_toArray, List.set_cons_zero, List.set_cons_succ, i64_w, i32_w]
                                        rfl
                                      refine last_ (i := 12) (N := none) #[true, true, true, true, true, true, true, true, true, true, true, true, true] rfl rfl (one_of HT_.out (by kernel_rfl)) (by decide) (fun K hK => ?_)
                                      refine skip_ (w1 := ?_) (by rfl) rfl ?_ ?_
                                      rotate_left
                                      · go_simp
                                        rfl
                                      refine hK.out _ _ ?_
                                      clear hK K
                                      refine done_ (done_of HT_.out (by kernel_rfl)) ?_
                                      try go_wp2
                                      go_roundg k2
                                      case measure => have := HK1.out; have := HK2.out; omega
                                      case rel => exact ⟨(y170), (ji21), (by first | rfl | (simp; done) | (simp only [← hji21] <;> (first | rfl | simp)) | (simp [*]; done)), H', ⟨by have := HK1.out; have := HK2.out; omega⟩, ⟨by (with_reducible repeat (first | apply Kd.R_alloc | apply Kd.R_drewN | apply Kd.R_drew)); exact HQ31.out⟩, ⟨by (with_reducible repeat (first | apply Kd.R_alloc | apply Kd.R_drewN | apply Kd.R_drew)); exact Kd.R_mono (Kd.R_far (p := ⟨go20, ((ji21) : Int).toNat, none⟩) (Kd.R_mono HO_27.out (fun k_ hk => (⟨hk, fun e_ => hk (by rw [e_]; rfl)⟩ : _ ∧ k_ ≠ go20))) (fun _ hk => hk.2) (.int .i64 (wrap64 ((rd y167 (ji21)) + (wrap64 ((rd x5_1 x29_2) * (rd (rd_L2 l1 x15_1) 1))))))) (fun _ hk => hk.1)⟩, ⟨by repeat (first | (with_reducible first | exact HB.out | apply below_alloc | apply pw_below_drewN | apply below_drew1 | refine below_set ?_ GB20.out) | exact HB.out)⟩⟩
                                    · rw [if_neg c24] at H
                                      exact absurd H (by simp)
                                  · rw [if_neg c23] at H
                                    exact absurd H (by simp)
                                · rw [if_neg c22] at H
                                  exact absurd H (by simp)
                              · rw [if_neg c19] at H
                                exact absurd H (by simp)
                            · rw [if_neg c18] at H
                              exact absurd H (by simp)
                          · rw [if_neg c17] at H
                            exact absurd H (by simp)
                        · rw [if_neg c16] at H
                          exact absurd H (by simp)
                      · rw [if_neg c15] at H
                        have c15b0 : decide (x29_2 < (x5_1.length : Int)) = false := decide_eq_false c15
                        clear c15
                        have H' := Aside0.mk H
                        clear H
                        go_wp2
                        go_roundg k2
                        case measure => have := HK1.out; have := HK2.out; omega
                        case rel => exact ⟨(x8_2), (wrap64 (x15_1 + 1)), (by first | rfl | (simp; done) | (simp [*]; done)), H', ⟨by have := HK1.out; have := HK2.out; omega⟩, ⟨by (with_reducible repeat (first | apply Kd.R_alloc | apply Kd.R_drewN | apply Kd.R_drew)); exact Kd.R_mono HO_8.out (fun _ hk => trivial)⟩, ⟨by repeat (first | (with_reducible first | exact HB.out | apply below_alloc | apply pw_below_drewN | apply below_drew1) | exact HB.out)⟩⟩
                · rw [if_neg c11] at H
                  exact absurd H (by simp)
              · rw [if_neg c10] at H
                exact absurd H (by simp)
            · rw [if_neg c8] at H
              have c8b0 : (((rd_L2 l1 x15_1).length : Int) == 2) = false := beq_eq_false_iff_ne.mpr c8
              have c8b1 : (((rd_L2 l1 x15_1).length : Int) != 2) = true := bne_iff_ne.mpr c8
              obtain ⟨y158, hy158⟩ : ∃ y_ : List Int, y_ = (([] : List Int)) := ⟨_, rfl⟩
              replace H : (some y158) = some r := by first | (rw [hy158]; with_reducible exact H) | (have H2_ := (Option.bind_some _ _).symm.trans H; rw [hy158]; with_reducible exact H2_) | (have H2_ := (Option.bind_some _ _).symm.trans H; with_reducible exact H2_) | with_reducible exact H | (rw [hy158]; exact H) | exact H
              have Ny158 := Aside0.mk hy158
              clear hy158
              obtain rfl := Option.some.inj H
              have p157 : 0 ≤ (x15_1 : Int) := of_decide_eq_true (by first | (with_reducible assumption) | assumption)
              have q157 : x15_1 < (l1.length : Int) := of_decide_eq_true (by first | (with_reducible assumption) | assumption)
              obtain ⟨ad157, A157_0, c157_0, e157, hx157_0, hl157_0, hi157_0⟩ := at_L2 HR1.out x15_1 p157 q157
              cases e157
              replace hx157_0 := (HB.out.cell (World.block_lt_of_cell? w _ hx157_0)).trans hx157_0
              have HR157_0 := Aside0.mk hi157_0
              have HC157_0 := Aside0.mk hl157_0
              clear hi157_0 hl157_0
              replace p157 := eq_true p157
              replace q157 := eq_true q157
              go_wp2_with (first | ((with_reducible refine gate_dst (N := 22) rfl ?_); refine Kd.R_lit (Kd.int .i64) _ 3 ?hg (N := 22) ?hd (xs := ([] : List Int)) (inner := []) (ok := fun _ => True) (okp := fun _ => True) ?hr ?hp (fun _ hk => hk) trivial (Below.refl _ _) (Nat.le_refl _) (by simp) ?_; (case hd => rfl); (case hg => rfl); (case hr => first | (go_simp; done) | (go_simp; rfl)); (case hp => exact (Reps.none _ _)); intro v159 w32 ho33 hb hg_ hnew_; clear hg_ hnew_; (first | rw [← Ny158.out] at ho33 | (simp only [Int.reduceToNat] at ho33; rw [← Ny158.out] at ho33)); have n0_ := Aside0.mk (Kd.R_elder' (by (with_reducible repeat (first | apply Kd.R_alloc | apply Kd.R_drewN | apply Kd.R_drew)); exact HO_5.out) (Kd.R_base ho33) hb); have n1_ := Aside0.mk (Kd.R_lower (Kd.R_new' ho33 (Kd.R_lt (by (with_reducible repeat (first | apply Kd.R_alloc | apply Kd.R_drewN | apply Kd.R_drew)); exact HO_5.out))) (below_size (by repeat (first | (with_reducible first | exact HB.out | apply below_alloc | apply pw_below_drewN | apply below_drew1) | exact HB.out)))); have n2_ := Aside0.mk (below_step (by repeat (first | (with_reducible first | exact HB.out | apply below_alloc | apply pw_below_drewN | apply below_drew1) | exact HB.out)) hb); clear HO_5; clear HB; have HO_5 := n0_; have HO160 := n1_; have HB := n2_; clear n0_ n1_ n2_; clear hb ho33))
              go_ret
              exact ⟨_, by first | rfl | (simp [errW_none, errW_some] <;> rfl) | (simp [*, errW_none, errW_some] <;> rfl), by (with_reducible repeat (first | apply Kd.R_alloc | apply Kd.R_drewN | apply Kd.R_drew)); exact Kd.R_mono HO160.out (fun _ hk => trivial), by repeat (first | (with_reducible first | exact HB.out | apply below_alloc | apply pw_below_drewN | apply below_drew1) | exact HB.out)⟩
          · rw [if_neg c7] at H
            exact absurd H (by simp)
        · rw [if_neg c6] at H
          exact absurd H (by simp)
      · rw [if_neg c5] at H
        have c5b0 : decide (x15_1 < (l1.length : Int)) = false := decide_eq_false c5
        clear c5
        obtain rfl := Option.some.inj H
        go_wp2
        go_ret
        exact ⟨_, by first | rfl | (simp [errW_none, errW_some] <;> rfl) | (simp [*, errW_none, errW_some] <;> rfl), by (with_reducible repeat (first | apply Kd.R_alloc | apply Kd.R_drewN | apply Kd.R_drew)); exact HO_5.out, by repeat (first | (with_reducible first | exact HB.out | apply below_alloc | apply pw_below_drewN | apply below_drew1) | exact HB.out)⟩

end Go.Proofs.YtpelipdecjooeaaDoor.PFnQuadMade
