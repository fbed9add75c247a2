/- The functions that the law 'FnPermutationAll' reaches, each with its contract. -/
import Derived.Test.YtpelipdecjooeaaOFnPermutationAllx0
namespace Go.Proofs.Ytpelipdecjooeaa.PFnPermutationAll
open Go.RowKit Go.Proofs.YtpelipdecjooeaaW.PrintWords Go.Proofs.YtpelipdecjooeaaW.PrintLast Go.Proofs.YtpelipdecjooeaaW.PrintMore
attribute [local go_sem] max2_int min2_int max_two min_two max_three min_three max_four min_four   -- for this text's walks alone
set_option linter.unusedVariables false
set_option linter.unusedSimpArgs false

/-! ### spec_All: function 8 -/
mutual
def spec_All.l0 : Nat → List Int → List (List Int) → Int → Bool → Int → Int → Option ((List (List Int)))
  | 0, _, _, _, _, _, _ => none
  | k + 1, x0, x3, x4, x5, x19, x20 => if x20 < x19 then (spec_All.l1 k x0 x3 x4 x5 (-1) x19 x20 x0 (x0.length : Int) 0) else (some x3)
def spec_All.l1 : Nat → List Int → List (List Int) → Int → Bool → Int → Int → Int → List Int → Int → Int → Option ((List (List Int)))
  | 0, _, _, _, _, _, _, _, _, _, _ => none
  | k + 1, x0, x3, x4, x5, x6, x19, x20, x22, x23, x24 => if x24 < x23 then (if 0 ≤ x24 then (if x24 < (x22.length : Int) then (if x5 = true then (if (rd x22 x24) > x4 then (if x6 < 0 then (spec_All.l1 k x0 x3 x4 x5 x24 x19 x20 x22 x23 (wrap64 (x24 + 1))) else (if 0 ≤ x6 then (if x6 < (x0.length : Int) then (if (rd x22 x24) < (rd x0 x6) then (spec_All.l1 k x0 x3 x4 x5 x24 x19 x20 x22 x23 (wrap64 (x24 + 1))) else (spec_All.l1 k x0 x3 x4 x5 x6 x19 x20 x22 x23 (wrap64 (x24 + 1)))) else (none)) else (none))) else (spec_All.l1 k x0 x3 x4 x5 x6 x19 x20 x22 x23 (wrap64 (x24 + 1)))) else (if x6 < 0 then (spec_All.l1 k x0 x3 x4 x5 x24 x19 x20 x22 x23 (wrap64 (x24 + 1))) else (if 0 ≤ x6 then (if x6 < (x0.length : Int) then (if (rd x22 x24) < (rd x0 x6) then (spec_All.l1 k x0 x3 x4 x5 x24 x19 x20 x22 x23 (wrap64 (x24 + 1))) else (spec_All.l1 k x0 x3 x4 x5 x6 x19 x20 x22 x23 (wrap64 (x24 + 1)))) else (none)) else (none)))) else (none)) else (none)) else (if x6 < 0 then (some x3) else (if 0 ≤ x6 then (if x6 < (x0.length : Int) then ((some (([] : List Int) : List Int)).bind fun y182 => (if x6 ≤ (x0.length : Int) then (if y182.length + (x0.take (x6 : Int).toNat).length < 17592186044416 then ((some (y182 ++ (x0.take (x6 : Int).toNat) : List Int)).bind fun y186 => (if 0 ≤ (wrap64 (x6 + 1)) then (if (wrap64 (x6 + 1)) ≤ (x0.length : Int) then (if y186.length + (x0.drop ((wrap64 (x6 + 1)) : Int).toNat).length < 17592186044416 then ((spec_All.f k (y186 ++ (x0.drop ((wrap64 (x6 + 1)) : Int).toNat))).bind fun t193 => (spec_All.l2 k x0 x3 (rd x0 x6) true x19 x20 t193 (t193.length : Int) 0)) else (none)) else (none)) else (none))) else (none)) else (none))) else (none)) else (none)))
def spec_All.l2 : Nat → List Int → List (List Int) → Int → Bool → Int → Int → List (List Int) → Int → Int → Option ((List (List Int)))
  | 0, _, _, _, _, _, _, _, _, _ => none
  | k + 1, x0, x3, x4, x5, x19, x20, x67, x68, x69 => if x69 < x68 then (if 0 ≤ x69 then (if x69 < (x67.length : Int) then ((some (([x4] : List Int) : List Int)).bind fun y197 => (if y197.length + (rd_L1 x67 x69).length < 17592186044416 then (if x3.length < 5864062014805 then (spec_All.l2 k x0 (x3 ++ [(y197 ++ (rd_L1 x67 x69))]) x4 x5 x19 x20 x67 x68 (wrap64 (x69 + 1))) else (none)) else (none))) else (none)) else (none)) else (spec_All.l0 k x0 x3 x4 x5 x19 (wrap64 (x20 + 1)))
def spec_All.f : Nat → List Int → Option ((List (List Int)))
  | 0, _ => none
  | k + 1, l0 => if (l0.length : Int) = 0 then (some (([(([] : List Int))] : List (List Int)))) else (spec_All.l0 k l0 (([] : List (List Int))) 0 false (l0.length : Int) 0)
end
theorem spec_All.mono_l : ∀ k, (∀ y0, LeO (spec_All.f k y0) (spec_All.f (k + 1) y0)) ∧ (∀ y0 y1 y2 y3 y4 y5, LeO (spec_All.l0 k y0 y1 y2 y3 y4 y5) (spec_All.l0 (k + 1) y0 y1 y2 y3 y4 y5)) ∧ (∀ y0 y1 y2 y3 y4 y5 y6 y7 y8 y9, LeO (spec_All.l1 k y0 y1 y2 y3 y4 y5 y6 y7 y8 y9) (spec_All.l1 (k + 1) y0 y1 y2 y3 y4 y5 y6 y7 y8 y9)) ∧ (∀ y0 y1 y2 y3 y4 y5 y6 y7 y8, LeO (spec_All.l2 k y0 y1 y2 y3 y4 y5 y6 y7 y8) (spec_All.l2 (k + 1) y0 y1 y2 y3 y4 y5 y6 y7 y8))
  | 0 => ⟨fun _ r h => by simp [spec_All.f] at h, fun _ _ _ _ _ _ r h => by simp [spec_All.l0] at h, fun _ _ _ _ _ _ _ _ _ _ r h => by simp [spec_All.l1] at h, fun _ _ _ _ _ _ _ _ _ r h => by simp [spec_All.l2] at h⟩
  | k + 1 => by
    obtain ⟨ih0, ih1, ih2, ih3⟩ := spec_All.mono_l k
    refine ⟨?_, ?_, ?_, ?_⟩
    · intro y0
      unfold spec_All.f
      repeat' first
      | (with_reducible exact ih0 _)
      | (with_reducible exact ih1 _ _ _ _ _ _)
      | (with_reducible exact ih2 _ _ _ _ _ _ _ _ _ _)
      | (with_reducible exact ih3 _ _ _ _ _ _ _ _ _)
      | (with_reducible exact LeO.refl _)
      | (with_reducible exact LeO.none _)
      | (with_reducible refine LeO.ite ?_ ?_)
      | (with_reducible refine LeO.bind ?_ (fun _ => ?_))
      | exact ih0 _
      | exact ih1 _ _ _ _ _ _
      | exact ih2 _ _ _ _ _ _ _ _ _ _
      | exact ih3 _ _ _ _ _ _ _ _ _
      | exact LeO.none _
      | refine LeO.ite ?_ ?_
      | refine LeO.bind ?_ (fun _ => ?_)
    · intro y0 y1 y2 y3 y4 y5
      unfold spec_All.l0
      repeat' first
      | (with_reducible exact ih0 _)
      | (with_reducible exact ih1 _ _ _ _ _ _)
      | (with_reducible exact ih2 _ _ _ _ _ _ _ _ _ _)
      | (with_reducible exact ih3 _ _ _ _ _ _ _ _ _)
      | (with_reducible exact LeO.refl _)
      | (with_reducible exact LeO.none _)
      | (with_reducible refine LeO.ite ?_ ?_)
      | (with_reducible refine LeO.bind ?_ (fun _ => ?_))
      | exact ih0 _
      | exact ih1 _ _ _ _ _ _
      | exact ih2 _ _ _ _ _ _ _ _ _ _
      | exact ih3 _ _ _ _ _ _ _ _ _
      | exact LeO.none _
      | refine LeO.ite ?_ ?_
      | refine LeO.bind ?_ (fun _ => ?_)
    · intro y0 y1 y2 y3 y4 y5 y6 y7 y8 y9
      unfold spec_All.l1
      repeat' first
      | (with_reducible exact ih0 _)
      | (with_reducible exact ih1 _ _ _ _ _ _)
      | (with_reducible exact ih2 _ _ _ _ _ _ _ _ _ _)
      | (with_reducible exact ih3 _ _ _ _ _ _ _ _ _)
      | (with_reducible exact LeO.refl _)
      | (with_reducible exact LeO.none _)
      | (with_reducible refine LeO.ite ?_ ?_)
      | (with_reducible refine LeO.bind ?_ (fun _ => ?_))
      | exact ih0 _
      | exact ih1 _ _ _ _ _ _
      | exact ih2 _ _ _ _ _ _ _ _ _ _
      | exact ih3 _ _ _ _ _ _ _ _ _
      | exact LeO.none _
      | refine LeO.ite ?_ ?_
      | refine LeO.bind ?_ (fun _ => ?_)
    · intro y0 y1 y2 y3 y4 y5 y6 y7 y8
      unfold spec_All.l2
      repeat' first
      | (with_reducible exact ih0 _)
      | (with_reducible exact ih1 _ _ _ _ _ _)
      | (with_reducible exact ih2 _ _ _ _ _ _ _ _ _ _)
      | (with_reducible exact ih3 _ _ _ _ _ _ _ _ _)
      | (with_reducible exact LeO.refl _)
      | (with_reducible exact LeO.none _)
      | (with_reducible refine LeO.ite ?_ ?_)
      | (with_reducible refine LeO.bind ?_ (fun _ => ?_))
      | exact ih0 _
      | exact ih1 _ _ _ _ _ _
      | exact ih2 _ _ _ _ _ _ _ _ _ _
      | exact ih3 _ _ _ _ _ _ _ _ _
      | exact LeO.none _
      | refine LeO.ite ?_ ?_
      | refine LeO.bind ?_ (fun _ => ?_)
theorem spec_All.mono : ∀ a0 k, LeO (spec_All.f k a0) (spec_All.f (k + 1) a0) := by
  intro a0 k
  obtain ⟨ih0, ih1, ih2, ih3⟩ := spec_All.mono_l k
  exact ih0 a0
def spec_All.T16 : Bool × List (List Nat × List Nat) := (true, [([], []), ([], []), ([], []), ([1, 2], [1, 2]), ([0, 3], [0, 3]), ([], []), ([], []), ([6], [6]), ([5, 7], [5, 7]), ([4, 8, 4], [4, 8]), ([9, 9, 0, 1, 2, 3, 4, 5, 6, 7, 8, 9], [9])])
def spec_All.B16 : List Nat := [0, 0, 0, 6, 15, 0, 0, 64, 224, 511, 1023]
theorem spec_All.tab16 : rtab .any (opsOf Try.f8 16) = spec_All.T16 := by kernel_rfl
theorem spec_All.bits16 : waitsOk spec_All.T16.2 spec_All.B16 = true := by kernel_rfl
set_option maxHeartbeats 8000000 in
set_option maxRecDepth 100000 in
theorem spec_All.calls (k : Nat) : ∀ (A0 : Option Addr) (c0 : Nat) (l0 : List Int) (r : List (List Int)) (w : World) (hr0 : Kd.C (Kd.int .i64) w A0 l0.length l0) (hc0 : l0.length ≤ c0) (h : spec_All.f k l0 = some r),
    Calls Try.prog 8 #[.slice A0 l0.length c0] w fun e w' => ∃ v0_ : Value, e = .returned (v0_) ∧ Kd.N (Kd.slice 3 (Kd.int .i64)) 22 w' w.heap.size (fun k_ => (w.heap.size ≤ k_)) v0_ r ∧ Below w.heap.size w w' := by
  induction k using Nat.strongRecOn with
  | _ k ih =>
  intro A0 c0 l0 r w hr0 hc0 h
  cases k with
  | zero => exact absurd h (by simp [spec_All.f])
  | succ k =>
  simp only [spec_All.f] at h
  have HR0 := Aside0.mk hr0
  have HC0 := Aside0.mk hc0
  clear hr0 hc0
  have HB := Aside0.mk (Below.refl w.heap.size w)
  have H : (if (l0.length : Int) = 0 then (some (([(([] : List Int))] : List (List Int)))) else (spec_All.l0 k l0 (([] : List (List Int))) 0 false (l0.length : Int) 0)) = some r := h
  clear h
  by_cases c2 : (l0.length : Int) = 0
  · rw [if_pos c2] at H
    have c2b0 : ((l0.length : Int) == 0) = true := beq_iff_eq.mpr c2
    have c2b1 : ((l0.length : Int) != 0) = false := bne_eq_false_iff_eq.mpr c2
    clear c2
    obtain ⟨y169, hy169⟩ : ∃ y_ : List Int, y_ = (([] : List Int)) := ⟨_, rfl⟩
    replace H : (some (([y169] : List (List Int)))) = some r := by first | (rw [hy169]; with_reducible exact H) | (have H2_ := (Option.bind_some _ _).symm.trans H; rw [hy169]; with_reducible exact H2_) | (have H2_ := (Option.bind_some _ _).symm.trans H; with_reducible exact H2_) | with_reducible exact H | (rw [hy169]; exact H) | exact H
    have Ny169 := Aside0.mk hy169
    clear hy169
    obtain ⟨y172, hy172⟩ : ∃ y_ : List (List Int), y_ = (([y169] : List (List Int))) := ⟨_, rfl⟩
    replace H : (some y172) = some r := by first | (rw [hy172]; with_reducible exact H) | (have H2_ := (Option.bind_some _ _).symm.trans H; rw [hy172]; with_reducible exact H2_) | (have H2_ := (Option.bind_some _ _).symm.trans H; with_reducible exact H2_) | with_reducible exact H | (rw [hy172]; exact H) | exact H
    have Ny172 := Aside0.mk hy172
    clear hy172
    obtain rfl := Option.some.inj H
    go_enter Try.func8, Try.ntmps8
    go_wp2_with (first | ((with_reducible refine gate_dst (N := 15) rfl ?_); refine Kd.R_lit (Kd.int .i64) _ 3 ?hg (N := 15) ?hd (xs := ([] : List Int)) (inner := []) (ok := fun _ => True) (okp := fun _ => True) ?hr ?hp (fun _ hk => hk) trivial (Below.refl _ _) (Nat.le_refl _) (by simp) ?_; (case hd => rfl); (case hg => rfl); (case hr => first | (go_simp; done) | (go_simp; rfl)); (case hp => exact (Reps.none _ _)); intro v170 w3 ho4 hb hg_ hnew_; clear hg_ hnew_; (first | rw [← Ny169.out] at ho4 | (simp only [Int.reduceToNat] at ho4; rw [← Ny169.out] at ho4)); have n0_ := Aside0.mk (Kd.R_lower (Kd.R_newM (M := fun k_ => (w.heap.size ≤ k_)) ho4 (below_size (by repeat (first | (with_reducible first | exact HB.out | apply below_alloc | apply pw_below_drewN | apply below_drew1) | exact HB.out))) (fun k_ h_ => h_)) (below_size (by repeat (first | (with_reducible first | exact HB.out | apply below_alloc | apply pw_below_drewN | apply below_drew1) | exact HB.out)))); have n1_ := Aside0.mk (below_step (by repeat (first | (with_reducible first | exact HB.out | apply below_alloc | apply pw_below_drewN | apply below_drew1) | exact HB.out)) hb); clear HB; have HO171 := n0_; have HB := n1_; clear n0_ n1_; clear hb ho4; obtain ⟨Ao5, co5, eo5⟩ := Kd.R_slice HO171.out; subst eo5) | ((with_reducible refine gate_dst (N := 16) rfl ?_); refine Kd.N_lit (Kd.slice 3 (Kd.int .i64)) _ 22 ?hg (N' := 16) ?hd (xs := ([y169] : List (List Int))) (inner := [.slice Ao5 y169.length co5]) (ok := (fun k_ => (w.heap.size ≤ k_))) (okp := (fun k_ => (w.heap.size ≤ k_))) ?hr ?hp (fun _ hk => hk) ((show ∀ k_, w3.heap.size ≤ k_ → (fun k_ => (w.heap.size ≤ k_)) k_ from fun k_ hk => (Nat.le_trans (below_size (by repeat (first | (with_reducible first | exact HB.out | apply below_alloc | apply pw_below_drewN | apply below_drew1) | exact HB.out))) hk)) _ (Nat.le_refl _)) (Below.refl _ _) (Nat.le_refl _) (by simp) ?_; (case hd => rfl); (case hg => rfl); (case hr => first | (go_simp; done) | (go_simp; rfl)); (case hp => exact (Reps.one (show Kd.FK (Kd.slice 3 (Kd.int .i64)) _ _ y169 [.slice Ao5 y169.length co5] from (Kd.FK_slice_mk (Kd.R_reads' (Kd.R_mono (ok' := (fun k_ => (w.heap.size ≤ k_))) (HO171.out) (fun k_ hk => hk.1))).2.1 (Kd.R_F (Kd.R_mono (ok' := (fun k_ => (w.heap.size ≤ k_))) (HO171.out) (fun k_ hk => hk.1))))) (Reps.none _ _))); intro v173 w6 ho7 hb hg_ hnew_; clear hg_ hnew_; (first | rw [← Ny172.out] at ho7 | (simp only [Int.reduceToNat] at ho7; rw [← Ny172.out] at ho7)); have n0_ := Aside0.mk (Kd.N_lower ho7 (below_size (by repeat (first | (with_reducible first | exact HB.out | apply below_alloc | apply pw_below_drewN | apply below_drew1) | exact HB.out)))); have n1_ := Aside0.mk (below_step (by repeat (first | (with_reducible first | exact HB.out | apply below_alloc | apply pw_below_drewN | apply below_drew1) | exact HB.out)) hb); clear HB; clear HO171; have HO174 := n0_; have HB := n1_; clear n0_ n1_; clear hb ho7))
    go_ret
    exact ⟨_, by first | rfl | (simp [errW_none, errW_some] <;> rfl) | (simp [*, errW_none, errW_some] <;> rfl), by (with_reducible repeat (first | apply Kd.N_alloc | apply Kd.N_drewN | apply Kd.N_drew)); exact HO174.out, by repeat (first | (with_reducible first | exact HB.out | apply below_alloc | apply pw_below_drewN | apply below_drew1) | exact HB.out)⟩
  · rw [if_neg c2] at H
    have c2b0 : ((l0.length : Int) == 0) = false := beq_eq_false_iff_ne.mpr c2
    have c2b1 : ((l0.length : Int) != 0) = true := bne_iff_ne.mpr c2
    have c2b2 : ¬ (l0 = []) := fun h_ => c2 (by rw [h_]; rfl)
    obtain ⟨y175, hy175⟩ : ∃ y_ : List (List Int), y_ = (([] : List (List Int))) := ⟨_, rfl⟩
    replace H : (spec_All.l0 k l0 y175 0 false (l0.length : Int) 0) = some r := by first | (rw [hy175]; with_reducible exact H) | (have H2_ := (Option.bind_some _ _).symm.trans H; rw [hy175]; with_reducible exact H2_) | (have H2_ := (Option.bind_some _ _).symm.trans H; with_reducible exact H2_) | with_reducible exact H | (rw [hy175]; exact H) | exact H
    have Ny175 := Aside0.mk hy175
    clear hy175
    have H' := Aside0.mk H
    clear H
    go_enter Try.func8, Try.ntmps8
    go_wp2_with (first | ((with_reducible refine gate_dst (N := 17) rfl ?_); refine Kd.N_lit (Kd.slice 3 (Kd.int .i64)) _ 22 ?hg (N' := 17) ?hd (xs := ([] : List (List Int))) (inner := []) (ok := (fun k_ => (w.heap.size ≤ k_))) (okp := (fun k_ => (w.heap.size ≤ k_))) ?hr ?hp (fun _ hk => hk) ((show ∀ k_, w.heap.size ≤ k_ → (fun k_ => (w.heap.size ≤ k_)) k_ from fun k_ hk => (Nat.le_trans (below_size (by repeat (first | (with_reducible first | exact HB.out | apply below_alloc | apply pw_below_drewN | apply below_drew1) | exact HB.out))) hk)) _ (Nat.le_refl _)) (Below.refl _ _) (Nat.le_refl _) (by simp) ?_; (case hd => rfl); (case hg => rfl); (case hr => first | (go_simp; done) | (go_simp; rfl)); (case hp => exact (Reps.none _ _)); intro v176 w8 ho9 hb hg_ hnew_; clear hg_ hnew_; (first | rw [← Ny175.out] at ho9 | (simp only [Int.reduceToNat] at ho9; rw [← Ny175.out] at ho9)); have n0_ := Aside0.mk (Kd.N_lower ho9 (below_size (by repeat (first | (with_reducible first | exact HB.out | apply below_alloc | apply pw_below_drewN | apply below_drew1) | exact HB.out)))); have n1_ := Aside0.mk (below_step (by repeat (first | (with_reducible first | exact HB.out | apply below_alloc | apply pw_below_drewN | apply below_drew1) | exact HB.out)) hb); clear HB; have HO177 := n0_; have HB := n1_; clear n0_ n1_; clear hb ho9))
    go_loopg [3, 4, 5, 20] k (fun kq v3 v4 v5 v20 w' => ∃ (x3_1 : List (List Int)) (x4_1 : Int) (x5_1 : Bool) (x20_1 : Int), v4 = .int .i64 x4_1 ∧ v5 = .bool x5_1 ∧ v20 = .int .i64 x20_1 ∧ Aside0 (spec_All.l0 kq l0 x3_1 x4_1 x5_1 (l0.length : Int) x20_1 = some r) ∧ Aside0 (kq ≤ k) ∧ Aside0 (Kd.N (Kd.slice 3 (Kd.int .i64)) 22 w' w.heap.size (fun k_ => (w.heap.size ≤ k_)) v3 x3_1) ∧ Aside0 (Below w.heap.size w w'))
    case atStart => exact ⟨(y175), (0), (false), (0), (by first | rfl | (simp; done) | (simp [*]; done)), (by first | rfl | (simp; done) | (simp [*]; done)), (by first | rfl | (simp; done) | (simp [*]; done)), H', ⟨Nat.le_refl _⟩, ⟨by (with_reducible repeat (first | apply Kd.N_alloc | apply Kd.N_drewN | apply Kd.N_drew)); exact HO177.out⟩, ⟨by repeat (first | (with_reducible first | exact HB.out | apply below_alloc | apply pw_below_drewN | apply below_drew1) | exact HB.out)⟩⟩
    case round =>
      clear H'
      try clear c2
      try clear c2b0
      try clear c2b1
      try clear c2b2
      try clear p2
      try clear c8
      obtain ⟨x3_1, x4_1, x5_1, x20_1, rfl, rfl, rfl, HA, HK1, HO_3, HB⟩ := hrel
      cases gk with
      | zero => exact absurd HA.out (by simp [spec_All.l0])
      | succ k1 =>
        have H := HA.out
        clear HA
        simp only [spec_All.l0] at H
        by_cases c10 : x20_1 < (l0.length : Int)
        · rw [if_pos c10] at H
          have c10b0 : decide (x20_1 < (l0.length : Int)) = true := decide_eq_true c10
          clear c10
          have H' := Aside0.mk H
          clear H
          go_wp2
          go_loopg [6, 24] k1 (fun kq v6 v24 w' => ∃ (x6_2 : Int) (x24_2 : Int), v6 = .int .i64 x6_2 ∧ v24 = .int .i64 x24_2 ∧ Aside0 (spec_All.l1 kq l0 x3_1 x4_1 x5_1 x6_2 (l0.length : Int) x20_1 l0 (l0.length : Int) x24_2 = some r) ∧ Aside0 (kq ≤ k1) ∧ Aside0 (Kd.N (Kd.slice 3 (Kd.int .i64)) 22 w' w.heap.size (fun k_ => (w.heap.size ≤ k_)) u3 x3_1) ∧ Aside0 (Below w.heap.size w w'))
          case atStart => exact ⟨((-1)), (0), (by first | rfl | (simp; done) | (simp [*]; done)), (by first | rfl | (simp; done) | (simp [*]; done)), H', ⟨Nat.le_refl _⟩, ⟨by (with_reducible repeat (first | apply Kd.N_alloc | apply Kd.N_drewN | apply Kd.N_drew)); exact HO_3.out⟩, ⟨by repeat (first | (with_reducible first | exact HB.out | apply below_alloc | apply pw_below_drewN | apply below_drew1) | exact HB.out)⟩⟩
          case round =>
            clear H'
            try clear c1
            try clear c2
            try clear c2b0
            try clear c2b1
            try clear c2b2
            try clear p2
            try clear c8
            try clear c10
            try clear c10b0
            try clear p2
            obtain ⟨x6_2, x24_2, rfl, rfl, HA, HK2, HO_3, HB⟩ := hrel
            cases gk with
            | zero => exact absurd HA.out (by simp [spec_All.l1])
            | succ k2 =>
              have H := HA.out
              clear HA
              simp only [spec_All.l1] at H
              by_cases c11 : x24_2 < (l0.length : Int)
              · rw [if_pos c11] at H
                have c11b0 : decide (x24_2 < (l0.length : Int)) = true := decide_eq_true c11
                clear c11
                by_cases c12 : 0 ≤ x24_2
                · rw [if_pos c12] at H
                  have c12b0 : decide (0 ≤ x24_2) = true := decide_eq_true c12
                  clear c12
                  by_cases c13 : x24_2 < (l0.length : Int)
                  · rw [if_pos c13] at H
                    have c13b0 : decide (x24_2 < (l0.length : Int)) = true := decide_eq_true c13
                    clear c13
                    by_cases c14 : x5_1 = true
                    · subst c14
                      have H1 : (if (rd l0 x24_2) > x4_1 then (if x6_2 < 0 then (spec_All.l1 k2 l0 x3_1 x4_1 true x24_2 (l0.length : Int) x20_1 l0 (l0.length : Int) (wrap64 (x24_2 + 1))) else (if 0 ≤ x6_2 then (if x6_2 < (l0.length : Int) then (if (rd l0 x24_2) < (rd l0 x6_2) then (spec_All.l1 k2 l0 x3_1 x4_1 true x24_2 (l0.length : Int) x20_1 l0 (l0.length : Int) (wrap64 (x24_2 + 1))) else (spec_All.l1 k2 l0 x3_1 x4_1 true x6_2 (l0.length : Int) x20_1 l0 (l0.length : Int) (wrap64 (x24_2 + 1)))) else (none)) else (none))) else (spec_All.l1 k2 l0 x3_1 x4_1 true x6_2 (l0.length : Int) x20_1 l0 (l0.length : Int) (wrap64 (x24_2 + 1)))) = some r := by rw [if_pos rfl] at H; exact H
                      clear H
                      have H := H1
                      clear H1
                      by_cases c15 : (rd l0 x24_2) > x4_1
                      · rw [if_pos c15] at H
                        have c15b0 : decide (x4_1 < (rd l0 x24_2)) = true := decide_eq_true c15
                        clear c15
                        by_cases c16 : x6_2 < 0
                        · rw [if_pos c16] at H
                          have c16b0 : decide (x6_2 < 0) = true := decide_eq_true c16
                          clear c16
                          have H' := Aside0.mk H
                          clear H
                          have p178 : 0 ≤ (x24_2 : Int) := of_decide_eq_true (by first | (with_reducible assumption) | assumption)
                          have q178 : x24_2 < (l0.length : Int) := of_decide_eq_true (by first | (with_reducible assumption) | assumption)
                          obtain ⟨ad178, e178, hx178_0⟩ := Kd.at_int HR0.out x24_2 p178 q178
                          cases e178
                          replace hx178_0 := (HB.out.cell (World.block_lt_of_cell? w _ hx178_0)).trans hx178_0
                          replace p178 := eq_true p178
                          replace q178 := eq_true q178
                          go_wp2
                          go_roundg k2
                          case measure => have := HK1.out; have := HK2.out; omega
                          case rel => exact ⟨(x24_2), (wrap64 (x24_2 + 1)), (by first | rfl | (simp; done) | (simp [*]; done)), (by first | rfl | (simp; done) | (simp [*]; done)), H', ⟨by have := HK1.out; have := HK2.out; omega⟩, ⟨by (with_reducible repeat (first | apply Kd.N_alloc | apply Kd.N_drewN | apply Kd.N_drew)); exact HO_3.out⟩, ⟨by repeat (first | (with_reducible first | exact HB.out | apply below_alloc | apply pw_below_drewN | apply below_drew1) | exact HB.out)⟩⟩
                        · rw [if_neg c16] at H
                          have c16b0 : decide (x6_2 < 0) = false := decide_eq_false c16
                          clear c16
                          by_cases c17 : 0 ≤ x6_2
                          · rw [if_pos c17] at H
                            have c17b0 : decide (0 ≤ x6_2) = true := decide_eq_true c17
                            clear c17
                            by_cases c18 : x6_2 < (l0.length : Int)
                            · rw [if_pos c18] at H
                              have c18b0 : decide (x6_2 < (l0.length : Int)) = true := decide_eq_true c18
                              clear c18
                              by_cases c19 : (rd l0 x24_2) < (rd l0 x6_2)
                              · rw [if_pos c19] at H
                                have c19b0 : decide ((rd l0 x24_2) < (rd l0 x6_2)) = true := decide_eq_true c19
                                clear c19
                                have H' := Aside0.mk H
                                clear H
                                have p178 : 0 ≤ (x24_2 : Int) := of_decide_eq_true (by first | (with_reducible assumption) | assumption)
                                have q178 : x24_2 < (l0.length : Int) := of_decide_eq_true (by first | (with_reducible assumption) | assumption)
                                obtain ⟨ad178, e178, hx178_0⟩ := Kd.at_int HR0.out x24_2 p178 q178
                                cases e178
                                replace hx178_0 := (HB.out.cell (World.block_lt_of_cell? w _ hx178_0)).trans hx178_0
                                replace p178 := eq_true p178
                                replace q178 := eq_true q178
                                have p179 : 0 ≤ (x6_2 : Int) := of_decide_eq_true (by first | (with_reducible assumption) | assumption)
                                have q179 : x6_2 < (l0.length : Int) := of_decide_eq_true (by first | (with_reducible assumption) | assumption)
                                obtain ⟨ad179, e179, hx179_0⟩ := Kd.at_int HR0.out x6_2 p179 q179
                                obtain rfl : ad178 = ad179 := (by injection e179)
                                replace hx179_0 := (HB.out.cell (World.block_lt_of_cell? w _ hx179_0)).trans hx179_0
                                replace p179 := eq_true p179
                                replace q179 := eq_true q179
                                go_wp2
                                go_roundg k2
                                case measure => have := HK1.out; have := HK2.out; omega
                                case rel => exact ⟨(x24_2), (wrap64 (x24_2 + 1)), (by first | rfl | (simp; done) | (simp [*]; done)), (by first | rfl | (simp; done) | (simp [*]; done)), H', ⟨by have := HK1.out; have := HK2.out; omega⟩, ⟨by (with_reducible repeat (first | apply Kd.N_alloc | apply Kd.N_drewN | apply Kd.N_drew)); exact HO_3.out⟩, ⟨by repeat (first | (with_reducible first | exact HB.out | apply below_alloc | apply pw_below_drewN | apply below_drew1) | exact HB.out)⟩⟩
                              · rw [if_neg c19] at H
                                have c19b0 : decide ((rd l0 x24_2) < (rd l0 x6_2)) = false := decide_eq_false c19
                                clear c19
                                have H' := Aside0.mk H
                                clear H
                                have p178 : 0 ≤ (x24_2 : Int) := of_decide_eq_true (by first | (with_reducible assumption) | assumption)
                                have q178 : x24_2 < (l0.length : Int) := of_decide_eq_true (by first | (with_reducible assumption) | assumption)
                                obtain ⟨ad178, e178, hx178_0⟩ := Kd.at_int HR0.out x24_2 p178 q178
                                cases e178
                                replace hx178_0 := (HB.out.cell (World.block_lt_of_cell? w _ hx178_0)).trans hx178_0
                                replace p178 := eq_true p178
                                replace q178 := eq_true q178
                                have p179 : 0 ≤ (x6_2 : Int) := of_decide_eq_true (by first | (with_reducible assumption) | assumption)
                                have q179 : x6_2 < (l0.length : Int) := of_decide_eq_true (by first | (with_reducible assumption) | assumption)
                                obtain ⟨ad179, e179, hx179_0⟩ := Kd.at_int HR0.out x6_2 p179 q179
                                obtain rfl : ad178 = ad179 := (by injection e179)
                                replace hx179_0 := (HB.out.cell (World.block_lt_of_cell? w _ hx179_0)).trans hx179_0
                                replace p179 := eq_true p179
                                replace q179 := eq_true q179
                                go_wp2
                                go_roundg k2
                                case measure => have := HK1.out; have := HK2.out; omega
                                case rel => exact ⟨(x6_2), (wrap64 (x24_2 + 1)), (by first | rfl | (simp; done) | (simp [*]; done)), (by first | rfl | (simp; done) | (simp [*]; done)), H', ⟨by have := HK1.out; have := HK2.out; omega⟩, ⟨by (with_reducible repeat (first | apply Kd.N_alloc | apply Kd.N_drewN | apply Kd.N_drew)); exact HO_3.out⟩, ⟨by repeat (first | (with_reducible first | exact HB.out | apply below_alloc | apply pw_below_drewN | apply below_drew1) | exact HB.out)⟩⟩
                            · rw [if_neg c18] at H
                              exact absurd H (by simp)
                          · rw [if_neg c17] at H
                            exact absurd H (by simp)
                      · rw [if_neg c15] at H
                        have c15b0 : decide (x4_1 < (rd l0 x24_2)) = false := decide_eq_false c15
                        clear c15
                        have H' := Aside0.mk H
                        clear H
                        have p178 : 0 ≤ (x24_2 : Int) := of_decide_eq_true (by first | (with_reducible assumption) | assumption)
                        have q178 : x24_2 < (l0.length : Int) := of_decide_eq_true (by first | (with_reducible assumption) | assumption)
                        obtain ⟨ad178, e178, hx178_0⟩ := Kd.at_int HR0.out x24_2 p178 q178
                        cases e178
                        replace hx178_0 := (HB.out.cell (World.block_lt_of_cell? w _ hx178_0)).trans hx178_0
                        replace p178 := eq_true p178
                        replace q178 := eq_true q178
                        go_wp2
                        go_roundg k2
                        case measure => have := HK1.out; have := HK2.out; omega
                        case rel => exact ⟨(x6_2), (wrap64 (x24_2 + 1)), (by first | rfl | (simp; done) | (simp [*]; done)), (by first | rfl | (simp; done) | (simp [*]; done)), H', ⟨by have := HK1.out; have := HK2.out; omega⟩, ⟨by (with_reducible repeat (first | apply Kd.N_alloc | apply Kd.N_drewN | apply Kd.N_drew)); exact HO_3.out⟩, ⟨by repeat (first | (with_reducible first | exact HB.out | apply below_alloc | apply pw_below_drewN | apply below_drew1) | exact HB.out)⟩⟩
                    · replace c14 := Bool.eq_false_iff.mpr c14
                      subst c14
                      have H1 : (if x6_2 < 0 then (spec_All.l1 k2 l0 x3_1 x4_1 false x24_2 (l0.length : Int) x20_1 l0 (l0.length : Int) (wrap64 (x24_2 + 1))) else (if 0 ≤ x6_2 then (if x6_2 < (l0.length : Int) then (if (rd l0 x24_2) < (rd l0 x6_2) then (spec_All.l1 k2 l0 x3_1 x4_1 false x24_2 (l0.length : Int) x20_1 l0 (l0.length : Int) (wrap64 (x24_2 + 1))) else (spec_All.l1 k2 l0 x3_1 x4_1 false x6_2 (l0.length : Int) x20_1 l0 (l0.length : Int) (wrap64 (x24_2 + 1)))) else (none)) else (none))) = some r := by rw [if_neg (show ¬ (false = true) by decide)] at H; exact H
                      clear H
                      have H := H1
                      clear H1
                      by_cases c20 : x6_2 < 0
                      · rw [if_pos c20] at H
                        have c20b0 : decide (x6_2 < 0) = true := decide_eq_true c20
                        clear c20
                        have H' := Aside0.mk H
                        clear H
                        have p178 : 0 ≤ (x24_2 : Int) := of_decide_eq_true (by first | (with_reducible assumption) | assumption)
                        have q178 : x24_2 < (l0.length : Int) := of_decide_eq_true (by first | (with_reducible assumption) | assumption)
                        obtain ⟨ad178, e178, hx178_0⟩ := Kd.at_int HR0.out x24_2 p178 q178
                        cases e178
                        replace hx178_0 := (HB.out.cell (World.block_lt_of_cell? w _ hx178_0)).trans hx178_0
                        replace p178 := eq_true p178
                        replace q178 := eq_true q178
                        go_wp2
                        go_roundg k2
                        case measure => have := HK1.out; have := HK2.out; omega
                        case rel => exact ⟨(x24_2), (wrap64 (x24_2 + 1)), (by first | rfl | (simp; done) | (simp [*]; done)), (by first | rfl | (simp; done) | (simp [*]; done)), H', ⟨by have := HK1.out; have := HK2.out; omega⟩, ⟨by (with_reducible repeat (first | apply Kd.N_alloc | apply Kd.N_drewN | apply Kd.N_drew)); exact HO_3.out⟩, ⟨by repeat (first | (with_reducible first | exact HB.out | apply below_alloc | apply pw_below_drewN | apply below_drew1) | exact HB.out)⟩⟩
                      · rw [if_neg c20] at H
                        have c20b0 : decide (x6_2 < 0) = false := decide_eq_false c20
                        clear c20
                        by_cases c21 : 0 ≤ x6_2
                        · rw [if_pos c21] at H
                          have c21b0 : decide (0 ≤ x6_2) = true := decide_eq_true c21
                          clear c21
                          by_cases c22 : x6_2 < (l0.length : Int)
                          · rw [if_pos c22] at H
                            have c22b0 : decide (x6_2 < (l0.length : Int)) = true := decide_eq_true c22
                            clear c22
                            by_cases c23 : (rd l0 x24_2) < (rd l0 x6_2)
                            · rw [if_pos c23] at H
                              have c23b0 : decide ((rd l0 x24_2) < (rd l0 x6_2)) = true := decide_eq_true c23
                              clear c23
                              have H' := Aside0.mk H
                              clear H
                              have p178 : 0 ≤ (x24_2 : Int) := of_decide_eq_true (by first | (with_reducible assumption) | assumption)
                              have q178 : x24_2 < (l0.length : Int) := of_decide_eq_true (by first | (with_reducible assumption) | assumption)
                              obtain ⟨ad178, e178, hx178_0⟩ := Kd.at_int HR0.out x24_2 p178 q178
                              cases e178
                              replace hx178_0 := (HB.out.cell (World.block_lt_of_cell? w _ hx178_0)).trans hx178_0
                              replace p178 := eq_true p178
                              replace q178 := eq_true q178
                              have p180 : 0 ≤ (x6_2 : Int) := of_decide_eq_true (by first | (with_reducible assumption) | assumption)
                              have q180 : x6_2 < (l0.length : Int) := of_decide_eq_true (by first | (with_reducible assumption) | assumption)
                              obtain ⟨ad180, e180, hx180_0⟩ := Kd.at_int HR0.out x6_2 p180 q180
                              obtain rfl : ad178 = ad180 := (by injection e180)
                              replace hx180_0 := (HB.out.cell (World.block_lt_of_cell? w _ hx180_0)).trans hx180_0
                              replace p180 := eq_true p180
                              replace q180 := eq_true q180
                              go_wp2
                              go_roundg k2
                              case measure => have := HK1.out; have := HK2.out; omega
                              case rel => exact ⟨(x24_2), (wrap64 (x24_2 + 1)), (by first | rfl | (simp; done) | (simp [*]; done)), (by first | rfl | (simp; done) | (simp [*]; done)), H', ⟨by have := HK1.out; have := HK2.out; omega⟩, ⟨by (with_reducible repeat (first | apply Kd.N_alloc | apply Kd.N_drewN | apply Kd.N_drew)); exact HO_3.out⟩, ⟨by repeat (first | (with_reducible first | exact HB.out | apply below_alloc | apply pw_below_drewN | apply below_drew1) | exact HB.out)⟩⟩
                            · rw [if_neg c23] at H
                              have c23b0 : decide ((rd l0 x24_2) < (rd l0 x6_2)) = false := decide_eq_false c23
                              clear c23
                              have H' := Aside0.mk H
                              clear H
                              have p178 : 0 ≤ (x24_2 : Int) := of_decide_eq_true (by first | (with_reducible assumption) | assumption)
                              have q178 : x24_2 < (l0.length : Int) := of_decide_eq_true (by first | (with_reducible assumption) | assumption)
                              obtain ⟨ad178, e178, hx178_0⟩ := Kd.at_int HR0.out x24_2 p178 q178
                              cases e178
                              replace hx178_0 := (HB.out.cell (World.block_lt_of_cell? w _ hx178_0)).trans hx178_0
                              replace p178 := eq_true p178
                              replace q178 := eq_true q178
                              have p180 : 0 ≤ (x6_2 : Int) := of_decide_eq_true (by first | (with_reducible assumption) | assumption)
                              have q180 : x6_2 < (l0.length : Int) := of_decide_eq_true (by first | (with_reducible assumption) | assumption)
                              obtain ⟨ad180, e180, hx180_0⟩ := Kd.at_int HR0.out x6_2 p180 q180
                              obtain rfl : ad178 = ad180 := (by injection e180)
                              replace hx180_0 := (HB.out.cell (World.block_lt_of_cell? w _ hx180_0)).trans hx180_0
                              replace p180 := eq_true p180
                              replace q180 := eq_true q180
                              go_wp2
                              go_roundg k2
                              case measure => have := HK1.out; have := HK2.out; omega
                              case rel => exact ⟨(x6_2), (wrap64 (x24_2 + 1)), (by first | rfl | (simp; done) | (simp [*]; done)), (by first | rfl | (simp; done) | (simp [*]; done)), H', ⟨by have := HK1.out; have := HK2.out; omega⟩, ⟨by (with_reducible repeat (first | apply Kd.N_alloc | apply Kd.N_drewN | apply Kd.N_drew)); exact HO_3.out⟩, ⟨by repeat (first | (with_reducible first | exact HB.out | apply below_alloc | apply pw_below_drewN | apply below_drew1) | exact HB.out)⟩⟩
                          · rw [if_neg c22] at H
                            exact absurd H (by simp)
                        · rw [if_neg c21] at H
                          exact absurd H (by simp)
                  · rw [if_neg c13] at H
                    exact absurd H (by simp)
                · rw [if_neg c12] at H
                  exact absurd H (by simp)
              · rw [if_neg c11] at H
                have c11b0 : decide (x24_2 < (l0.length : Int)) = false := decide_eq_false c11
                clear c11
                by_cases c24 : x6_2 < 0
                · rw [if_pos c24] at H
                  have c24b0 : decide (x6_2 < 0) = true := decide_eq_true c24
                  clear c24
                  obtain rfl := Option.some.inj H
                  go_wp2
                  go_ret
                  exact ⟨_, by first | rfl | (simp [errW_none, errW_some] <;> rfl) | (simp [*, errW_none, errW_some] <;> rfl), by (with_reducible repeat (first | apply Kd.N_alloc | apply Kd.N_drewN | apply Kd.N_drew)); exact HO_3.out, by repeat (first | (with_reducible first | exact HB.out | apply below_alloc | apply pw_below_drewN | apply below_drew1) | exact HB.out)⟩
                · rw [if_neg c24] at H
                  have c24b0 : decide (x6_2 < 0) = false := decide_eq_false c24
                  clear c24
                  by_cases c25 : 0 ≤ x6_2
                  · rw [if_pos c25] at H
                    have c25b0 : decide (0 ≤ x6_2) = true := decide_eq_true c25
                    clear c25
                    by_cases c26 : x6_2 < (l0.length : Int)
                    · rw [if_pos c26] at H
                      have c26b0 : decide (x6_2 < (l0.length : Int)) = true := decide_eq_true c26
                      clear c26
                      obtain ⟨y182, hy182⟩ : ∃ y_ : List Int, y_ = (([] : List Int)) := ⟨_, rfl⟩
                      replace H : (if x6_2 ≤ (l0.length : Int) then (if y182.length + (l0.take (x6_2 : Int).toNat).length < 17592186044416 then ((some (y182 ++ (l0.take (x6_2 : Int).toNat) : List Int)).bind fun y186 => (if 0 ≤ (wrap64 (x6_2 + 1)) then (if (wrap64 (x6_2 + 1)) ≤ (l0.length : Int) then (if y186.length + (l0.drop ((wrap64 (x6_2 + 1)) : Int).toNat).length < 17592186044416 then ((spec_All.f k2 (y186 ++ (l0.drop ((wrap64 (x6_2 + 1)) : Int).toNat))).bind fun t193 => (spec_All.l2 k2 l0 x3_1 (rd l0 x6_2) true (l0.length : Int) x20_1 t193 (t193.length : Int) 0)) else (none)) else (none)) else (none))) else (none)) else (none)) = some r := by first | (rw [hy182]; with_reducible exact H) | (have H2_ := (Option.bind_some _ _).symm.trans H; rw [hy182]; with_reducible exact H2_) | (have H2_ := (Option.bind_some _ _).symm.trans H; with_reducible exact H2_) | with_reducible exact H | (rw [hy182]; exact H) | exact H
                      have Ny182 := Aside0.mk hy182
                      clear hy182
                      have c27b0 := eq_true (of_decide_eq_true (by first | (with_reducible assumption) | assumption) : 0 ≤ x6_2)
                      by_cases c28 : x6_2 ≤ (l0.length : Int)
                      · rw [if_pos c28] at H
                        have c28b0 := eq_true c28
                        have c28b1 : decide (x6_2 ≤ (l0.length : Int)) = true := decide_eq_true c28
                        clear c28
                        by_cases c29 : y182.length + (l0.take (x6_2 : Int).toNat).length < 17592186044416
                        · rw [if_pos c29] at H
                          have LMc29 := Aside0.mk c29
                          clear c29
                          obtain ⟨y186, hy186⟩ : ∃ y_ : List Int, y_ = (y182 ++ (l0.take (x6_2 : Int).toNat)) := ⟨_, rfl⟩
                          replace H : (if 0 ≤ (wrap64 (x6_2 + 1)) then (if (wrap64 (x6_2 + 1)) ≤ (l0.length : Int) then (if y186.length + (l0.drop ((wrap64 (x6_2 + 1)) : Int).toNat).length < 17592186044416 then ((spec_All.f k2 (y186 ++ (l0.drop ((wrap64 (x6_2 + 1)) : Int).toNat))).bind fun t193 => (spec_All.l2 k2 l0 x3_1 (rd l0 x6_2) true (l0.length : Int) x20_1 t193 (t193.length : Int) 0)) else (none)) else (none)) else (none)) = some r := by first | (rw [hy186]; with_reducible exact H) | (have H2_ := (Option.bind_some _ _).symm.trans H; rw [hy186]; with_reducible exact H2_) | (have H2_ := (Option.bind_some _ _).symm.trans H; with_reducible exact H2_) | with_reducible exact H | (rw [hy186]; exact H) | exact H
                          have Ny186 := Aside0.mk hy186
                          clear hy186
                          obtain ⟨ji30, hji30⟩ : ∃ j_ : Int, (wrap64 (x6_2 + 1)) = j_ := ⟨_, rfl⟩
                          replace H : (if 0 ≤ (ji30) then (if (ji30) ≤ (l0.length : Int) then (if y186.length + (l0.drop ((ji30) : Int).toNat).length < 17592186044416 then ((spec_All.f k2 (y186 ++ (l0.drop ((ji30) : Int).toNat))).bind fun t193 => (spec_All.l2 k2 l0 x3_1 (rd l0 x6_2) true (l0.length : Int) x20_1 t193 (t193.length : Int) 0)) else (none)) else (none)) else (none)) = some r := by first | (rw [hji30] at H; exact H) | (simp only [hji30] at H ⊢; exact H)
                          have hji30w : (IntKind.i64.wrap (x6_2 + 1)) = ji30 := (i64_w _).trans hji30
                          by_cases c31 : 0 ≤ (ji30)
                          · rw [if_pos c31] at H
                            have c31b0 := eq_true c31
                            have c31b1 : decide (0 ≤ (ji30)) = true := decide_eq_true c31
                            clear c31
                            by_cases c32 : (ji30) ≤ (l0.length : Int)
                            · rw [if_pos c32] at H
                              have c32b0 := eq_true c32
                              have c32b1 : decide ((ji30) ≤ (l0.length : Int)) = true := decide_eq_true c32
                              clear c32
                              by_cases c33 : y186.length + (l0.drop ((ji30) : Int).toNat).length < 17592186044416
                              · rw [if_pos c33] at H
                                have LMc33 := Aside0.mk c33
                                clear c33
                                obtain ⟨y190, hy190⟩ : ∃ y_ : List Int, y_ = (y186 ++ (l0.drop ((ji30) : Int).toNat)) := ⟨_, rfl⟩
                                replace H : ((spec_All.f k2 y190).bind fun t193 => (spec_All.l2 k2 l0 x3_1 (rd l0 x6_2) true (l0.length : Int) x20_1 t193 (t193.length : Int) 0)) = some r := by first | (rw [hy190]; with_reducible exact H) | (have H2_ := (Option.bind_some _ _).symm.trans H; rw [hy190]; with_reducible exact H2_) | (have H2_ := (Option.bind_some _ _).symm.trans H; with_reducible exact H2_) | with_reducible exact H | (rw [hy190]; exact H) | exact H
                                have Ny190 := Aside0.mk hy190
                                clear hy190
                                replace H := Option.bind_eq_some_iff.mp H
                                obtain ⟨t193, A340, H⟩ := H
                                replace H : (spec_All.l2 k2 l0 x3_1 (rd l0 x6_2) true (l0.length : Int) x20_1 t193 (t193.length : Int) 0) = some r := H
                                have A34 := Aside0.mk A340
                                clear A340
                                have H' := Aside0.mk H
                                clear H
                                have p181 : 0 ≤ (x6_2 : Int) := of_decide_eq_true (by first | (with_reducible assumption) | assumption)
                                have q181 : x6_2 < (l0.length : Int) := of_decide_eq_true (by first | (with_reducible assumption) | assumption)
                                obtain ⟨ad181, e181, hx181_0⟩ := Kd.at_int HR0.out x6_2 p181 q181
                                cases e181
                                replace hx181_0 := (HB.out.cell (World.block_lt_of_cell? w _ hx181_0)).trans hx181_0
                                replace p181 := eq_true p181
                                replace q181 := eq_true q181
                                try go_wp2
                                have n0_ := Aside0.mk (Kd.N_drew HO_3.out)
                                have n1_ := Aside0.mk (below_drew1 HB.out)
                                clear HO_3
                                clear HB
                                have HO_3 := n0_
                                have HB := n1_
                                clear n0_ n1_
                                obtain ⟨i036, hi036, _, hsz36, _⟩ := info_parts info3
                                obtain ⟨hcut36, hA36, hC36⟩ := print_take_of (P := Try.prog) (Value.int .i64) 0 22 3 .i64 Try.underlying22 hi036 hsz36 (some ad181) c0 l0 x6_2 (of_decide_eq_true (by first | (with_reducible assumption) | assumption)) (of_decide_eq_true (by first | (with_reducible assumption) | assumption)) HC0.out
                                have HR185 := Aside0.mk (Kd.C_of_reads (h1 := fun _ => rfl) (hA36 _ (Kd.reads_of_C HR0.out)))
                                have HC185 := Aside0.mk hC36
                                clear hA36 hC36 hi036 hsz36
                                obtain ⟨i037, hi037, _, hsz37, _⟩ := info_parts info3
                                obtain ⟨A37, hcut37, hA37, hC37⟩ := print_drop_of (P := Try.prog) (Value.int .i64) 0 22 3 .i64 Try.underlying22 hi037 hsz37 (some ad181) c0 l0 (ji30) (of_decide_eq_true (by first | (with_reducible assumption) | assumption)) (of_decide_eq_true (by first | (with_reducible assumption) | assumption)) HC0.out
                                have HR189 := Aside0.mk (Kd.C_of_reads (h1 := fun _ => rfl) (hA37 _ (Kd.reads_of_C HR0.out)))
                                have HC189 := Aside0.mk hC37
                                clear hA37 hC37 hi037 hsz37
                                refine start_ (n := 11) (S := fun w' => True) (ds := []) #[false, false, false, false, false, false, false, false, false, false, false] (by kernel_rfl) rfl rfl trivial (fun hHeld => ?_); refine with_tabW spec_All.tab16 spec_All.bits16 (fun HT_ HW_ => ?_)
                                generalize wr.drew = w35 at HO_3 HB HR185 HR189 hHeld ⊢
                                refine pure_ (i := 1) (N := some 57) (v := ?_) (a' := ?_) #[false, true, false, false, false, false, false, false, false, false, false] rfl rfl (any_of HT_.out (by kernel_rfl)) (fun _ _ _ h => h) (Or.inl ⟨by rfl, ?_⟩) ?_ ?_
                                rotate_left
                                · intro w'
                                  go_simp
                                  with_reducible rfl
                                rotate_left
                                · simp only [Act.put, List.setIfInBounds_toArray, List.set_cons_zero, List.set_cons_succ, i64_w, i32_w]
                                  rfl
                                refine pure_ (i := 2) (N := some 58) (v := ?_) (a' := ?_) #[false, true, true, false, false, false, false, false, false, false, false] rfl rfl (any_of HT_.out (by kernel_rfl)) (fun _ _ _ h => h) (Or.inl ⟨by rfl, ?_⟩) ?_ ?_
                                rotate_left
                                · intro w'
                                  go_simp
                                  with_reducible rfl
                                rotate_left
                                · simp only [Act.put, List.setIfInBounds_toArray, List.set_cons_zero, List.set_cons_succ, i64_w, i32_w]
                                  rfl
                                refine pure_ (i := 3) (N := some 59) (v := ?_) (a' := ?_) #[false, true, true, true, false, false, false, false, false, false, false] rfl rfl (any_of HT_.out (by kernel_rfl)) (fun _ _ _ h => h) (Or.inl ⟨by rfl, ?_⟩) ?_ ?_
                                rotate_left
                                · intro w'
                                  go_simp
                                  with_reducible rfl
                                rotate_left
                                · simp only [Act.put, List.setIfInBounds_toArray, List.set_cons_zero, List.set_cons_succ, i64_w, i32_w]
                                  rfl
                                refine pure_ (i := 5) (N := some 61) (v := ?_) (a' := ?_) #[false, true, true, true, false, true, false, false, false, false, false] rfl rfl (any_of HT_.out (by kernel_rfl)) (fun _ _ _ h => h) (Or.inl ⟨by rfl, ?_⟩) ?_ ?_
                                rotate_left
                                · intro w'
                                  go_simp
                                  with_reducible rfl
                                rotate_left
                                · simp only [Act.put, List.setIfInBounds_toArray, List.set_cons_zero, List.set_cons_succ, i64_w, i32_w]
                                  rfl
                                refine pure_ (i := 6) (N := some 62) (v := ?_) (a' := ?_) #[false, true, true, true, false, true, true, false, false, false, false] rfl rfl (any_of HT_.out (by kernel_rfl)) (fun _ _ _ h => h) (Or.inl ⟨by rfl, ?_⟩) ?_ ?_
                                rotate_left
                                · intro w'
                                  go_simp
                                  with_reducible rfl
                                rotate_left
                                · simp only [Act.put, List.setIfInBounds_toArray, List.set_cons_zero, List.set_cons_succ, i64_w, i32_w]
                                  rfl
                                refine pure_ (i := 7) (N := some 63) (v := ?_) (a' := ?_) #[false, true, true, true, false, true, true, true, false, false, false] rfl rfl (any_of HT_.out (by kernel_rfl)) (fun _ _ _ h => h) (Or.inl ⟨by rfl, ?_⟩) ?_ ?_
                                rotate_left
                                · intro w'
                                  go_simp
                                  with_reducible rfl
                                rotate_left
                                · simp only [Act.put, List.setIfInBounds_toArray, List.set_cons_zero, List.set_cons_succ, i64_w, i32_w]
                                  rfl
                                refine pure_ (i := 8) (N := some 64) (v := ?_) (a' := ?_) #[false, true, true, true, false, true, true, true, true, false, false] rfl rfl (any_of HT_.out (by kernel_rfl)) (fun _ _ _ h => h) (Or.inl ⟨by rfl, ?_⟩) ?_ ?_
                                rotate_left
                                · intro w'
                                  go_simp
                                  with_reducible rfl
                                rotate_left
                                · simp only [Act.put, List.setIfInBounds_toArray, List.set_cons_zero, List.set_cons_succ, i64_w, i32_w]
                                  rfl
                                refine one_ (i := 0) (N := some 56) #[true, true, true, true, false, true, true, true, true, false, false] rfl rfl (one_of HT_.out (by kernel_rfl)) (by decide) (fun K hK => ?_)
                                refine Kd.R_lit_step (Kd.int .i64) _ 3 ?hg (N := 56) ?hd (xs := ([] : List Int)) (inner := []) (ok := fun _ => True) (okp := fun _ => True) ?hr ?hp (fun _ hk => hk) trivial (Below.refl _ _) (Nat.le_refl _) (by simp) ?_; (case hd => rfl); (case hg => rfl); (case hr => first | (go_simp; done) | (go_simp; rfl)); (case hp => exact (Reps.none _ _))
                                intro v183 w38 ho39 hb hg_ hnew_
                                clear hg_ hnew_
                                (first | rw [← Ny182.out] at ho39 | (simp only [Int.reduceToNat] at ho39; rw [← Ny182.out] at ho39))
                                have n0_ := Aside0.mk (Kd.N_elder' (by (with_reducible repeat (first | apply Kd.N_alloc | apply Kd.N_drewN | apply Kd.N_drew)); exact HO_3.out) (Kd.R_base ho39) hb)
                                have n1_ := Aside0.mk (Kd.R_lower (Kd.R_newM (M := fun k_ => (w.heap.size ≤ k_)) ho39 (below_size (by repeat (first | (with_reducible first | exact HB.out | apply below_alloc | apply pw_below_drewN | apply below_drew1) | exact HB.out))) (fun k_ h_ => h_)) (below_size (by repeat (first | (with_reducible first | exact HB.out | apply below_alloc | apply pw_below_drewN | apply below_drew1) | exact HB.out))))
                                have n2_ := Aside0.mk (below_step (by repeat (first | (with_reducible first | exact HB.out | apply below_alloc | apply pw_below_drewN | apply below_drew1) | exact HB.out)) hb)
                                clear HO_3
                                clear HB
                                have HO_3 := n0_
                                have HO184 := n1_
                                have HB := n2_
                                clear n0_ n1_ n2_
                                clear hb ho39
                                refine hK.out _ _ trivial (fun hHeld => ?_)
                                clear hK K
                                refine norm_ (a' := ?_) ?_ ?_
                                rotate_left
                                · show Act.put _ (some 56) _ = _
                                  simp only [Act.put, List.setIfInBounds_toArray, List.set_cons_zero, List.set_cons_succ, i64_w, i32_w]
                                  rfl
                                refine one_ (i := 4) (N := some 60) #[true, true, true, true, true, true, true, true, true, false, false] rfl rfl (one_of HT_.out (by kernel_rfl)) (by decide) (fun K hK => ?_)
                                refine Kd.R_append_rows_step (Kd.int .i64) (w0 := w) w.heap.size (by rfl) (.tmp 56) (.tmp 59) 22 3 (.int .i64 0) 8 rfl Try.underlying22 info3 rfl (by decide) (by omega) v183 y182 (l0.take (x6_2 : Int).toNat) _ _ _ (fun k_ => (w.heap.size ≤ k_)) (fun _ => False) rfl rfl ?aO ?aR (fun _ _ h => h) (fun _ h => h.elim) ?aF ?aB ?aS ?aL ?_
                                (case aR => have hE_ : (l0.take (x6_2 : Int).toNat).length = x6_2.toNat := (by rw [List.length_take]; have h_ : (x6_2 : Int) ≤ (l0.length : Int) := of_decide_eq_true (by first | (with_reducible assumption) | assumption); omega); have hC_ := (Kd.C_below HR185.out HB.out); rw [hE_] at hC_; exact hC_)
                                (case aB => exact (by repeat (first | (with_reducible first | exact HB.out | apply below_alloc | apply pw_below_drewN | apply below_drew1) | exact HB.out)))
                                (case aF => exact (fun k_ hk => (Nat.le_trans (below_size (by repeat (first | (with_reducible first | exact HB.out | apply below_alloc | apply pw_below_drewN | apply below_drew1) | exact HB.out))) hk)))
                                (case aO => exact (by (with_reducible repeat (first | apply Kd.R_alloc | apply Kd.R_drewN | apply Kd.R_drew)); exact Kd.R_mono HO184.out (fun _ hk => hk.1)))
                                (case aS => exact (below_size (by repeat (first | (with_reducible first | exact HB.out | apply below_alloc | apply pw_below_drewN | apply below_drew1) | exact HB.out))))
                                (case aL => have := LMc29.out; have hlx_ := (show (l0.take (x6_2 : Int).toNat).length = x6_2.toNat from (by rw [List.length_take]; have h_ : (x6_2 : Int) ≤ (l0.length : Int) := of_decide_eq_true (by first | (with_reducible assumption) | assumption); omega)); omega)
                                intro v187 w40 ho hb hg hat
                                rw [← Ny186.out] at ho
                                have n0_ := Aside0.mk (Kd.N_afterv (ok := (fun k_ => (w.heap.size ≤ k_))) (by (with_reducible repeat (first | apply Kd.N_alloc | apply Kd.N_drewN | apply Kd.N_drew)); exact HO_3.out) hg hat)
                                have n1_ := Aside0.mk (hb)
                                have n2_ := Aside0.mk (ho)
                                clear HO_3
                                clear HB
                                clear HO184
                                have HO_3 := n0_
                                have HB := n1_
                                have HO188 := n2_
                                clear n0_ n1_ n2_
                                clear ho hb hg hat
                                refine hK.out _ _ trivial (fun hHeld => ?_)
                                clear hK K
                                refine norm_ (a' := ?_) ?_ ?_
                                rotate_left
                                · show Act.put _ (some 60) _ = _
                                  simp only [Act.put, List.setIfInBounds_toArray, List.set_cons_zero, List.set_cons_succ, i64_w, i32_w]
                                  rfl
                                refine one_ (i := 9) (N := some 65) #[true, true, true, true, true, true, true, true, true, true, false] rfl rfl (one_of HT_.out (by kernel_rfl)) (by decide) (fun K hK => ?_)
                                refine Kd.R_append_rows_step (Kd.int .i64) (w0 := w) w.heap.size (by rfl) (.tmp 60) (.tmp 64) 22 3 (.int .i64 0) 8 rfl Try.underlying22 info3 rfl (by decide) (by omega) v187 y186 (l0.drop ((ji30) : Int).toNat) _ _ _ (fun k_ => (w.heap.size ≤ k_)) (fun _ => False) rfl rfl ?aO ?aR (fun _ _ h => h) (fun _ h => h.elim) ?aF ?aB ?aS ?aL ?_
                                (case aR => first | (rw [← show (l0.drop ((ji30) : Int).toNat).length = (l0.length - (ji30).toNat) from List.length_drop]; repeat (first | exact (Kd.C_below HR189.out HB.out) | (with_reducible refine Kd.C_alloc ?_ _) | (with_reducible refine Kd.C_drewN ?_ _) | (with_reducible refine Kd.C_drew ?_))) | (repeat (first | exact (Kd.C_below HR189.out HB.out) | (with_reducible refine Kd.C_alloc ?_ _) | (with_reducible refine Kd.C_drewN ?_ _) | (with_reducible refine Kd.C_drew ?_))))
                                (case aB => exact (by repeat (first | (with_reducible first | exact HB.out | apply below_alloc | apply pw_below_drewN | apply below_drew1) | exact HB.out)))
                                (case aF => exact (fun k_ hk => (Nat.le_trans (below_size (by repeat (first | (with_reducible first | exact HB.out | apply below_alloc | apply pw_below_drewN | apply below_drew1) | exact HB.out))) hk)))
                                (case aO => exact (by (with_reducible repeat (first | apply Kd.R_alloc | apply Kd.R_drewN | apply Kd.R_drew)); exact HO188.out))
                                (case aS => exact (below_size (by repeat (first | (with_reducible first | exact HB.out | apply below_alloc | apply pw_below_drewN | apply below_drew1) | exact HB.out))))
                                (case aL => have := LMc33.out; have hlx_ := (show (l0.drop ((ji30) : Int).toNat).length = (l0.length - (ji30).toNat) from List.length_drop); omega)
                                intro v191 w41 ho hb hg hat
                                rw [← Ny190.out] at ho
                                have n0_ := Aside0.mk (Kd.N_afterv (ok := (fun k_ => (w.heap.size ≤ k_))) (by (with_reducible repeat (first | apply Kd.N_alloc | apply Kd.N_drewN | apply Kd.N_drew)); exact HO_3.out) hg hat)
                                have n1_ := Aside0.mk (hb)
                                have n2_ := Aside0.mk (ho)
                                clear HO_3
                                clear HB
                                clear HO188
                                have HO_3 := n0_
                                have HB := n1_
                                have HO192 := n2_
                                clear n0_ n1_ n2_
                                clear ho hb hg hat
                                refine hK.out _ _ trivial (fun hHeld => ?_)
                                clear hK K
                                refine norm_ (a' := ?_) ?_ ?_
                                rotate_left
                                · show Act.put _ (some 65) _ = _
                                  simp only [Act.put, List.setIfInBounds_toArray, List.set_cons_zero, List.set_cons_succ, i64_w, i32_w]
                                  rfl
                                refine pure_ (i := 10) (N := some 9) (v := ?_) (a' := ?_) #[true, true, true, true, true, true, true, true, true, true, true] rfl rfl (any_of HT_.out (by kernel_rfl)) (fun _ _ _ h => h) (Or.inl ⟨by rfl, ?_⟩) ?_ ?_
                                rotate_left
                                · intro w'
                                  go_simp
                                  with_reducible rfl
                                rotate_left
                                · simp only [Act.put, List.setIfInBounds_toArray, List.set_cons_zero, List.set_cons_succ, i64_w, i32_w]
                                  rfl
                                refine done_ (done_of HT_.out (by kernel_rfl)) ?_
                                obtain ⟨Ao42, co42, eo42⟩ := Kd.R_slice HO192.out
                                subst eo42
                                try go_wp2_with (first | ((with_reducible refine gate_callee (f := 8) rfl ?_); refine goesL_ (some 67) rfl rfl Try.func8 (by kernel_rfl) rfl #[.slice Ao42 y190.length co42] rfl (by (try simp only [List.map_toArray, List.map_cons, List.map_nil]); first | done | rfl | (simp only [List.length_drop, List.length_take]; rfl)) ?_; (with_reducible refine (ih k2 (by have := HK1.out; have := HK2.out; omega) _ _ y190 t193 _ ?side1 ?side2 A34.out).mono ?_); (case side1 => repeat (first | exact (Kd.R_reads' HO192.out).2.2 | (with_reducible refine Kd.C_alloc ?_ _) | (with_reducible refine Kd.C_drewN ?_ _) | (with_reducible refine Kd.C_drew ?_))); (case side2 => exact (Kd.R_reads' HO192.out).2.1); rintro e w43 ⟨v194, rfl, ho0, hb⟩; refine ⟨_, rfl, ?_⟩; have n0_ := Aside0.mk (Kd.N_elder' (by (with_reducible repeat (first | apply Kd.N_alloc | apply Kd.N_drewN | apply Kd.N_drew)); exact HO_3.out) (Kd.N_base ho0) hb); have n1_ := Aside0.mk (Kd.R_below (by (with_reducible repeat (first | apply Kd.R_alloc | apply Kd.R_drewN | apply Kd.R_drew)); exact HO192.out) hb); have n2_ := Aside0.mk (Kd.N_lower (Kd.N_mono (ok' := fun k_ => (w.heap.size ≤ k_) ∧ some k_ ≠ (u3 : Value).ownBlock ∧ some k_ ≠ (.slice Ao42 y190.length co42 : Value).ownBlock) ho0 (fun k_ hk_ => ⟨(Nat.le_trans (below_size (by repeat (first | (with_reducible first | exact HB.out | apply below_alloc | apply pw_below_drewN | apply below_drew1) | exact HB.out))) hk_), (Kd.fresh' (Kd.N_lt (by (with_reducible repeat (first | apply Kd.N_alloc | apply Kd.N_drewN | apply Kd.N_drew)); exact HO_3.out)) k_ hk_), (Kd.fresh' (Kd.R_lt (by (with_reducible repeat (first | apply Kd.R_alloc | apply Kd.R_drewN | apply Kd.R_drew)); exact HO192.out)) k_ hk_)⟩)) (below_size (by repeat (first | (with_reducible first | exact HB.out | apply below_alloc | apply pw_below_drewN | apply below_drew1) | exact HB.out)))); have n3_ := Aside0.mk (below_step (by repeat (first | (with_reducible first | exact HB.out | apply below_alloc | apply pw_below_drewN | apply below_drew1) | exact HB.out)) hb); clear HO_3; clear HO192; clear HB; have HO_3 := n0_; have HO192 := n1_; have HO195 := n2_; have HB := n3_; clear n0_ n1_ n2_ n3_; (try clear hb); (try clear hb2); (try clear hk); (try clear hi); (try clear ho0); obtain ⟨Ao44, co44, eo44⟩ := Kd.N_slice HO195.out; subst eo44))
                                go_loopg [3, 69] k2 (fun kq v3 v69 w' => ∃ (x3_3 : List (List Int)) (x69_3 : Int), v69 = .int .i64 x69_3 ∧ Aside0 (spec_All.l2 kq l0 x3_3 (rd l0 x6_2) true (l0.length : Int) x20_1 t193 (t193.length : Int) x69_3 = some r) ∧ Aside0 (kq ≤ k2) ∧ Aside0 (Kd.N (Kd.slice 3 (Kd.int .i64)) 22 w' w.heap.size (fun k_ => (w.heap.size ≤ k_) ∧ some k_ ≠ ((.slice Ao44 t193.length co44) : Value).ownBlock) v3 x3_3) ∧ Aside0 (Kd.N (Kd.slice 3 (Kd.int .i64)) 22 w' w.heap.size (fun k_ => (w.heap.size ≤ k_) ∧ some k_ ≠ (v3 : Value).ownBlock) (.slice Ao44 t193.length co44) t193) ∧ Aside0 (Below w.heap.size w w'))
                                case atStart => exact ⟨(x3_1), (0), (by first | rfl | (simp; done) | (simp [*]; done)), H', ⟨Nat.le_refl _⟩, ⟨by (with_reducible repeat (first | apply Kd.N_alloc | apply Kd.N_drewN | apply Kd.N_drew)); exact Kd.N_mono HO_3.out (fun _ hk => ⟨hk.1.1, hk.2⟩)⟩, ⟨by (with_reducible repeat (first | apply Kd.N_alloc | apply Kd.N_drewN | apply Kd.N_drew)); exact Kd.N_mono HO195.out (fun _ hk => ⟨hk.1, hk.2.1⟩)⟩, ⟨by repeat (first | (with_reducible first | exact HB.out | apply below_alloc | apply pw_below_drewN | apply below_drew1) | exact HB.out)⟩⟩
                                case round =>
                                  clear H'
                                  try clear c1
                                  try clear p1
                                  try clear q1
                                  try clear hx1
                                  try clear c2
                                  try clear c2b0
                                  try clear c2b1
                                  try clear c2b2
                                  try clear p2
                                  try clear c3
                                  try clear p6
                                  try clear c8
                                  try clear c10
                                  try clear c10b0
                                  try clear c11
                                  try clear c11b0
                                  try clear c12
                                  try clear c12b0
                                  try clear c13
                                  try clear c13b0
                                  try clear c14
                                  try clear c15
                                  try clear c15b0
                                  try clear c16
                                  try clear c16b0
                                  try clear c17
                                  try clear c17b0
                                  try clear p17
                                  try clear q17
                                  try clear hx17
                                  try clear c18
                                  try clear c18b0
                                  try clear p18
                                  try clear q18
                                  try clear hx18
                                  try clear c19
                                  try clear c19b0
                                  try clear c20
                                  try clear c20b0
                                  try clear c21
                                  try clear c21b0
                                  try clear c22
                                  try clear c22b0
                                  try clear c23
                                  try clear c23b0
                                  try clear c24
                                  try clear c24b0
                                  try clear c25
                                  try clear c25b0
                                  try clear c26
                                  try clear c26b0
                                  try clear c27
                                  try clear c27b0
                                  try clear c28
                                  try clear c28b0
                                  try clear c28b1
                                  try clear c29
                                  try clear c31
                                  try clear c31b0
                                  try clear c31b1
                                  try clear c32
                                  try clear c32b0
                                  try clear c32b1
                                  try clear c33
                                  try clear hx178_0
                                  try clear hx179_0
                                  try clear hx180_0
                                  try clear hx181_0
                                  try clear p178
                                  try clear p179
                                  try clear p180
                                  try clear p181
                                  try clear p2
                                  try clear q178
                                  try clear q179
                                  try clear q180
                                  try clear q181
                                  obtain ⟨x3_3, x69_3, rfl, HA, HK3, HO_3, HO_67, HB⟩ := hrel
                                  cases gk with
                                  | zero => exact absurd HA.out (by simp [spec_All.l2])
                                  | succ k3 =>
                                    have H := HA.out
                                    clear HA
                                    simp only [spec_All.l2] at H
                                    by_cases c45 : x69_3 < (t193.length : Int)
                                    · rw [if_pos c45] at H
                                      have c45b0 : decide (x69_3 < (t193.length : Int)) = true := decide_eq_true c45
                                      clear c45
                                      by_cases c46 : 0 ≤ x69_3
                                      · rw [if_pos c46] at H
                                        have c46b0 : decide (0 ≤ x69_3) = true := decide_eq_true c46
                                        clear c46
                                        by_cases c47 : x69_3 < (t193.length : Int)
                                        · rw [if_pos c47] at H
                                          have c47b0 : decide (x69_3 < (t193.length : Int)) = true := decide_eq_true c47
                                          clear c47
                                          obtain ⟨y197, hy197⟩ : ∃ y_ : List Int, y_ = (([(rd l0 x6_2)] : List Int)) := ⟨_, rfl⟩
                                          replace H : (if y197.length + (rd_L1 t193 x69_3).length < 17592186044416 then (if x3_3.length < 5864062014805 then (spec_All.l2 k3 l0 (x3_3 ++ [(y197 ++ (rd_L1 t193 x69_3))]) (rd l0 x6_2) true (l0.length : Int) x20_1 t193 (t193.length : Int) (wrap64 (x69_3 + 1))) else (none)) else (none)) = some r := by first | (rw [hy197]; with_reducible exact H) | (have H2_ := (Option.bind_some _ _).symm.trans H; rw [hy197]; with_reducible exact H2_) | (have H2_ := (Option.bind_some _ _).symm.trans H; with_reducible exact H2_) | with_reducible exact H | (rw [hy197]; exact H) | exact H
                                          have Ny197 := Aside0.mk hy197
                                          clear hy197
                                          by_cases c48 : y197.length + (rd_L1 t193 x69_3).length < 17592186044416
                                          · rw [if_pos c48] at H
                                            have LMc48 := Aside0.mk c48
                                            clear c48
                                            obtain ⟨y200, hy200⟩ : ∃ y_ : List Int, y_ = (y197 ++ (rd_L1 t193 x69_3)) := ⟨_, rfl⟩
                                            replace H : (if x3_3.length < 5864062014805 then (spec_All.l2 k3 l0 (x3_3 ++ [y200]) (rd l0 x6_2) true (l0.length : Int) x20_1 t193 (t193.length : Int) (wrap64 (x69_3 + 1))) else (none)) = some r := by first | (rw [hy200]; with_reducible exact H) | (have H2_ := (Option.bind_some _ _).symm.trans H; rw [hy200]; with_reducible exact H2_) | (have H2_ := (Option.bind_some _ _).symm.trans H; with_reducible exact H2_) | with_reducible exact H | (rw [hy200]; exact H) | exact H
                                            have Ny200 := Aside0.mk hy200
                                            clear hy200
                                            by_cases c49 : x3_3.length < 5864062014805
                                            · rw [if_pos c49] at H
                                              have LMc49 := Aside0.mk c49
                                              clear c49
                                              obtain ⟨y203, hy203⟩ : ∃ y_ : List (List Int), y_ = (x3_3 ++ [y200]) := ⟨_, rfl⟩
                                              replace H : (spec_All.l2 k3 l0 y203 (rd l0 x6_2) true (l0.length : Int) x20_1 t193 (t193.length : Int) (wrap64 (x69_3 + 1))) = some r := by first | (rw [hy203]; with_reducible exact H) | (have H2_ := (Option.bind_some _ _).symm.trans H; rw [hy203]; with_reducible exact H2_) | (have H2_ := (Option.bind_some _ _).symm.trans H; with_reducible exact H2_) | with_reducible exact H | (rw [hy203]; exact H) | exact H
                                              have Ny203 := Aside0.mk hy203
                                              clear hy203
                                              have H' := Aside0.mk H
                                              clear H
                                              have p196 : 0 ≤ (x69_3 : Int) := of_decide_eq_true (by first | (with_reducible assumption) | assumption)
                                              have q196 : x69_3 < (t193.length : Int) := of_decide_eq_true (by first | (with_reducible assumption) | assumption)
                                              obtain ⟨ad196, A196_0, c196_0, e196, hx196_0, hl196_0, hi196_0⟩ := at_L1 (Kd.N_reads' HO_67.out).2.2 x69_3 p196 q196
                                              cases e196
                                              obtain ⟨ce196, hce196, hMe196, hcc196⟩ := Kd.N_get HO_67.out [] x69_3 p196 (by first | exact q196 | exact of_decide_eq_true (by first | (with_reducible assumption) | assumption) | (have e_ := (Kd.N_reads' HO_67.out).1; omega))
                                              obtain ⟨ua196_0, uc196_0, rfl, ul196_0, ge196_0⟩ := Kd.FK_slice_open hMe196
                                              have hv196_0 := hcc196 0 _ rfl
                                              rw [Nat.add_zero, show ((Kd.slice 3 (Kd.int .i64))).sz = 1 from rfl, Nat.mul_one] at hv196_0
                                              replace hv196_0 := Option.some.inj (hv196_0.symm.trans hx196_0)
                                              injection hv196_0 with hva_ hvn_ hvc_
                                              rw [hva_] at ge196_0
                                              rw [hvc_] at ul196_0
                                              have HL196_0 := Aside0.mk (show Kd.V (Kd.int .i64) 3 _ w.heap.size _ _ (rd_L1 t193 x69_3) from Kd.V_mk ul196_0 ge196_0)
                                              clear hva_ hvn_ hvc_ ge196_0 ul196_0
                                              clear hcc196 hce196
                                              have HR196_0 := Aside0.mk hi196_0
                                              have HC196_0 := Aside0.mk hl196_0
                                              clear hi196_0 hl196_0
                                              replace p196 := eq_true p196
                                              replace q196 := eq_true q196
                                              go_wp2_with (first | ((with_reducible refine gate_dst (N := 75) rfl ?_); refine Kd.R_lit (Kd.int .i64) _ 3 ?hg (N := 75) ?hd (xs := ([(rd l0 x6_2)] : List Int)) (inner := [.int .i64 (rd l0 x6_2)]) (ok := fun _ => True) (okp := fun _ => True) ?hr ?hp (fun _ hk => hk) trivial (Below.refl _ _) (Nat.le_refl _) (by simp) ?_; (case hd => rfl); (case hg => rfl); (case hr => first | (go_simp; done) | (go_simp; rfl)); (case hp => exact (Reps.one (show Kd.M (Kd.int .i64) _ _ _ (rd l0 x6_2) [.int .i64 (rd l0 x6_2)] from rfl) (Reps.none _ _))); intro v198 w50 ho51 hb hg_ hnew_; clear hg_ hnew_; (first | rw [← Ny197.out] at ho51 | (simp only [Int.reduceToNat] at ho51; rw [← Ny197.out] at ho51)); have n0_ := Aside0.mk (Kd.N_elder' (by (with_reducible repeat (first | apply Kd.N_alloc | apply Kd.N_drewN | apply Kd.N_drew)); exact HO_3.out) (Kd.R_base ho51) hb); have n1_ := Aside0.mk (Kd.N_elder' (by (with_reducible repeat (first | apply Kd.N_alloc | apply Kd.N_drewN | apply Kd.N_drew)); exact HO_67.out) (Kd.R_base ho51) hb); have n2_ := Aside0.mk (Kd.V_elder' (by (with_reducible repeat (first | apply Kd.V_alloc | apply Kd.V_drewN | apply Kd.V_drew)); exact HL196_0.out) (Kd.R_base ho51) hb); have n3_ := Aside0.mk (Kd.R_lower (Kd.R_newM (M := fun k_ => (w.heap.size ≤ k_)) ho51 (below_size (by repeat (first | (with_reducible first | exact HB.out | apply below_alloc | apply pw_below_drewN | apply below_drew1) | exact HB.out))) (fun k_ h_ => h_)) (below_size (by repeat (first | (with_reducible first | exact HB.out | apply below_alloc | apply pw_below_drewN | apply below_drew1) | exact HB.out)))); have n4_ := Aside0.mk (Kd.C_below (by repeat (first | (with_reducible exact HR196_0.out) | (with_reducible refine Kd.C_alloc ?_ _) | (with_reducible refine Kd.C_drewN ?_ _) | (with_reducible refine Kd.C_drew ?_) | exact HR196_0.out)) hb); have n5_ := Aside0.mk (below_step (by repeat (first | (with_reducible first | exact HB.out | apply below_alloc | apply pw_below_drewN | apply below_drew1) | exact HB.out)) hb); clear HO_3; clear HO_67; clear HL196_0; clear HR196_0; clear HB; have HO_3 := n0_; have HO_67 := n1_; have HL196_0 := n2_; have HO199 := n3_; have HR196_0 := n4_; have HB := n5_; clear n0_ n1_ n2_ n3_ n4_ n5_; clear hb ho51) | ((with_reducible refine gate_builtin (b := .append) (xs := #[.tmp 75, .tmp 76]) rfl ?_); at_builtin; refine Kd.R_append_rows (Kd.int .i64) (w0 := w) w.heap.size rfl (.tmp 75) (.tmp 76) 22 3 (.int .i64 0) 8 rfl Try.underlying22 info3 rfl (by decide) (by omega) v198 y197 (rd_L1 t193 x69_3) _ _ _ (fun k_ => (w.heap.size ≤ k_)) (fun _ => False) rfl rfl ?aO ?aR (fun _ _ h => h) (fun _ h => h.elim) ?aF ?aB ?aS ?aL ?_; (case aR => repeat (first | exact (by repeat (first | (with_reducible exact HR196_0.out) | (with_reducible refine Kd.C_alloc ?_ _) | (with_reducible refine Kd.C_drewN ?_ _) | (with_reducible refine Kd.C_drew ?_) | exact HR196_0.out)) | (with_reducible refine Kd.C_alloc ?_ _) | (with_reducible refine Kd.C_drewN ?_ _) | (with_reducible refine Kd.C_drew ?_))); (case aB => exact (by repeat (first | (with_reducible first | exact HB.out | apply below_alloc | apply pw_below_drewN | apply below_drew1) | exact HB.out))); (case aF => exact (fun k_ hk => (Nat.le_trans (below_size (by repeat (first | (with_reducible first | exact HB.out | apply below_alloc | apply pw_below_drewN | apply below_drew1) | exact HB.out))) hk))); (case aO => exact (by (with_reducible repeat (first | apply Kd.R_alloc | apply Kd.R_drewN | apply Kd.R_drew)); exact Kd.R_mono HO199.out (fun _ hk => hk.1))); (case aS => exact (below_size (by repeat (first | (with_reducible first | exact HB.out | apply below_alloc | apply pw_below_drewN | apply below_drew1) | exact HB.out)))); (case aL => have := LMc48.out; omega); intro v201 w52 ho hb hg hat; rw [← Ny200.out] at ho; have n0_ := Aside0.mk (Kd.N_afterv (ok := (fun k_ => (w.heap.size ≤ k_) ∧ some k_ ≠ (.slice (some ad196) t193.length co44 : Value).ownBlock)) (by (with_reducible repeat (first | apply Kd.N_alloc | apply Kd.N_drewN | apply Kd.N_drew)); exact HO_3.out) hg hat); have n1_ := Aside0.mk (Kd.N_afterv (ok := (fun k_ => (w.heap.size ≤ k_) ∧ some k_ ≠ (u3 : Value).ownBlock)) (by (with_reducible repeat (first | apply Kd.N_alloc | apply Kd.N_drewN | apply Kd.N_drew)); exact HO_67.out) hg hat); have n2_ := Aside0.mk (Kd.V_afterv (ok := (fun k_ => (w.heap.size ≤ k_) ∧ some k_ ≠ (u3 : Value).ownBlock ∧ some k_ ≠ (.slice (some ad196) t193.length co44 : Value).ownBlock)) (by (with_reducible repeat (first | apply Kd.V_alloc | apply Kd.V_drewN | apply Kd.V_drew)); exact Kd.V_mono HL196_0.out (fun _ hk => ⟨⟨hk.1.1.1, ⟨hk.1.1.2, hk.1.2⟩⟩, hk.2⟩)) hg hat); have n3_ := Aside0.mk (hb); have n4_ := Aside0.mk (ho); clear HO_3; clear HO_67; clear HL196_0; clear HB; clear HO199; have HO_3 := n0_; have HO_67 := n1_; have HL196_0 := n2_; have HB := n3_; have HO202 := n4_; clear n0_ n1_ n2_ n3_ n4_; clear ho hb hg hat; obtain ⟨Ao54, co54, eo54⟩ := Kd.R_slice HO202.out; subst eo54) | ((with_reducible refine gate_builtin (b := .append) (xs := #[.tmp 73, .tmp 78]) rfl ?_); at_builtin; refine Kd.N_append (Kd.slice 3 (Kd.int .i64)) (w0 := w) w.heap.size rfl (.tmp 73) (.tmp 78) 25 22 (.slice none 0 0) 24 rfl Try.underlying25 info22 rfl (by decide) (by omega) u3 x3_3 y200 [.slice Ao54 y200.length co54] (fun k_ => (w.heap.size ≤ k_) ∧ some k_ ≠ (.slice (some ad196) t193.length co44 : Value).ownBlock) (fun k_ => ((fun k_ => (w.heap.size ≤ k_) ∧ some k_ ≠ (.slice (some ad196) t193.length co44 : Value).ownBlock)) k_ ∧ some k_ ≠ (u3 : Value).ownBlock) rfl rfl ?aP (fun _ hk => hk) ?aF ?aO ?aB ?aS ?aL ?_; (case aP => exact (Kd.FK_slice_mk (Kd.R_reads' (Kd.R_mono (ok' := (fun k_ => ((fun k_ => (w.heap.size ≤ k_) ∧ some k_ ≠ (.slice (some ad196) t193.length co44 : Value).ownBlock)) k_ ∧ some k_ ≠ (u3 : Value).ownBlock)) (Kd.R_apart' (Kd.R_apart' (HO202.out) (Kd.N_typed HO_67.out) (by decide)) (Kd.N_typed HO_3.out) (by decide)) (fun k_ hk => ⟨⟨hk.1.1, hk.1.2⟩, hk.2⟩))).2.1 (Kd.R_F (Kd.R_mono (ok' := (fun k_ => ((fun k_ => (w.heap.size ≤ k_) ∧ some k_ ≠ (.slice (some ad196) t193.length co44 : Value).ownBlock)) k_ ∧ some k_ ≠ (u3 : Value).ownBlock)) (Kd.R_apart' (Kd.R_apart' (HO202.out) (Kd.N_typed HO_67.out) (by decide)) (Kd.N_typed HO_3.out) (by decide)) (fun k_ hk => ⟨⟨hk.1.1, hk.1.2⟩, hk.2⟩))))); (case aB => exact (by repeat (first | (with_reducible first | exact HB.out | apply below_alloc | apply pw_below_drewN | apply below_drew1) | exact HB.out))); (case aF => exact (fun k_ hk => ⟨(Nat.le_trans (below_size (by repeat (first | (with_reducible first | exact HB.out | apply below_alloc | apply pw_below_drewN | apply below_drew1) | exact HB.out))) hk), Kd.fresh' (Kd.N_lt (by (with_reducible repeat (first | apply Kd.N_alloc | apply Kd.N_drewN | apply Kd.N_drew)); exact HO_67.out)) k_ hk⟩)); (case aO => exact (by (with_reducible repeat (first | apply Kd.N_alloc | apply Kd.N_drewN | apply Kd.N_drew)); exact Kd.N_mono HO_3.out (fun _ hk => ⟨hk.1.1, hk.1.2⟩))); (case aS => exact (below_size (by repeat (first | (with_reducible first | exact HB.out | apply below_alloc | apply pw_below_drewN | apply below_drew1) | exact HB.out)))); (case aL => have := LMc49.out; omega); intro v204 w53 ho hb hg hat; rw [← Ny203.out] at ho; have n0_ := Aside0.mk (Kd.N_afterv (ok := (fun k_ => (w.heap.size ≤ k_) ∧ some k_ ≠ (.slice Ao54 y200.length co54 : Value).ownBlock)) (by (with_reducible repeat (first | apply Kd.N_alloc | apply Kd.N_drewN | apply Kd.N_drew)); exact Kd.N_mono HO_67.out (fun _ hk => ⟨⟨hk.1.1, hk.2⟩, hk.1.2⟩)) hg hat); have n1_ := Aside0.mk (Kd.V_afterv (ok := (fun k_ => (w.heap.size ≤ k_) ∧ some k_ ≠ (.slice (some ad196) t193.length co44 : Value).ownBlock ∧ some k_ ≠ (.slice Ao54 y200.length co54 : Value).ownBlock)) (by (with_reducible repeat (first | apply Kd.V_alloc | apply Kd.V_drewN | apply Kd.V_drew)); exact Kd.V_mono HL196_0.out (fun _ hk => ⟨⟨hk.1.1, ⟨hk.1.2.2, hk.2⟩⟩, hk.1.2.1⟩)) hg hat); have n2_ := Aside0.mk (hb); have n3_ := Aside0.mk (ho); clear HO_67; clear HL196_0; clear HB; clear HO_3; clear HO202; have HO_67 := n0_; have HL196_0 := n1_; have HB := n2_; have HO205 := n3_; clear n0_ n1_ n2_ n3_; clear ho hb hg hat))
                                              go_roundg k3
                                              case measure => have := HK1.out; have := HK2.out; have := HK3.out; omega
                                              case rel => exact ⟨(y203), (wrap64 (x69_3 + 1)), (by first | rfl | (simp; done) | (simp [*]; done)), H', ⟨by have := HK1.out; have := HK2.out; have := HK3.out; omega⟩, ⟨by (with_reducible repeat (first | apply Kd.N_alloc | apply Kd.N_drewN | apply Kd.N_drew)); exact HO205.out⟩, ⟨by (with_reducible repeat (first | apply Kd.N_alloc | apply Kd.N_drewN | apply Kd.N_drew)); exact Kd.N_mono HO_67.out (fun _ hk => ⟨hk.1.1, hk.2⟩)⟩, ⟨by repeat (first | (with_reducible first | exact HB.out | apply below_alloc | apply pw_below_drewN | apply below_drew1) | exact HB.out)⟩⟩
                                            · rw [if_neg c49] at H
                                              exact absurd H (by simp)
                                          · rw [if_neg c48] at H
                                            exact absurd H (by simp)
                                        · rw [if_neg c47] at H
                                          exact absurd H (by simp)
                                      · rw [if_neg c46] at H
                                        exact absurd H (by simp)
                                    · rw [if_neg c45] at H
                                      have c45b0 : decide (x69_3 < (t193.length : Int)) = false := decide_eq_false c45
                                      clear c45
                                      have H' := Aside0.mk H
                                      clear H
                                      go_wp2
                                      go_roundg k3
                                      case measure => have := HK1.out; have := HK2.out; have := HK3.out; omega
                                      case rel => exact ⟨(x3_3), ((rd l0 x6_2)), (true), (wrap64 (x20_1 + 1)), (by first | rfl | (simp; done) | (simp [*]; done)), (by first | rfl | (simp; done) | (simp [*]; done)), (by first | rfl | (simp; done) | (simp [*]; done)), H', ⟨by have := HK1.out; have := HK2.out; have := HK3.out; omega⟩, ⟨by (with_reducible repeat (first | apply Kd.N_alloc | apply Kd.N_drewN | apply Kd.N_drew)); exact Kd.N_mono HO_3.out (fun _ hk => hk.1)⟩, ⟨by repeat (first | (with_reducible first | exact HB.out | apply below_alloc | apply pw_below_drewN | apply below_drew1) | exact HB.out)⟩⟩
                              · rw [if_neg c33] at H
                                exact absurd H (by simp)
                            · rw [if_neg c32] at H
                              exact absurd H (by simp)
                          · rw [if_neg c31] at H
                            exact absurd H (by simp)
                        · rw [if_neg c29] at H
                          exact absurd H (by simp)
                      · rw [if_neg c28] at H
                        exact absurd H (by simp)
                    · rw [if_neg c26] at H
                      exact absurd H (by simp)
                  · rw [if_neg c25] at H
                    exact absurd H (by simp)
        · rw [if_neg c10] at H
          have c10b0 : decide (x20_1 < (l0.length : Int)) = false := decide_eq_false c10
          clear c10
          obtain rfl := Option.some.inj H
          go_wp2
          go_ret
          exact ⟨_, by first | rfl | (simp [errW_none, errW_some] <;> rfl) | (simp [*, errW_none, errW_some] <;> rfl), by (with_reducible repeat (first | apply Kd.N_alloc | apply Kd.N_drewN | apply Kd.N_drew)); exact HO_3.out, by repeat (first | (with_reducible first | exact HB.out | apply below_alloc | apply pw_below_drewN | apply below_drew1) | exact HB.out)⟩

end Go.Proofs.Ytpelipdecjooeaa.PFnPermutationAll
