/- The functions that the law 'FnMix' reaches, each with its contract. -/
import Derived.Test.YtmbhbioanoalaaaOFnMixx3
namespace Go.Proofs.Ytmbhbioanoalaaa.PFnMix
open Go.RowKit Go.Proofs.YtmbhbioanoalaaaW.PrintWords Go.Proofs.YtmbhbioanoalaaaW.PrintLast Go.Proofs.YtmbhbioanoalaaaW.PrintMore
attribute [local go_sem] max2_int min2_int max_two min_two max_three min_three max_four min_four   -- for this text's walks alone
set_option linter.unusedVariables false
set_option linter.unusedSimpArgs false

/-! ### laws_times: function 26 -/
def laws_times.l0 : Nat → Int → Int → List Int → Int → Int → Option (Int)
  | 0, _, _, _, _, _ => none
  | k + 1, x1, x5, x8, x9, x10 => if x10 < x9 then (if 0 ≤ x10 then (if x10 < (x8.length : Int) then (if (rd x8 x10) = x1 then (laws_times.l0 k x1 (wrap64 (x5 + 1)) x8 x9 (wrap64 (x10 + 1))) else (laws_times.l0 k x1 x5 x8 x9 (wrap64 (x10 + 1)))) else (none)) else (none)) else (some x5)
def laws_times.f (k : Nat) (l0 : List Int) (a1 : Int) : Option (Int) := laws_times.l0 k a1 0 l0 (l0.length : Int) 0
theorem laws_times.mono_l : ∀ k, (∀ y0 y1 y2 y3 y4, LeO (laws_times.l0 k y0 y1 y2 y3 y4) (laws_times.l0 (k + 1) y0 y1 y2 y3 y4))
  | 0 => fun _ _ _ _ _ r h => by simp [laws_times.l0] at h
  | k + 1 => by
    have ih0 := laws_times.mono_l k
    · intro y0 y1 y2 y3 y4
      unfold laws_times.l0
      repeat' first
      | (with_reducible exact ih0 _ _ _ _ _)
      | (with_reducible exact LeO.refl _)
      | (with_reducible exact LeO.none _)
      | (with_reducible refine LeO.ite ?_ ?_)
      | (with_reducible refine LeO.bind ?_ (fun _ => ?_))
      | exact ih0 _ _ _ _ _
      | exact LeO.none _
      | refine LeO.ite ?_ ?_
      | refine LeO.bind ?_ (fun _ => ?_)
theorem laws_times.mono : ∀ a0 a1 k, LeO (laws_times.f k a0 a1) (laws_times.f (k + 1) a0 a1) := by
  intro a0 a1 k
  have ih0 := laws_times.mono_l k
  unfold laws_times.f
  repeat' first
      | (with_reducible exact ih0 _ _ _ _ _)
      | (with_reducible exact LeO.refl _)
      | (with_reducible exact LeO.none _)
      | (with_reducible refine LeO.ite ?_ ?_)
      | (with_reducible refine LeO.bind ?_ (fun _ => ?_))
      | exact ih0 _ _ _ _ _
      | exact LeO.none _
      | refine LeO.ite ?_ ?_
      | refine LeO.bind ?_ (fun _ => ?_)
set_option maxHeartbeats 8000000 in
set_option maxRecDepth 100000 in
theorem laws_times.calls (k : Nat) (A0 : Option Addr) (c0 : Nat) (l0 : List Int) (a1 : Int) (r : Int) (w : World) (hr0 : Kd.C (Kd.int .i64) w A0 l0.length l0) (hc0 : l0.length ≤ c0) (h : laws_times.f k l0 a1 = some r) :
    Calls Try.prog 26 #[.slice A0 l0.length c0, .int .i64 a1] w fun e w' => e = .returned (.int .i64 r) ∧ Drawn0 w w' := by
  have HR0 := Aside0.mk hr0
  have HC0 := Aside0.mk hc0
  clear hr0 hc0
  have H : (laws_times.l0 k a1 0 l0 (l0.length : Int) 0) = some r := h
  clear h
  have H' := Aside0.mk H
  clear H
  go_enter Try.func26, Try.ntmps26
  go_wp2
  go_loopg [5, 10] k (fun kq v5 v10 w' => ∃ (x5_1 : Int) (x10_1 : Int), v5 = .int .i64 x5_1 ∧ v10 = .int .i64 x10_1 ∧ Aside0 (laws_times.l0 kq a1 x5_1 l0 (l0.length : Int) x10_1 = some r) ∧ Aside0 (kq ≤ k) ∧ Drawn0 w w')
  case atStart => exact ⟨(0), (0), (by first | rfl | (simp; done) | (simp [*]; done)), (by first | rfl | (simp; done) | (simp [*]; done)), H', ⟨Nat.le_refl _⟩, by repeat (first | exact Drawn0.refl _ | apply Drawn0.step)⟩
  case round =>
    clear H'
    try clear c2
    try clear p2
    obtain ⟨x5_1, x10_1, rfl, rfl, HA, HK1, ⟨m1, rfl⟩⟩ := hrel
    cases gk with
    | zero => exact absurd HA.out (by simp [laws_times.l0])
    | succ k1 =>
      have H := HA.out
      clear HA
      simp only [laws_times.l0] at H
      by_cases c3 : x10_1 < (l0.length : Int)
      · rw [if_pos c3] at H
        have c3b0 : decide (x10_1 < (l0.length : Int)) = true := decide_eq_true c3
        clear c3
        by_cases c4 : 0 ≤ x10_1
        · rw [if_pos c4] at H
          have c4b0 : decide (0 ≤ x10_1) = true := decide_eq_true c4
          clear c4
          by_cases c5 : x10_1 < (l0.length : Int)
          · rw [if_pos c5] at H
            have c5b0 : decide (x10_1 < (l0.length : Int)) = true := decide_eq_true c5
            clear c5
            by_cases c6 : (rd l0 x10_1) = a1
            · rw [if_pos c6] at H
              have c6b0 : ((rd l0 x10_1) == a1) = true := beq_iff_eq.mpr c6
              have c6b1 : ((rd l0 x10_1) != a1) = false := bne_eq_false_iff_eq.mpr c6
              clear c6
              have H' := Aside0.mk H
              clear H
              have p141 : 0 ≤ (x10_1 : Int) := of_decide_eq_true (by first | (with_reducible assumption) | assumption)
              have q141 : x10_1 < (l0.length : Int) := of_decide_eq_true (by first | (with_reducible assumption) | assumption)
              obtain ⟨ad141, e141, hx141_0⟩ := Kd.at_int HR0.out x10_1 p141 q141
              cases e141
              replace p141 := eq_true p141
              replace q141 := eq_true q141
              go_wp2
              go_roundg k1
              case measure => have := HK1.out; omega
              case rel => exact ⟨(wrap64 (x5_1 + 1)), (wrap64 (x10_1 + 1)), (by first | rfl | (simp; done) | (simp [*]; done)), (by first | rfl | (simp; done) | (simp [*]; done)), H', ⟨by have := HK1.out; omega⟩, by repeat (first | exact Drawn0.refl _ | apply Drawn0.step)⟩
            · rw [if_neg c6] at H
              have c6b0 : ((rd l0 x10_1) == a1) = false := beq_eq_false_iff_ne.mpr c6
              have c6b1 : ((rd l0 x10_1) != a1) = true := bne_iff_ne.mpr c6
              have H' := Aside0.mk H
              clear H
              have p141 : 0 ≤ (x10_1 : Int) := of_decide_eq_true (by first | (with_reducible assumption) | assumption)
              have q141 : x10_1 < (l0.length : Int) := of_decide_eq_true (by first | (with_reducible assumption) | assumption)
              obtain ⟨ad141, e141, hx141_0⟩ := Kd.at_int HR0.out x10_1 p141 q141
              cases e141
              replace p141 := eq_true p141
              replace q141 := eq_true q141
              go_wp2
              go_roundg k1
              case measure => have := HK1.out; omega
              case rel => exact ⟨(x5_1), (wrap64 (x10_1 + 1)), (by first | rfl | (simp; done) | (simp [*]; done)), (by first | rfl | (simp; done) | (simp [*]; done)), H', ⟨by have := HK1.out; omega⟩, by repeat (first | exact Drawn0.refl _ | apply Drawn0.step)⟩
          · rw [if_neg c5] at H
            exact absurd H (by simp)
        · rw [if_neg c4] at H
          exact absurd H (by simp)
      · rw [if_neg c3] at H
        have c3b0 : decide (x10_1 < (l0.length : Int)) = false := decide_eq_false c3
        clear c3
        obtain rfl := Option.some.inj H
        go_wp2
        go_ret
        exact ⟨by first | rfl | (simp; done) | (simp [*]; done), by repeat (first | exact Drawn0.refl _ | apply Drawn0.step)⟩

/-! ### laws_FnMix: function 11 -/
def laws_FnMix.l0 : Nat → List Int → List Int → List Int → List Int → Int → Int → Option (Bool)
  | 0, _, _, _, _, _, _ => none
  | k + 1, x0, x5, x7, x31, x32, x33 => if x33 < x32 then (if 0 ≤ x33 then (if x33 < (x31.length : Int) then ((laws_times.f k x7 (rd x31 x33)).bind fun t155 => ((laws_times.f k x0 (rd x31 x33)).bind fun t156 => (if t155 = t156 then (laws_FnMix.l0 k x0 x5 x7 x31 x32 (wrap64 (x33 + 1))) else (some false)))) else (none)) else (none)) else (if (x5.length : Int) = 1 then (if 0 < (x5.length : Int) then (if (rd x5 0) = 7 then (some ((x7.length : Int) == (x0.length : Int))) else (some false)) else (none)) else (some false))
def laws_FnMix.f (k : Nat) (l0 : List Int) (a1 : Int) : Option (Bool) := if (l0.length : Int) > 2147483647 then (some true) else ((impl_Mix.f k (([7] : List Int)) 5).bind fun bt145 => (if (l0.length : Int) > 1000 then (some ((bt145.1.length : Int) == 1)) else ((impl_Mix.f k l0 a1).bind fun bt149 => (laws_FnMix.l0 k l0 bt145.1 bt149.1 l0 (l0.length : Int) 0))))
theorem laws_FnMix.mono_l : ∀ k, (∀ y0 y1 y2 y3 y4 y5, LeO (laws_FnMix.l0 k y0 y1 y2 y3 y4 y5) (laws_FnMix.l0 (k + 1) y0 y1 y2 y3 y4 y5))
  | 0 => fun _ _ _ _ _ _ r h => by simp [laws_FnMix.l0] at h
  | k + 1 => by
    have ih0 := laws_FnMix.mono_l k
    · intro y0 y1 y2 y3 y4 y5
      unfold laws_FnMix.l0
      repeat' first
      | (with_reducible exact ih0 _ _ _ _ _ _)
      | (with_reducible exact impl_Mix.mono _ _ _)
      | (with_reducible exact laws_times.mono _ _ _)
      | (with_reducible exact LeO.refl _)
      | (with_reducible exact LeO.none _)
      | (with_reducible refine LeO.ite ?_ ?_)
      | (with_reducible refine LeO.bind ?_ (fun _ => ?_))
      | exact ih0 _ _ _ _ _ _
      | exact impl_Mix.mono _ _ _
      | exact laws_times.mono _ _ _
      | exact LeO.none _
      | refine LeO.ite ?_ ?_
      | refine LeO.bind ?_ (fun _ => ?_)
theorem laws_FnMix.mono : ∀ a0 a1 k, LeO (laws_FnMix.f k a0 a1) (laws_FnMix.f (k + 1) a0 a1) := by
  intro a0 a1 k
  have ih0 := laws_FnMix.mono_l k
  unfold laws_FnMix.f
  repeat' first
      | (with_reducible exact ih0 _ _ _ _ _ _)
      | (with_reducible exact impl_Mix.mono _ _ _)
      | (with_reducible exact laws_times.mono _ _ _)
      | (with_reducible exact LeO.refl _)
      | (with_reducible exact LeO.none _)
      | (with_reducible refine LeO.ite ?_ ?_)
      | (with_reducible refine LeO.bind ?_ (fun _ => ?_))
      | exact ih0 _ _ _ _ _ _
      | exact impl_Mix.mono _ _ _
      | exact laws_times.mono _ _ _
      | exact LeO.none _
      | refine LeO.ite ?_ ?_
      | refine LeO.bind ?_ (fun _ => ?_)
set_option maxHeartbeats 8000000 in
set_option maxRecDepth 100000 in
theorem laws_FnMix.calls (k : Nat) (A0 : Option Addr) (c0 : Nat) (l0 : List Int) (a1 : Int) (r : Bool) (w : World) (hr0 : Kd.C (Kd.int .i64) w A0 l0.length l0) (hc0 : l0.length ≤ c0) (h : laws_FnMix.f k l0 a1 = some r) :
    Calls Try.prog 11 #[.slice A0 l0.length c0, .int .u64 a1] w fun e w' => e = .returned (.bool r) ∧ Below w.heap.size w w' := by
  have HR0 := Aside0.mk hr0
  have HC0 := Aside0.mk hc0
  clear hr0 hc0
  have HB := Aside0.mk (Below.refl w.heap.size w)
  have H : (if (l0.length : Int) > 2147483647 then (some true) else ((impl_Mix.f k (([7] : List Int)) 5).bind fun bt145 => (if (l0.length : Int) > 1000 then (some ((bt145.1.length : Int) == 1)) else ((impl_Mix.f k l0 a1).bind fun bt149 => (laws_FnMix.l0 k l0 bt145.1 bt149.1 l0 (l0.length : Int) 0))))) = some r := h
  clear h
  by_cases c3 : (l0.length : Int) > 2147483647
  · rw [if_pos c3] at H
    have c3b0 : decide (2147483647 < (l0.length : Int)) = true := decide_eq_true c3
    have c3b1 : decide (2147483647 < l0.length) = true := decide_eq_true (by omega)
    clear c3
    obtain rfl := Option.some.inj H
    go_enter Try.func11, Try.ntmps11
    go_wp2
    go_ret
    exact ⟨by first | rfl | (simp [errW_none, errW_some] <;> rfl) | (simp [*, errW_none, errW_some] <;> rfl), by repeat (first | (with_reducible first | exact HB.out | apply below_alloc | apply pw_below_drewN | apply below_drew1) | exact HB.out)⟩
  · rw [if_neg c3] at H
    have c3b0 : decide (2147483647 < (l0.length : Int)) = false := decide_eq_false c3
    have c3b1 : decide (2147483647 < l0.length) = false := decide_eq_false (by omega)
    clear c3
    obtain ⟨y142, hy142⟩ : ∃ y_ : List Int, y_ = (([7] : List Int)) := ⟨_, rfl⟩
    replace H : ((impl_Mix.f k y142 5).bind fun bt145 => (if (l0.length : Int) > 1000 then (some ((bt145.1.length : Int) == 1)) else ((impl_Mix.f k l0 a1).bind fun bt149 => (laws_FnMix.l0 k l0 bt145.1 bt149.1 l0 (l0.length : Int) 0)))) = some r := by first | (rw [hy142]; with_reducible exact H) | (have H2_ := (Option.bind_some _ _).symm.trans H; rw [hy142]; with_reducible exact H2_) | (have H2_ := (Option.bind_some _ _).symm.trans H; with_reducible exact H2_) | with_reducible exact H | (rw [hy142]; exact H) | exact H
    have Ny142 := Aside0.mk hy142
    clear hy142
    replace H := Option.bind_eq_some_iff.mp H
    obtain ⟨⟨t145, t146⟩, A40, H⟩ := H
    replace H : (if (l0.length : Int) > 1000 then (some ((t145.length : Int) == 1)) else ((impl_Mix.f k l0 a1).bind fun bt149 => (laws_FnMix.l0 k l0 t145 bt149.1 l0 (l0.length : Int) 0))) = some r := H
    have A4 := Aside0.mk A40
    clear A40
    by_cases c5 : (l0.length : Int) > 1000
    · rw [if_pos c5] at H
      have c5b0 : decide (1000 < (l0.length : Int)) = true := decide_eq_true c5
      have c5b1 : decide (1000 < l0.length) = true := decide_eq_true (by omega)
      clear c5
      obtain rfl := Option.some.inj H
      go_enter Try.func11, Try.ntmps11
      go_wp2_with (first | ((with_reducible refine gate_dst (N := 15) rfl ?_); (try (refine gate_guard (by rfl) ?_; dsimp only)); refine Kd.R_lit (Kd.int .i64) _ 2 ?hg (N := 15) ?hd (xs := ([7] : List Int)) (inner := [.int .i64 7]) (ok := fun _ => True) (okp := fun _ => True) ?hr ?hp (fun _ hk => hk) trivial (Below.refl _ _) (Nat.le_refl _) (by simp) ?_; (case hd => rfl); (case hg => rfl); (case hr => first | (go_simp; done) | (go_simp; rfl)); (case hp => exact (Reps.one (show Kd.M (Kd.int .i64) _ _ _ 7 [.int .i64 7] from rfl) (Reps.none _ _))); intro v143 w6 ho7 hb hg_ hnew_; clear hg_ hnew_; (first | rw [← Ny142.out] at ho7 | (simp only [Int.reduceToNat] at ho7; rw [← Ny142.out] at ho7)); have n0_ := Aside0.mk (Kd.R_lower ho7 (below_size (by repeat (first | (with_reducible first | exact HB.out | apply below_alloc | apply pw_below_drewN | apply below_drew1) | exact HB.out)))); have n1_ := Aside0.mk (below_step (by repeat (first | (with_reducible first | exact HB.out | apply below_alloc | apply pw_below_drewN | apply below_drew1) | exact HB.out)) hb); clear HB; have HO144 := n0_; have HB := n1_; clear n0_ n1_; clear hb ho7; obtain ⟨Ao8, co8, eo8⟩ := Kd.R_slice HO144.out; subst eo8) | ((with_reducible refine gate_callee (f := 25) rfl ?_); refine goesL_ (some 16) rfl rfl Try.func25 (by kernel_rfl) rfl #[.slice Ao8 y142.length co8, .int .u64 5] rfl (by (try simp only [List.map_toArray, List.map_cons, List.map_nil]); first | done | rfl | (simp only [List.length_drop, List.length_take]; rfl)) ?_; (with_reducible refine (impl_Mix.calls k _ _ y142 5 t145 t146 _ ?side1 ?side2 A4.out).mono ?_); (case side1 => repeat (first | exact (Kd.R_reads' HO144.out).2.2 | (with_reducible refine Kd.C_alloc ?_ _) | (with_reducible refine Kd.C_drewN ?_ _) | (with_reducible refine Kd.C_drew ?_))); (case side2 => exact (Kd.R_reads' HO144.out).2.1); rintro e w9 ⟨v147, rfl, ho0, hb⟩; refine ⟨_, rfl, ?_⟩; have n0_ := Aside0.mk (Kd.R_elder' (by (with_reducible repeat (first | apply Kd.R_alloc | apply Kd.R_drewN | apply Kd.R_drew)); exact HO144.out) (Kd.R_base ho0) hb); have n1_ := Aside0.mk (Kd.R_lower (Kd.R_new' ho0 (Kd.R_lt (by (with_reducible repeat (first | apply Kd.R_alloc | apply Kd.R_drewN | apply Kd.R_drew)); exact HO144.out))) (below_size (by repeat (first | (with_reducible first | exact HB.out | apply below_alloc | apply pw_below_drewN | apply below_drew1) | exact HB.out)))); have n2_ := Aside0.mk (below_step (by repeat (first | (with_reducible first | exact HB.out | apply below_alloc | apply pw_below_drewN | apply below_drew1) | exact HB.out)) hb); clear HO144; clear HB; have HO144 := n0_; have HO148 := n1_; have HB := n2_; clear n0_ n1_ n2_; (try clear hb); (try clear hb2); (try clear hk); (try clear hi); (try clear ho0); obtain ⟨Ao10, co10, eo10⟩ := Kd.R_slice HO148.out; subst eo10))
      go_ret
      exact ⟨by first | rfl | (simp [errW_none, errW_some] <;> rfl) | (simp [*, errW_none, errW_some] <;> rfl), by repeat (first | (with_reducible first | exact HB.out | apply below_alloc | apply pw_below_drewN | apply below_drew1) | exact HB.out)⟩
    · rw [if_neg c5] at H
      have c5b0 : decide (1000 < (l0.length : Int)) = false := decide_eq_false c5
      have c5b1 : decide (1000 < l0.length) = false := decide_eq_false (by omega)
      clear c5
      replace H := Option.bind_eq_some_iff.mp H
      obtain ⟨⟨t149, t150⟩, A110, H⟩ := H
      replace H : (laws_FnMix.l0 k l0 t145 t149 l0 (l0.length : Int) 0) = some r := H
      have A11 := Aside0.mk A110
      clear A110
      have H' := Aside0.mk H
      clear H
      go_enter Try.func11, Try.ntmps11
      go_wp2_with (first | ((with_reducible refine gate_dst (N := 15) rfl ?_); (try (refine gate_guard (by rfl) ?_; dsimp only)); refine Kd.R_lit (Kd.int .i64) _ 2 ?hg (N := 15) ?hd (xs := ([7] : List Int)) (inner := [.int .i64 7]) (ok := fun _ => True) (okp := fun _ => True) ?hr ?hp (fun _ hk => hk) trivial (Below.refl _ _) (Nat.le_refl _) (by simp) ?_; (case hd => rfl); (case hg => rfl); (case hr => first | (go_simp; done) | (go_simp; rfl)); (case hp => exact (Reps.one (show Kd.M (Kd.int .i64) _ _ _ 7 [.int .i64 7] from rfl) (Reps.none _ _))); intro v143 w12 ho13 hb hg_ hnew_; clear hg_ hnew_; (first | rw [← Ny142.out] at ho13 | (simp only [Int.reduceToNat] at ho13; rw [← Ny142.out] at ho13)); have n0_ := Aside0.mk (Kd.R_lower ho13 (below_size (by repeat (first | (with_reducible first | exact HB.out | apply below_alloc | apply pw_below_drewN | apply below_drew1) | exact HB.out)))); have n1_ := Aside0.mk (below_step (by repeat (first | (with_reducible first | exact HB.out | apply below_alloc | apply pw_below_drewN | apply below_drew1) | exact HB.out)) hb); clear HB; have HO144 := n0_; have HB := n1_; clear n0_ n1_; clear hb ho13; obtain ⟨Ao14, co14, eo14⟩ := Kd.R_slice HO144.out; subst eo14) | ((with_reducible refine gate_callee (f := 25) rfl ?_); refine goesL_ (some 16) rfl rfl Try.func25 (by kernel_rfl) rfl #[.slice Ao14 y142.length co14, .int .u64 5] rfl (by (try simp only [List.map_toArray, List.map_cons, List.map_nil]); first | done | rfl | (simp only [List.length_drop, List.length_take]; rfl)) ?_; (with_reducible refine (impl_Mix.calls k _ _ y142 5 t145 t146 _ ?side1 ?side2 A4.out).mono ?_); (case side1 => repeat (first | exact (Kd.R_reads' HO144.out).2.2 | (with_reducible refine Kd.C_alloc ?_ _) | (with_reducible refine Kd.C_drewN ?_ _) | (with_reducible refine Kd.C_drew ?_))); (case side2 => exact (Kd.R_reads' HO144.out).2.1); rintro e w15 ⟨v147, rfl, ho0, hb⟩; refine ⟨_, rfl, ?_⟩; have n0_ := Aside0.mk (Kd.R_elder' (by (with_reducible repeat (first | apply Kd.R_alloc | apply Kd.R_drewN | apply Kd.R_drew)); exact HO144.out) (Kd.R_base ho0) hb); have n1_ := Aside0.mk (Kd.R_lower (Kd.R_new' ho0 (Kd.R_lt (by (with_reducible repeat (first | apply Kd.R_alloc | apply Kd.R_drewN | apply Kd.R_drew)); exact HO144.out))) (below_size (by repeat (first | (with_reducible first | exact HB.out | apply below_alloc | apply pw_below_drewN | apply below_drew1) | exact HB.out)))); have n2_ := Aside0.mk (below_step (by repeat (first | (with_reducible first | exact HB.out | apply below_alloc | apply pw_below_drewN | apply below_drew1) | exact HB.out)) hb); clear HO144; clear HB; have HO144 := n0_; have HO148 := n1_; have HB := n2_; clear n0_ n1_ n2_; (try clear hb); (try clear hb2); (try clear hk); (try clear hi); (try clear ho0)) | ((with_reducible refine gate_callee (f := 25) rfl ?_); refine goesL_ (some 28) rfl rfl Try.func25 (by kernel_rfl) rfl #[.slice A0 l0.length c0, .int .u64 a1] rfl (by (try simp only [List.map_toArray, List.map_cons, List.map_nil]); first | done | rfl | (simp only [List.length_drop, List.length_take]; rfl)) ?_; (with_reducible refine (impl_Mix.calls k _ _ l0 a1 t149 t150 _ ?side1 ?side2 A11.out).mono ?_); (case side1 => repeat (first | exact (Kd.C_below HR0.out HB.out) | (with_reducible refine Kd.C_alloc ?_ _) | (with_reducible refine Kd.C_drewN ?_ _) | (with_reducible refine Kd.C_drew ?_))); (case side2 => exact HC0.out); rintro e w16 ⟨v151, rfl, ho0, hb⟩; refine ⟨_, rfl, ?_⟩; have n0_ := Aside0.mk (Kd.R_elder' (by (with_reducible repeat (first | apply Kd.R_alloc | apply Kd.R_drewN | apply Kd.R_drew)); exact HO144.out) (Kd.R_base ho0) hb); have n1_ := Aside0.mk (Kd.R_elder' (by (with_reducible repeat (first | apply Kd.R_alloc | apply Kd.R_drewN | apply Kd.R_drew)); exact HO148.out) (Kd.R_base ho0) hb); have n2_ := Aside0.mk (Kd.R_lower (Kd.R_new' (Kd.R_new' ho0 (Kd.R_lt (by (with_reducible repeat (first | apply Kd.R_alloc | apply Kd.R_drewN | apply Kd.R_drew)); exact HO144.out))) (Kd.R_lt (by (with_reducible repeat (first | apply Kd.R_alloc | apply Kd.R_drewN | apply Kd.R_drew)); exact HO148.out))) (below_size (by repeat (first | (with_reducible first | exact HB.out | apply below_alloc | apply pw_below_drewN | apply below_drew1) | exact HB.out)))); have n3_ := Aside0.mk (below_step (by repeat (first | (with_reducible first | exact HB.out | apply below_alloc | apply pw_below_drewN | apply below_drew1) | exact HB.out)) hb); clear HO144; clear HO148; clear HB; have HO144 := n0_; have HO148 := n1_; have HO152 := n2_; have HB := n3_; clear n0_ n1_ n2_ n3_; (try clear hb); (try clear hb2); (try clear hk); (try clear hi); (try clear ho0)))
      go_loopg [33] k (fun kq v33 w' => ∃ (x33_1 : Int), v33 = .int .i64 x33_1 ∧ Aside0 (laws_FnMix.l0 kq l0 t145 t149 l0 (l0.length : Int) x33_1 = some r) ∧ Aside0 (kq ≤ k) ∧ Aside0 (Kd.R (Kd.int .i64) 2 w' w.heap.size (fun k_ => some k_ ≠ (v151 : Value).ownBlock) v147 t145) ∧ Aside0 (Kd.R (Kd.int .i64) 2 w' w.heap.size (fun k_ => some k_ ≠ (v147 : Value).ownBlock) v151 t149) ∧ Aside0 (Below w.heap.size w w'))
      case atStart => exact ⟨(0), (by first | rfl | (simp; done) | (simp [*]; done)), H', ⟨Nat.le_refl _⟩, ⟨by (with_reducible repeat (first | apply Kd.R_alloc | apply Kd.R_drewN | apply Kd.R_drew)); exact Kd.R_mono HO148.out (fun _ hk => hk.2)⟩, ⟨by (with_reducible repeat (first | apply Kd.R_alloc | apply Kd.R_drewN | apply Kd.R_drew)); exact Kd.R_mono HO152.out (fun _ hk => hk.2)⟩, ⟨by repeat (first | (with_reducible first | exact HB.out | apply below_alloc | apply pw_below_drewN | apply below_drew1) | exact HB.out)⟩⟩
      case round =>
        clear H'
        try clear c1
        try clear c2
        try clear p2
        try clear c3
        try clear c3b0
        try clear c3b1
        try clear c5
        try clear c5b0
        try clear c5b1
        try clear c11
        obtain ⟨x33_1, rfl, HA, HK1, HO_5, HO_7, HB⟩ := hrel
        cases gk with
        | zero => exact absurd HA.out (by simp [laws_FnMix.l0])
        | succ k1 =>
          have H := HA.out
          clear HA
          simp only [laws_FnMix.l0] at H
          by_cases c17 : x33_1 < (l0.length : Int)
          · rw [if_pos c17] at H
            have c17b0 : decide (x33_1 < (l0.length : Int)) = true := decide_eq_true c17
            clear c17
            by_cases c18 : 0 ≤ x33_1
            · rw [if_pos c18] at H
              have c18b0 : decide (0 ≤ x33_1) = true := decide_eq_true c18
              clear c18
              by_cases c19 : x33_1 < (l0.length : Int)
              · rw [if_pos c19] at H
                have c19b0 : decide (x33_1 < (l0.length : Int)) = true := decide_eq_true c19
                clear c19
                replace H := Option.bind_eq_some_iff.mp H
                obtain ⟨t155, A200, H⟩ := H
                replace H : ((laws_times.f k1 l0 (rd l0 x33_1)).bind fun t156 => (if t155 = t156 then (laws_FnMix.l0 k1 l0 t145 t149 l0 (l0.length : Int) (wrap64 (x33_1 + 1))) else (some false))) = some r := H
                have A20 := Aside0.mk A200
                clear A200
                replace H := Option.bind_eq_some_iff.mp H
                obtain ⟨t156, A210, H⟩ := H
                replace H : (if t155 = t156 then (laws_FnMix.l0 k1 l0 t145 t149 l0 (l0.length : Int) (wrap64 (x33_1 + 1))) else (some false)) = some r := H
                have A21 := Aside0.mk A210
                clear A210
                by_cases c22 : t155 = t156
                · rw [if_pos c22] at H
                  have c22b0 : (t155 == t156) = true := beq_iff_eq.mpr c22
                  have c22b1 : (t155 != t156) = false := bne_eq_false_iff_eq.mpr c22
                  clear c22
                  have H' := Aside0.mk H
                  clear H
                  have p154 : 0 ≤ (x33_1 : Int) := of_decide_eq_true (by first | (with_reducible assumption) | assumption)
                  have q154 : x33_1 < (l0.length : Int) := of_decide_eq_true (by first | (with_reducible assumption) | assumption)
                  obtain ⟨ad154, e154, hx154_0⟩ := Kd.at_int HR0.out x33_1 p154 q154
                  cases e154
                  replace hx154_0 := (HB.out.cell (World.block_lt_of_cell? w _ hx154_0)).trans hx154_0
                  replace p154 := eq_true p154
                  replace q154 := eq_true q154
                  obtain ⟨Ao23, co23, eo23⟩ := Kd.R_slice HO_7.out
                  subst eo23
                  go_wp2_with (first | ((with_reducible refine gate_callee (f := 26) rfl ?_); refine goesL_ (some 39) rfl rfl Try.func26 (by kernel_rfl) rfl #[.slice Ao23 t149.length co23, .int .i64 (rd l0 x33_1)] rfl (by (try simp only [List.map_toArray, List.map_cons, List.map_nil]); first | done | rfl | (simp only [List.length_drop, List.length_take]; rfl)) ?_; (with_reducible refine (laws_times.calls k1 _ _ t149 (rd l0 x33_1) t155 _ ?side1 ?side2 A20.out).mono ?_); (case side1 => repeat (first | exact (Kd.R_reads' HO_7.out).2.2 | (with_reducible refine Kd.C_alloc ?_ _) | (with_reducible refine Kd.C_drewN ?_ _) | (with_reducible refine Kd.C_drew ?_))); (case side2 => exact (Kd.R_reads' HO_7.out).2.1); rintro e w' ⟨rfl, ⟨nd, rfl⟩⟩; refine ⟨_, rfl, ?_⟩) | ((with_reducible refine gate_callee (f := 26) rfl ?_); refine goesL_ (some 42) rfl rfl Try.func26 (by kernel_rfl) rfl #[.slice (some ad154) l0.length c0, .int .i64 (rd l0 x33_1)] rfl (by (try simp only [List.map_toArray, List.map_cons, List.map_nil]); first | done | rfl | (simp only [List.length_drop, List.length_take]; rfl)) ?_; (with_reducible refine (laws_times.calls k1 _ _ l0 (rd l0 x33_1) t156 _ ?side1 ?side2 A21.out).mono ?_); (case side1 => repeat (first | exact (Kd.C_below HR0.out (by repeat (first | (with_reducible first | exact HB.out | apply below_alloc | apply pw_below_drewN | apply below_drew1) | exact HB.out))) | (with_reducible refine Kd.C_alloc ?_ _) | (with_reducible refine Kd.C_drewN ?_ _) | (with_reducible refine Kd.C_drew ?_))); (case side2 => exact HC0.out); rintro e w' ⟨rfl, ⟨nd, rfl⟩⟩; refine ⟨_, rfl, ?_⟩))
                  go_roundg k1
                  case measure => have := HK1.out; omega
                  case rel => exact ⟨(wrap64 (x33_1 + 1)), (by first | rfl | (simp; done) | (simp [*]; done)), H', ⟨by have := HK1.out; omega⟩, ⟨by (with_reducible repeat (first | apply Kd.R_alloc | apply Kd.R_drewN | apply Kd.R_drew)); exact HO_5.out⟩, ⟨by (with_reducible repeat (first | apply Kd.R_alloc | apply Kd.R_drewN | apply Kd.R_drew)); exact HO_7.out⟩, ⟨by repeat (first | (with_reducible first | exact HB.out | apply below_alloc | apply pw_below_drewN | apply below_drew1) | exact HB.out)⟩⟩
                · rw [if_neg c22] at H
                  have c22b0 : (t155 == t156) = false := beq_eq_false_iff_ne.mpr c22
                  have c22b1 : (t155 != t156) = true := bne_iff_ne.mpr c22
                  obtain rfl := Option.some.inj H
                  have p154 : 0 ≤ (x33_1 : Int) := of_decide_eq_true (by first | (with_reducible assumption) | assumption)
                  have q154 : x33_1 < (l0.length : Int) := of_decide_eq_true (by first | (with_reducible assumption) | assumption)
                  obtain ⟨ad154, e154, hx154_0⟩ := Kd.at_int HR0.out x33_1 p154 q154
                  cases e154
                  replace hx154_0 := (HB.out.cell (World.block_lt_of_cell? w _ hx154_0)).trans hx154_0
                  replace p154 := eq_true p154
                  replace q154 := eq_true q154
                  obtain ⟨Ao24, co24, eo24⟩ := Kd.R_slice HO_7.out
                  subst eo24
                  go_wp2_with (first | ((with_reducible refine gate_callee (f := 26) rfl ?_); refine goesL_ (some 39) rfl rfl Try.func26 (by kernel_rfl) rfl #[.slice Ao24 t149.length co24, .int .i64 (rd l0 x33_1)] rfl (by (try simp only [List.map_toArray, List.map_cons, List.map_nil]); first | done | rfl | (simp only [List.length_drop, List.length_take]; rfl)) ?_; (with_reducible refine (laws_times.calls k1 _ _ t149 (rd l0 x33_1) t155 _ ?side1 ?side2 A20.out).mono ?_); (case side1 => repeat (first | exact (Kd.R_reads' HO_7.out).2.2 | (with_reducible refine Kd.C_alloc ?_ _) | (with_reducible refine Kd.C_drewN ?_ _) | (with_reducible refine Kd.C_drew ?_))); (case side2 => exact (Kd.R_reads' HO_7.out).2.1); rintro e w' ⟨rfl, ⟨nd, rfl⟩⟩; refine ⟨_, rfl, ?_⟩) | ((with_reducible refine gate_callee (f := 26) rfl ?_); refine goesL_ (some 42) rfl rfl Try.func26 (by kernel_rfl) rfl #[.slice (some ad154) l0.length c0, .int .i64 (rd l0 x33_1)] rfl (by (try simp only [List.map_toArray, List.map_cons, List.map_nil]); first | done | rfl | (simp only [List.length_drop, List.length_take]; rfl)) ?_; (with_reducible refine (laws_times.calls k1 _ _ l0 (rd l0 x33_1) t156 _ ?side1 ?side2 A21.out).mono ?_); (case side1 => repeat (first | exact (Kd.C_below HR0.out (by repeat (first | (with_reducible first | exact HB.out | apply below_alloc | apply pw_below_drewN | apply below_drew1) | exact HB.out))) | (with_reducible refine Kd.C_alloc ?_ _) | (with_reducible refine Kd.C_drewN ?_ _) | (with_reducible refine Kd.C_drew ?_))); (case side2 => exact HC0.out); rintro e w' ⟨rfl, ⟨nd, rfl⟩⟩; refine ⟨_, rfl, ?_⟩))
                  go_ret
                  exact ⟨by first | rfl | (simp [errW_none, errW_some] <;> rfl) | (simp [*, errW_none, errW_some] <;> rfl), by repeat (first | (with_reducible first | exact HB.out | apply below_alloc | apply pw_below_drewN | apply below_drew1) | exact HB.out)⟩
              · rw [if_neg c19] at H
                exact absurd H (by simp)
            · rw [if_neg c18] at H
              exact absurd H (by simp)
          · rw [if_neg c17] at H
            have c17b0 : decide (x33_1 < (l0.length : Int)) = false := decide_eq_false c17
            clear c17
            by_cases c25 : (t145.length : Int) = 1
            · rw [if_pos c25] at H
              have c25b0 : ((t145.length : Int) == 1) = true := beq_iff_eq.mpr c25
              have c25b1 : ((t145.length : Int) != 1) = false := bne_eq_false_iff_eq.mpr c25
              clear c25
              by_cases c26 : 0 < (t145.length : Int)
              · rw [if_pos c26] at H
                have c26b0 : decide (0 < (t145.length : Int)) = true := decide_eq_true c26
                have c26b1 : decide (0 < t145.length) = true := decide_eq_true (by omega)
                clear c26
                by_cases c27 : (rd t145 0) = 7
                · rw [if_pos c27] at H
                  have c27b0 : ((rd t145 0) == 7) = true := beq_iff_eq.mpr c27
                  have c27b1 : ((rd t145 0) != 7) = false := bne_eq_false_iff_eq.mpr c27
                  clear c27
                  obtain rfl := Option.some.inj H
                  obtain ⟨Ao28, co28, eo28⟩ := Kd.R_slice HO_5.out
                  subst eo28
                  have p153 : 0 ≤ (0 : Int) := (by omega)
                  have q153 : 0 < (t145.length : Int) := of_decide_eq_true (by first | (with_reducible assumption) | assumption)
                  obtain ⟨ad153, e153, hx153_0⟩ := Kd.at_int (Kd.R_reads' HO_5.out).2.2 0 p153 q153
                  cases e153
                  have qi153 : (0 < t145.length) = True := eq_true (by omega)
                  (try rw [show ((0 : Int)).toNat = 0 from rfl] at hx153_0)
                  (try rw [Addr.add_zero'] at hx153_0)
                  replace p153 := eq_true p153
                  replace q153 := eq_true q153
                  obtain ⟨Ao29, co29, eo29⟩ := Kd.R_slice HO_7.out
                  subst eo29
                  go_wp2
                  go_ret
                  exact ⟨by first | rfl | (simp [errW_none, errW_some] <;> rfl) | (simp [*, errW_none, errW_some] <;> rfl), by repeat (first | (with_reducible first | exact HB.out | apply below_alloc | apply pw_below_drewN | apply below_drew1) | exact HB.out)⟩
                · rw [if_neg c27] at H
                  have c27b0 : ((rd t145 0) == 7) = false := beq_eq_false_iff_ne.mpr c27
                  have c27b1 : ((rd t145 0) != 7) = true := bne_iff_ne.mpr c27
                  obtain rfl := Option.some.inj H
                  obtain ⟨Ao30, co30, eo30⟩ := Kd.R_slice HO_5.out
                  subst eo30
                  have p153 : 0 ≤ (0 : Int) := (by omega)
                  have q153 : 0 < (t145.length : Int) := of_decide_eq_true (by first | (with_reducible assumption) | assumption)
                  obtain ⟨ad153, e153, hx153_0⟩ := Kd.at_int (Kd.R_reads' HO_5.out).2.2 0 p153 q153
                  cases e153
                  have qi153 : (0 < t145.length) = True := eq_true (by omega)
                  (try rw [show ((0 : Int)).toNat = 0 from rfl] at hx153_0)
                  (try rw [Addr.add_zero'] at hx153_0)
                  replace p153 := eq_true p153
                  replace q153 := eq_true q153
                  go_wp2
                  go_ret
                  exact ⟨by first | rfl | (simp [errW_none, errW_some] <;> rfl) | (simp [*, errW_none, errW_some] <;> rfl), by repeat (first | (with_reducible first | exact HB.out | apply below_alloc | apply pw_below_drewN | apply below_drew1) | exact HB.out)⟩
              · rw [if_neg c26] at H
                exact absurd H (by simp)
            · rw [if_neg c25] at H
              have c25b0 : ((t145.length : Int) == 1) = false := beq_eq_false_iff_ne.mpr c25
              have c25b1 : ((t145.length : Int) != 1) = true := bne_iff_ne.mpr c25
              obtain rfl := Option.some.inj H
              obtain ⟨Ao31, co31, eo31⟩ := Kd.R_slice HO_5.out
              subst eo31
              go_wp2
              go_ret
              exact ⟨by first | rfl | (simp [errW_none, errW_some] <;> rfl) | (simp [*, errW_none, errW_some] <;> rfl), by repeat (first | (with_reducible first | exact HB.out | apply below_alloc | apply pw_below_drewN | apply below_drew1) | exact HB.out)⟩

/-- THE ONE PURE STATEMENT of laws_FnMix: yours. -/
def laws_FnMix.Pure : Prop := ∀ (l0 : List Int) (a1 : Int), l0.length ≤ maxLen → l0.length * 8 ≤ 140737488351232 → (∀ x ∈ l0, (Lit.int .i64 x).wf = true) → (Lit.int .u64 a1).wf = true → ∃ k, laws_FnMix.f k l0 a1 = some true
theorem laws_FnMix.walk (P : laws_FnMix.Pure) (a0 : Option Addr) (len0 cap0 : Nat) (z0 : List Int) (a1 : Int) (w : World) (w0 : (a0 = none ∧ len0 = 0 ∧ cap0 = 0 ∧ z0 = []) ∨ ∃ x, a0 = some x ∧ len0 ≤ cap0 ∧ cap0 ≤ maxLen ∧ z0.length = cap0 ∧ (∀ i, i < z0.length → w.cell? (x.add i) = some (.int .i64 (z0.getD i 0))) ∧ ∀ n ∈ z0, (Lit.int .i64 n).wf = true) (y0 : len0 * 8 ≤ 140737488351232) (w1 : (Lit.int .u64 a1).wf = true) :
    Calls Try.prog 11 #[.slice a0 len0 cap0, .int .u64 a1] w fun e w' => e = .returned (.bool true) ∧ Below w.heap.size w w' := by
  obtain ⟨l0, rfl, hr0, hm0, hw0, hc0⟩ := ReadsInt.ofRowC w0
  obtain ⟨k, h⟩ := P l0 a1 hm0 y0 hw0 w1
  refine (laws_FnMix.calls k _ _ l0 a1 true w (Kd.C_of_reads (d := (0 : Int)) (h1 := fun _ => rfl) hr0) hc0 h).mono ?_
  rintro e w' ⟨rfl, hd⟩
  exact ⟨rfl, hd⟩

end Go.Proofs.Ytmbhbioanoalaaa.PFnMix
