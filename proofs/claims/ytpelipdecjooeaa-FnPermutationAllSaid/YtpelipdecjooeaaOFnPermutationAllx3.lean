/- The functions that the law 'FnPermutationAll' reaches, each with its contract. -/
import Derived.Test.YtpelipdecjooeaaOFnPermutationAllx0
import Derived.Test.YtpelipdecjooeaaOFnPermutationAllx1
import Derived.Test.YtpelipdecjooeaaOFnPermutationAllx2
namespace Go.Proofs.Ytpelipdecjooeaa.PFnPermutationAll
open Go.RowKit Go.Proofs.YtpelipdecjooeaaW.PrintWords Go.Proofs.YtpelipdecjooeaaW.PrintLast Go.Proofs.YtpelipdecjooeaaW.PrintMore
attribute [local go_sem] max2_int min2_int max_two min_two max_three min_three max_four min_four   -- for this text's walks alone
set_option linter.unusedVariables false
set_option linter.unusedSimpArgs false

/-! ### laws_FnPermutationAll: function 3 -/
def laws_FnPermutationAll.l0 : Nat → List Int → List (List Int) → List (List Int) → Int → Int → Option (Bool)
  | 0, _, _, _, _, _ => none
  | k + 1, x3, x5, x19, x20, x21 => if x21 < x20 then (if 0 ≤ x21 then (if x21 < (x19.length : Int) then ((spec_Same.f k x3 (rd_L1 x19 x21)).bind fun t215 => (if t215 = true then ((impl_PermutationNext.f (rd_L1 x19 x21)).bind fun bt216 => (if (bt216.2 != (decide ((wrap64 (x21 + 1)) < (x5.length : Int)))) = true then (some false) else (laws_FnPermutationAll.l0 k bt216.1 x5 x19 x20 (wrap64 (x21 + 1))))) else (some false))) else (none)) else (none)) else ((laws_ordered.f k).bind fun t213 => (some t213))
def laws_FnPermutationAll.f (k : Nat) (l0 : List Int) : Option (Bool) := if (l0.length : Int) > 2147483647 then (some true) else (if (l0.length : Int) > 6 then ((laws_ordered.f k).bind fun t206 => (some t206)) else ((impl_PermutationFirst.f l0).bind fun t207 => ((spec_All.f k l0).bind fun t210 => (laws_FnPermutationAll.l0 k t207 t210 t210 (t210.length : Int) 0))))
theorem laws_FnPermutationAll.mono_l : ∀ k, (∀ y0 y1 y2 y3 y4, LeO (laws_FnPermutationAll.l0 k y0 y1 y2 y3 y4) (laws_FnPermutationAll.l0 (k + 1) y0 y1 y2 y3 y4))
  | 0 => fun _ _ _ _ _ r h => by simp [laws_FnPermutationAll.l0] at h
  | k + 1 => by
    have ih0 := laws_FnPermutationAll.mono_l k
    · intro y0 y1 y2 y3 y4
      unfold laws_FnPermutationAll.l0
      repeat' first
      | (with_reducible exact ih0 _ _ _ _ _)
      | (with_reducible exact laws_ordered.mono _)
      | (with_reducible exact spec_All.mono _ _)
      | (with_reducible exact spec_Same.mono _ _ _)
      | (with_reducible exact LeO.refl _)
      | (with_reducible exact LeO.none _)
      | (with_reducible refine LeO.ite ?_ ?_)
      | (with_reducible refine LeO.bind ?_ (fun _ => ?_))
      | exact ih0 _ _ _ _ _
      | exact laws_ordered.mono _
      | exact spec_All.mono _ _
      | exact spec_Same.mono _ _ _
      | exact LeO.none _
      | refine LeO.ite ?_ ?_
      | refine LeO.bind ?_ (fun _ => ?_)
theorem laws_FnPermutationAll.mono : ∀ a0 k, LeO (laws_FnPermutationAll.f k a0) (laws_FnPermutationAll.f (k + 1) a0) := by
  intro a0 k
  have ih0 := laws_FnPermutationAll.mono_l k
  unfold laws_FnPermutationAll.f
  repeat' first
      | (with_reducible exact ih0 _ _ _ _ _)
      | (with_reducible exact laws_ordered.mono _)
      | (with_reducible exact spec_All.mono _ _)
      | (with_reducible exact spec_Same.mono _ _ _)
      | (with_reducible exact LeO.refl _)
      | (with_reducible exact LeO.none _)
      | (with_reducible refine LeO.ite ?_ ?_)
      | (with_reducible refine LeO.bind ?_ (fun _ => ?_))
      | exact ih0 _ _ _ _ _
      | exact laws_ordered.mono _
      | exact spec_All.mono _ _
      | exact spec_Same.mono _ _ _
      | exact LeO.none _
      | refine LeO.ite ?_ ?_
      | refine LeO.bind ?_ (fun _ => ?_)
set_option maxHeartbeats 8000000 in
set_option maxRecDepth 100000 in
theorem laws_FnPermutationAll.calls (k : Nat) (A0 : Option Addr) (c0 : Nat) (l0 : List Int) (r : Bool) (w : World) (hr0 : Kd.C (Kd.int .i64) w A0 l0.length l0) (hc0 : l0.length ≤ c0) (h : laws_FnPermutationAll.f k l0 = some r) :
    Calls Try.prog 3 #[.slice A0 l0.length c0] w fun e w' => e = .returned (.bool r) ∧ Below w.heap.size w w' := by
  have HR0 := Aside0.mk hr0
  have HC0 := Aside0.mk hc0
  clear hr0 hc0
  have HB := Aside0.mk (Below.refl w.heap.size w)
  have H : (if (l0.length : Int) > 2147483647 then (some true) else (if (l0.length : Int) > 6 then ((laws_ordered.f k).bind fun t206 => (some t206)) else ((impl_PermutationFirst.f l0).bind fun t207 => ((spec_All.f k l0).bind fun t210 => (laws_FnPermutationAll.l0 k t207 t210 t210 (t210.length : Int) 0))))) = some r := h
  clear h
  by_cases c2 : (l0.length : Int) > 2147483647
  · rw [if_pos c2] at H
    have c2b0 : decide (2147483647 < (l0.length : Int)) = true := decide_eq_true c2
    have c2b1 : decide (2147483647 < l0.length) = true := decide_eq_true (by omega)
    clear c2
    obtain rfl := Option.some.inj H
    go_enter Try.func3, Try.ntmps3
    go_wp2
    go_ret
    exact ⟨by first | rfl | (simp [errW_none, errW_some] <;> rfl) | (simp [*, errW_none, errW_some] <;> rfl), by repeat (first | (with_reducible first | exact HB.out | apply below_alloc | apply pw_below_drewN | apply below_drew1) | exact HB.out)⟩
  · rw [if_neg c2] at H
    have c2b0 : decide (2147483647 < (l0.length : Int)) = false := decide_eq_false c2
    have c2b1 : decide (2147483647 < l0.length) = false := decide_eq_false (by omega)
    clear c2
    by_cases c3 : (l0.length : Int) > 6
    · rw [if_pos c3] at H
      have c3b0 : decide (6 < (l0.length : Int)) = true := decide_eq_true c3
      have c3b1 : decide (6 < l0.length) = true := decide_eq_true (by omega)
      clear c3
      replace H := Option.bind_eq_some_iff.mp H
      obtain ⟨t206, A40, H⟩ := H
      replace H : (some t206) = some r := H
      have A4 := Aside0.mk A40
      clear A40
      obtain rfl := Option.some.inj H
      go_enter Try.func3, Try.ntmps3
      go_wp2_with (first | ((with_reducible refine gate_callee (f := 6) rfl ?_); refine goesL_ (some 14) rfl rfl Try.func6 (by kernel_rfl) rfl #[] rfl (by (try simp only [List.map_toArray, List.map_cons, List.map_nil]); first | done | rfl | (simp only [List.length_drop, List.length_take]; rfl)) ?_; (with_reducible refine (laws_ordered.calls k  t206 _ A4.out).mono ?_); rintro e w5 ⟨rfl, hb⟩; refine ⟨_, rfl, ?_⟩; have n0_ := Aside0.mk (below_step (by repeat (first | (with_reducible first | exact HB.out | apply below_alloc | apply pw_below_drewN | apply below_drew1) | exact HB.out)) hb); clear HB; have HB := n0_; clear n0_; (try clear hb); (try clear hb2); (try clear hk); (try clear hi)))
      go_ret
      exact ⟨by first | rfl | (simp [errW_none, errW_some] <;> rfl) | (simp [*, errW_none, errW_some] <;> rfl), by repeat (first | (with_reducible first | exact HB.out | apply below_alloc | apply pw_below_drewN | apply below_drew1) | exact HB.out)⟩
    · rw [if_neg c3] at H
      have c3b0 : decide (6 < (l0.length : Int)) = false := decide_eq_false c3
      have c3b1 : decide (6 < l0.length) = false := decide_eq_false (by omega)
      clear c3
      replace H := Option.bind_eq_some_iff.mp H
      obtain ⟨t207, A60, H⟩ := H
      replace H : ((spec_All.f k l0).bind fun t210 => (laws_FnPermutationAll.l0 k t207 t210 t210 (t210.length : Int) 0)) = some r := H
      have A6 := Aside0.mk A60
      clear A60
      replace H := Option.bind_eq_some_iff.mp H
      obtain ⟨t210, A70, H⟩ := H
      replace H : (laws_FnPermutationAll.l0 k t207 t210 t210 (t210.length : Int) 0) = some r := H
      have A7 := Aside0.mk A70
      clear A70
      have H' := Aside0.mk H
      clear H
      go_enter Try.func3, Try.ntmps3
      go_wp2_with (first | ((with_reducible refine gate_callee (f := 7) rfl ?_); refine goesL_ (some 16) rfl rfl Try.func7 (by kernel_rfl) rfl #[.slice A0 l0.length c0] rfl (by (try simp only [List.map_toArray, List.map_cons, List.map_nil]); first | done | rfl | (simp only [List.length_drop, List.length_take]; rfl)) ?_; (with_reducible refine (impl_PermutationFirst.calls _ _ l0 t207 _ ?side1 ?side2 A6.out).mono ?_); (case side1 => repeat (first | exact HR0.out | (with_reducible refine Kd.C_alloc ?_ _) | (with_reducible refine Kd.C_drewN ?_ _) | (with_reducible refine Kd.C_drew ?_))); (case side2 => exact HC0.out); rintro e w8 ⟨v208, rfl, ho0, hb⟩; refine ⟨_, rfl, ?_⟩; have n0_ := Aside0.mk (Kd.R_lower ho0 (below_size (by repeat (first | (with_reducible first | exact HB.out | apply below_alloc | apply pw_below_drewN | apply below_drew1) | exact HB.out)))); have n1_ := Aside0.mk (below_step (by repeat (first | (with_reducible first | exact HB.out | apply below_alloc | apply pw_below_drewN | apply below_drew1) | exact HB.out)) hb); clear HB; have HO209 := n0_; have HB := n1_; clear n0_ n1_; (try clear hb); (try clear hb2); (try clear hk); (try clear hi); (try clear ho0)) | ((with_reducible refine gate_callee (f := 8) rfl ?_); refine goesL_ (some 18) rfl rfl Try.func8 (by kernel_rfl) rfl #[.slice A0 l0.length c0] rfl (by (try simp only [List.map_toArray, List.map_cons, List.map_nil]); first | done | rfl | (simp only [List.length_drop, List.length_take]; rfl)) ?_; (with_reducible refine (spec_All.calls k _ _ l0 t210 _ ?side1 ?side2 A7.out).mono ?_); (case side1 => repeat (first | exact (Kd.C_below HR0.out HB.out) | (with_reducible refine Kd.C_alloc ?_ _) | (with_reducible refine Kd.C_drewN ?_ _) | (with_reducible refine Kd.C_drew ?_))); (case side2 => exact HC0.out); rintro e w9 ⟨v211, rfl, ho0, hb⟩; refine ⟨_, rfl, ?_⟩; have n0_ := Aside0.mk (Kd.R_below (by (with_reducible repeat (first | apply Kd.R_alloc | apply Kd.R_drewN | apply Kd.R_drew)); exact HO209.out) hb); have n1_ := Aside0.mk (Kd.N_lower (Kd.N_mono (ok' := fun k_ => some k_ ≠ (v208 : Value).ownBlock) ho0 (fun k_ hk_ => (Kd.fresh' (Kd.R_lt (by (with_reducible repeat (first | apply Kd.R_alloc | apply Kd.R_drewN | apply Kd.R_drew)); exact HO209.out)) k_ hk_))) (below_size (by repeat (first | (with_reducible first | exact HB.out | apply below_alloc | apply pw_below_drewN | apply below_drew1) | exact HB.out)))); have n2_ := Aside0.mk (below_step (by repeat (first | (with_reducible first | exact HB.out | apply below_alloc | apply pw_below_drewN | apply below_drew1) | exact HB.out)) hb); clear HO209; clear HB; have HO209 := n0_; have HO212 := n1_; have HB := n2_; clear n0_ n1_ n2_; (try clear hb); (try clear hb2); (try clear hk); (try clear hi); (try clear ho0); obtain ⟨Ao10, co10, eo10⟩ := Kd.N_slice HO212.out; subst eo10))
      go_loopg [3, 21] k (fun kq v3 v21 w' => ∃ (x3_1 : List Int) (x21_1 : Int), v21 = .int .i64 x21_1 ∧ Aside0 (laws_FnPermutationAll.l0 kq x3_1 t210 t210 (t210.length : Int) x21_1 = some r) ∧ Aside0 (kq ≤ k) ∧ Aside0 (Kd.R (Kd.int .i64) 3 w' w.heap.size (fun _ => True) v3 x3_1) ∧ Aside0 (Kd.N (Kd.slice 3 (Kd.int .i64)) 22 w' w.heap.size (fun k_ => some k_ ≠ (v3 : Value).ownBlock) (.slice Ao10 t210.length co10) t210) ∧ Aside0 (Kd.N (Kd.slice 3 (Kd.int .i64)) 22 w' w.heap.size (fun k_ => some k_ ≠ (v3 : Value).ownBlock) (.slice Ao10 t210.length co10) t210) ∧ Aside0 (Below w.heap.size w w'))
      case atStart => exact ⟨(t207), (0), (by first | rfl | (simp; done) | (simp [*]; done)), H', ⟨Nat.le_refl _⟩, ⟨by (with_reducible repeat (first | apply Kd.R_alloc | apply Kd.R_drewN | apply Kd.R_drew)); exact HO209.out⟩, ⟨by (with_reducible repeat (first | apply Kd.N_alloc | apply Kd.N_drewN | apply Kd.N_drew)); exact HO212.out⟩, ⟨by (with_reducible repeat (first | apply Kd.N_alloc | apply Kd.N_drewN | apply Kd.N_drew)); exact HO212.out⟩, ⟨by repeat (first | (with_reducible first | exact HB.out | apply below_alloc | apply pw_below_drewN | apply below_drew1) | exact HB.out)⟩⟩
      case round =>
        clear H'
        try clear c2
        try clear c2b0
        try clear c2b1
        try clear p2
        try clear c3
        try clear c3b0
        try clear c3b1
        try clear c6
        try clear c7
        try clear c8
        obtain ⟨x3_1, x21_1, rfl, HA, HK1, HO_3, HO_5, HO_19, HB⟩ := hrel
        cases gk with
        | zero => exact absurd HA.out (by simp [laws_FnPermutationAll.l0])
        | succ k1 =>
          have H := HA.out
          clear HA
          simp only [laws_FnPermutationAll.l0] at H
          by_cases c11 : x21_1 < (t210.length : Int)
          · rw [if_pos c11] at H
            have c11b0 : decide (x21_1 < (t210.length : Int)) = true := decide_eq_true c11
            clear c11
            by_cases c12 : 0 ≤ x21_1
            · rw [if_pos c12] at H
              have c12b0 : decide (0 ≤ x21_1) = true := decide_eq_true c12
              clear c12
              by_cases c13 : x21_1 < (t210.length : Int)
              · rw [if_pos c13] at H
                have c13b0 : decide (x21_1 < (t210.length : Int)) = true := decide_eq_true c13
                clear c13
                replace H := Option.bind_eq_some_iff.mp H
                obtain ⟨t215, A140, H⟩ := H
                replace H : (if t215 = true then ((impl_PermutationNext.f (rd_L1 t210 x21_1)).bind fun bt216 => (if (bt216.2 != (decide ((wrap64 (x21_1 + 1)) < (t210.length : Int)))) = true then (some false) else (laws_FnPermutationAll.l0 k1 bt216.1 t210 t210 (t210.length : Int) (wrap64 (x21_1 + 1))))) else (some false)) = some r := H
                have A14 := Aside0.mk A140
                clear A140
                by_cases c15 : t215 = true
                · subst c15
                  have H1 : ((impl_PermutationNext.f (rd_L1 t210 x21_1)).bind fun bt216 => (if (bt216.2 != (decide ((wrap64 (x21_1 + 1)) < (t210.length : Int)))) = true then (some false) else (laws_FnPermutationAll.l0 k1 bt216.1 t210 t210 (t210.length : Int) (wrap64 (x21_1 + 1))))) = some r := by rw [if_pos rfl] at H; exact H
                  clear H
                  have H := H1
                  clear H1
                  replace H := Option.bind_eq_some_iff.mp H
                  obtain ⟨⟨t216, t217⟩, A160, H⟩ := H
                  replace H : (if (t217 != (decide ((wrap64 (x21_1 + 1)) < (t210.length : Int)))) = true then (some false) else (laws_FnPermutationAll.l0 k1 t216 t210 t210 (t210.length : Int) (wrap64 (x21_1 + 1)))) = some r := H
                  have A16 := Aside0.mk A160
                  clear A160
                  by_cases c17 : (t217 != (decide ((wrap64 (x21_1 + 1)) < (t210.length : Int)))) = true
                  · rw [if_pos c17] at H
                    have c17b0 : (t217 != (decide ((wrap64 (x21_1 + 1)) < (t210.length : Int)))) = true := c17
                    (try (have c17b1 : decide (t217 = (decide ((wrap64 (x21_1 + 1)) < (t210.length : Int)))) = false := by simpa using c17))
                    (try (have c17b2 : (t217 == (decide ((wrap64 (x21_1 + 1)) < (t210.length : Int)))) = false := by simpa using c17))
                    (try (have c17b3 : ¬ (t217 = (decide ((wrap64 (x21_1 + 1)) < (t210.length : Int)))) := by simpa using c17))
                    clear c17
                    obtain rfl := Option.some.inj H
                    have p214 : 0 ≤ (x21_1 : Int) := of_decide_eq_true (by first | (with_reducible assumption) | assumption)
                    have q214 : x21_1 < (t210.length : Int) := of_decide_eq_true (by first | (with_reducible assumption) | assumption)
                    obtain ⟨ad214, A214_0, c214_0, e214, hx214_0, hl214_0, hi214_0⟩ := at_L1 (Kd.N_reads' HO_19.out).2.2 x21_1 p214 q214
                    cases e214
                    obtain ⟨ce214, hce214, hMe214, hcc214⟩ := Kd.N_get HO_19.out [] x21_1 p214 (by first | exact q214 | exact of_decide_eq_true (by first | (with_reducible assumption) | assumption) | (have e_ := (Kd.N_reads' HO_19.out).1; omega))
                    obtain ⟨ua214_0, uc214_0, rfl, ul214_0, ge214_0⟩ := Kd.FK_slice_open hMe214
                    have hv214_0 := hcc214 0 _ rfl
                    rw [Nat.add_zero, show ((Kd.slice 3 (Kd.int .i64))).sz = 1 from rfl, Nat.mul_one] at hv214_0
                    replace hv214_0 := Option.some.inj (hv214_0.symm.trans hx214_0)
                    injection hv214_0 with hva_ hvn_ hvc_
                    rw [hva_] at ge214_0
                    rw [hvc_] at ul214_0
                    have HL214_0 := Aside0.mk (show Kd.V (Kd.int .i64) 3 _ w.heap.size _ _ (rd_L1 t210 x21_1) from Kd.V_mk ul214_0 ge214_0)
                    clear hva_ hvn_ hvc_ ge214_0 ul214_0
                    clear hcc214 hce214
                    have HR214_0 := Aside0.mk hi214_0
                    have HC214_0 := Aside0.mk hl214_0
                    clear hi214_0 hl214_0
                    replace p214 := eq_true p214
                    replace q214 := eq_true q214
                    obtain ⟨Ao18, co18, eo18⟩ := Kd.R_slice HO_3.out
                    subst eo18
                    go_wp2_with (first | ((with_reducible refine gate_callee (f := 9) rfl ?_); refine goesL_ (some 28) rfl rfl Try.func9 (by kernel_rfl) rfl #[.slice Ao18 x3_1.length co18, .slice A214_0 (rd_L1 t210 x21_1).length c214_0] rfl (by (try simp only [List.map_toArray, List.map_cons, List.map_nil]); first | done | rfl | (simp only [List.length_drop, List.length_take]; rfl)) ?_; (with_reducible refine (spec_Same.calls k1 _ _ x3_1 _ _ (rd_L1 t210 x21_1) true _ ?side1 ?side2 ?side3 ?side4 A14.out).mono ?_); (case side1 => repeat (first | exact (Kd.R_reads' HO_3.out).2.2 | (with_reducible refine Kd.C_alloc ?_ _) | (with_reducible refine Kd.C_drewN ?_ _) | (with_reducible refine Kd.C_drew ?_))); (case side2 => exact (Kd.R_reads' HO_3.out).2.1); (case side3 => repeat (first | exact (by repeat (first | (with_reducible exact HR214_0.out) | (with_reducible refine Kd.C_alloc ?_ _) | (with_reducible refine Kd.C_drewN ?_ _) | (with_reducible refine Kd.C_drew ?_) | exact HR214_0.out)) | (with_reducible refine Kd.C_alloc ?_ _) | (with_reducible refine Kd.C_drewN ?_ _) | (with_reducible refine Kd.C_drew ?_))); (case side4 => exact HC214_0.out); rintro e w' ⟨rfl, ⟨nd, rfl⟩⟩; refine ⟨_, rfl, ?_⟩) | ((with_reducible refine gate_callee (f := 10) rfl ?_); refine goesL_ (some 32) rfl rfl Try.func10 (by kernel_rfl) rfl #[.slice A214_0 (rd_L1 t210 x21_1).length c214_0] rfl (by (try simp only [List.map_toArray, List.map_cons, List.map_nil]); first | done | rfl | (simp only [List.length_drop, List.length_take]; rfl)) ?_; (with_reducible refine (impl_PermutationNext.calls _ _ (rd_L1 t210 x21_1) t216 t217 _ ?side1 ?side2 A16.out).mono ?_); (case side1 => repeat (first | exact (by repeat (first | (with_reducible exact HR214_0.out) | (with_reducible refine Kd.C_alloc ?_ _) | (with_reducible refine Kd.C_drewN ?_ _) | (with_reducible refine Kd.C_drew ?_) | exact HR214_0.out)) | (with_reducible refine Kd.C_alloc ?_ _) | (with_reducible refine Kd.C_drewN ?_ _) | (with_reducible refine Kd.C_drew ?_))); (case side2 => exact HC214_0.out); rintro e w19 ⟨v218, rfl, ho0, hb⟩; refine ⟨_, rfl, ?_⟩; have n0_ := Aside0.mk (Kd.R_elder' (by (with_reducible repeat (first | apply Kd.R_alloc | apply Kd.R_drewN | apply Kd.R_drew)); exact HO_3.out) (Kd.R_base ho0) hb); have n1_ := Aside0.mk (Kd.N_elder' (by (with_reducible repeat (first | apply Kd.N_alloc | apply Kd.N_drewN | apply Kd.N_drew)); exact HO_5.out) (Kd.R_base ho0) hb); have n2_ := Aside0.mk (Kd.N_elder' (by (with_reducible repeat (first | apply Kd.N_alloc | apply Kd.N_drewN | apply Kd.N_drew)); exact HO_19.out) (Kd.R_base ho0) hb); have n3_ := Aside0.mk (Kd.V_elder' (by (with_reducible repeat (first | apply Kd.V_alloc | apply Kd.V_drewN | apply Kd.V_drew)); exact HL214_0.out) (Kd.R_base ho0) hb); have n4_ := Aside0.mk (Kd.R_lower (Kd.R_new' ho0 (Kd.R_lt (by (with_reducible repeat (first | apply Kd.R_alloc | apply Kd.R_drewN | apply Kd.R_drew)); exact HO_3.out))) (below_size (by repeat (first | (with_reducible first | exact HB.out | apply below_alloc | apply pw_below_drewN | apply below_drew1) | exact HB.out)))); have n5_ := Aside0.mk (Kd.C_below (by repeat (first | (with_reducible exact HR214_0.out) | (with_reducible refine Kd.C_alloc ?_ _) | (with_reducible refine Kd.C_drewN ?_ _) | (with_reducible refine Kd.C_drew ?_) | exact HR214_0.out)) hb); have n6_ := Aside0.mk (below_step (by repeat (first | (with_reducible first | exact HB.out | apply below_alloc | apply pw_below_drewN | apply below_drew1) | exact HB.out)) hb); clear HO_3; clear HO_5; clear HO_19; clear HL214_0; clear HR214_0; clear HB; have HO_3 := n0_; have HO_5 := n1_; have HO_19 := n2_; have HL214_0 := n3_; have HO219 := n4_; have HR214_0 := n5_; have HB := n6_; clear n0_ n1_ n2_ n3_ n4_ n5_ n6_; (try clear hb); (try clear hb2); (try clear hk); (try clear hi); (try clear ho0)))
                    go_ret
                    exact ⟨by first | rfl | (simp [errW_none, errW_some] <;> rfl) | (simp [*, errW_none, errW_some] <;> rfl), by repeat (first | (with_reducible first | exact HB.out | apply below_alloc | apply pw_below_drewN | apply below_drew1) | exact HB.out)⟩
                  · rw [if_neg c17] at H
                    have c17b0 : (t217 != (decide ((wrap64 (x21_1 + 1)) < (t210.length : Int)))) = false := by simpa using c17
                    (try (have c17b1 : decide (t217 = (decide ((wrap64 (x21_1 + 1)) < (t210.length : Int)))) = true := by simpa using c17))
                    (try (have c17b2 : (t217 == (decide ((wrap64 (x21_1 + 1)) < (t210.length : Int)))) = true := by simpa using c17))
                    clear c17
                    have H' := Aside0.mk H
                    clear H
                    have p214 : 0 ≤ (x21_1 : Int) := of_decide_eq_true (by first | (with_reducible assumption) | assumption)
                    have q214 : x21_1 < (t210.length : Int) := of_decide_eq_true (by first | (with_reducible assumption) | assumption)
                    obtain ⟨ad214, A214_0, c214_0, e214, hx214_0, hl214_0, hi214_0⟩ := at_L1 (Kd.N_reads' HO_19.out).2.2 x21_1 p214 q214
                    cases e214
                    obtain ⟨ce214, hce214, hMe214, hcc214⟩ := Kd.N_get HO_19.out [] x21_1 p214 (by first | exact q214 | exact of_decide_eq_true (by first | (with_reducible assumption) | assumption) | (have e_ := (Kd.N_reads' HO_19.out).1; omega))
                    obtain ⟨ua214_0, uc214_0, rfl, ul214_0, ge214_0⟩ := Kd.FK_slice_open hMe214
                    have hv214_0 := hcc214 0 _ rfl
                    rw [Nat.add_zero, show ((Kd.slice 3 (Kd.int .i64))).sz = 1 from rfl, Nat.mul_one] at hv214_0
                    replace hv214_0 := Option.some.inj (hv214_0.symm.trans hx214_0)
                    injection hv214_0 with hva_ hvn_ hvc_
                    rw [hva_] at ge214_0
                    rw [hvc_] at ul214_0
                    have HL214_0 := Aside0.mk (show Kd.V (Kd.int .i64) 3 _ w.heap.size _ _ (rd_L1 t210 x21_1) from Kd.V_mk ul214_0 ge214_0)
                    clear hva_ hvn_ hvc_ ge214_0 ul214_0
                    clear hcc214 hce214
                    have HR214_0 := Aside0.mk hi214_0
                    have HC214_0 := Aside0.mk hl214_0
                    clear hi214_0 hl214_0
                    replace p214 := eq_true p214
                    replace q214 := eq_true q214
                    obtain ⟨Ao20, co20, eo20⟩ := Kd.R_slice HO_3.out
                    subst eo20
                    go_wp2_with (first | ((with_reducible refine gate_callee (f := 9) rfl ?_); refine goesL_ (some 28) rfl rfl Try.func9 (by kernel_rfl) rfl #[.slice Ao20 x3_1.length co20, .slice A214_0 (rd_L1 t210 x21_1).length c214_0] rfl (by (try simp only [List.map_toArray, List.map_cons, List.map_nil]); first | done | rfl | (simp only [List.length_drop, List.length_take]; rfl)) ?_; (with_reducible refine (spec_Same.calls k1 _ _ x3_1 _ _ (rd_L1 t210 x21_1) true _ ?side1 ?side2 ?side3 ?side4 A14.out).mono ?_); (case side1 => repeat (first | exact (Kd.R_reads' HO_3.out).2.2 | (with_reducible refine Kd.C_alloc ?_ _) | (with_reducible refine Kd.C_drewN ?_ _) | (with_reducible refine Kd.C_drew ?_))); (case side2 => exact (Kd.R_reads' HO_3.out).2.1); (case side3 => repeat (first | exact (by repeat (first | (with_reducible exact HR214_0.out) | (with_reducible refine Kd.C_alloc ?_ _) | (with_reducible refine Kd.C_drewN ?_ _) | (with_reducible refine Kd.C_drew ?_) | exact HR214_0.out)) | (with_reducible refine Kd.C_alloc ?_ _) | (with_reducible refine Kd.C_drewN ?_ _) | (with_reducible refine Kd.C_drew ?_))); (case side4 => exact HC214_0.out); rintro e w' ⟨rfl, ⟨nd, rfl⟩⟩; refine ⟨_, rfl, ?_⟩) | ((with_reducible refine gate_callee (f := 10) rfl ?_); refine goesL_ (some 32) rfl rfl Try.func10 (by kernel_rfl) rfl #[.slice A214_0 (rd_L1 t210 x21_1).length c214_0] rfl (by (try simp only [List.map_toArray, List.map_cons, List.map_nil]); first | done | rfl | (simp only [List.length_drop, List.length_take]; rfl)) ?_; (with_reducible refine (impl_PermutationNext.calls _ _ (rd_L1 t210 x21_1) t216 t217 _ ?side1 ?side2 A16.out).mono ?_); (case side1 => repeat (first | exact (by repeat (first | (with_reducible exact HR214_0.out) | (with_reducible refine Kd.C_alloc ?_ _) | (with_reducible refine Kd.C_drewN ?_ _) | (with_reducible refine Kd.C_drew ?_) | exact HR214_0.out)) | (with_reducible refine Kd.C_alloc ?_ _) | (with_reducible refine Kd.C_drewN ?_ _) | (with_reducible refine Kd.C_drew ?_))); (case side2 => exact HC214_0.out); rintro e w21 ⟨v218, rfl, ho0, hb⟩; refine ⟨_, rfl, ?_⟩; have n0_ := Aside0.mk (Kd.R_elder' (by (with_reducible repeat (first | apply Kd.R_alloc | apply Kd.R_drewN | apply Kd.R_drew)); exact HO_3.out) (Kd.R_base ho0) hb); have n1_ := Aside0.mk (Kd.N_elder' (by (with_reducible repeat (first | apply Kd.N_alloc | apply Kd.N_drewN | apply Kd.N_drew)); exact HO_5.out) (Kd.R_base ho0) hb); have n2_ := Aside0.mk (Kd.N_elder' (by (with_reducible repeat (first | apply Kd.N_alloc | apply Kd.N_drewN | apply Kd.N_drew)); exact HO_19.out) (Kd.R_base ho0) hb); have n3_ := Aside0.mk (Kd.V_elder' (by (with_reducible repeat (first | apply Kd.V_alloc | apply Kd.V_drewN | apply Kd.V_drew)); exact HL214_0.out) (Kd.R_base ho0) hb); have n4_ := Aside0.mk (Kd.R_lower (Kd.R_new' ho0 (Kd.R_lt (by (with_reducible repeat (first | apply Kd.R_alloc | apply Kd.R_drewN | apply Kd.R_drew)); exact HO_3.out))) (below_size (by repeat (first | (with_reducible first | exact HB.out | apply below_alloc | apply pw_below_drewN | apply below_drew1) | exact HB.out)))); have n5_ := Aside0.mk (Kd.C_below (by repeat (first | (with_reducible exact HR214_0.out) | (with_reducible refine Kd.C_alloc ?_ _) | (with_reducible refine Kd.C_drewN ?_ _) | (with_reducible refine Kd.C_drew ?_) | exact HR214_0.out)) hb); have n6_ := Aside0.mk (below_step (by repeat (first | (with_reducible first | exact HB.out | apply below_alloc | apply pw_below_drewN | apply below_drew1) | exact HB.out)) hb); clear HO_3; clear HO_5; clear HO_19; clear HL214_0; clear HR214_0; clear HB; have HO_3 := n0_; have HO_5 := n1_; have HO_19 := n2_; have HL214_0 := n3_; have HO219 := n4_; have HR214_0 := n5_; have HB := n6_; clear n0_ n1_ n2_ n3_ n4_ n5_ n6_; (try clear hb); (try clear hb2); (try clear hk); (try clear hi); (try clear ho0)))
                    go_roundg k1
                    case measure => have := HK1.out; omega
                    case rel => exact ⟨(t216), (wrap64 (x21_1 + 1)), (by first | rfl | (simp; done) | (simp [*]; done)), H', ⟨by have := HK1.out; omega⟩, ⟨by (with_reducible repeat (first | apply Kd.R_alloc | apply Kd.R_drewN | apply Kd.R_drew)); exact Kd.R_mono HO219.out (fun _ hk => trivial)⟩, ⟨by (with_reducible repeat (first | apply Kd.N_alloc | apply Kd.N_drewN | apply Kd.N_drew)); exact Kd.N_mono HO_5.out (fun _ hk => hk.2)⟩, ⟨by (with_reducible repeat (first | apply Kd.N_alloc | apply Kd.N_drewN | apply Kd.N_drew)); exact Kd.N_mono HO_19.out (fun _ hk => hk.2)⟩, ⟨by repeat (first | (with_reducible first | exact HB.out | apply below_alloc | apply pw_below_drewN | apply below_drew1) | exact HB.out)⟩⟩
                · replace c15 := Bool.eq_false_iff.mpr c15
                  subst c15
                  have H1 : (some false) = some r := by rw [if_neg (show ¬ (false = true) by decide)] at H; exact H
                  clear H
                  have H := H1
                  clear H1
                  obtain rfl := Option.some.inj H
                  have p214 : 0 ≤ (x21_1 : Int) := of_decide_eq_true (by first | (with_reducible assumption) | assumption)
                  have q214 : x21_1 < (t210.length : Int) := of_decide_eq_true (by first | (with_reducible assumption) | assumption)
                  obtain ⟨ad214, A214_0, c214_0, e214, hx214_0, hl214_0, hi214_0⟩ := at_L1 (Kd.N_reads' HO_19.out).2.2 x21_1 p214 q214
                  cases e214
                  obtain ⟨ce214, hce214, hMe214, hcc214⟩ := Kd.N_get HO_19.out [] x21_1 p214 (by first | exact q214 | exact of_decide_eq_true (by first | (with_reducible assumption) | assumption) | (have e_ := (Kd.N_reads' HO_19.out).1; omega))
                  obtain ⟨ua214_0, uc214_0, rfl, ul214_0, ge214_0⟩ := Kd.FK_slice_open hMe214
                  have hv214_0 := hcc214 0 _ rfl
                  rw [Nat.add_zero, show ((Kd.slice 3 (Kd.int .i64))).sz = 1 from rfl, Nat.mul_one] at hv214_0
                  replace hv214_0 := Option.some.inj (hv214_0.symm.trans hx214_0)
                  injection hv214_0 with hva_ hvn_ hvc_
                  rw [hva_] at ge214_0
                  rw [hvc_] at ul214_0
                  have HL214_0 := Aside0.mk (show Kd.V (Kd.int .i64) 3 _ w.heap.size _ _ (rd_L1 t210 x21_1) from Kd.V_mk ul214_0 ge214_0)
                  clear hva_ hvn_ hvc_ ge214_0 ul214_0
                  clear hcc214 hce214
                  have HR214_0 := Aside0.mk hi214_0
                  have HC214_0 := Aside0.mk hl214_0
                  clear hi214_0 hl214_0
                  replace p214 := eq_true p214
                  replace q214 := eq_true q214
                  obtain ⟨Ao22, co22, eo22⟩ := Kd.R_slice HO_3.out
                  subst eo22
                  go_wp2_with (first | ((with_reducible refine gate_callee (f := 9) rfl ?_); refine goesL_ (some 28) rfl rfl Try.func9 (by kernel_rfl) rfl #[.slice Ao22 x3_1.length co22, .slice A214_0 (rd_L1 t210 x21_1).length c214_0] rfl (by (try simp only [List.map_toArray, List.map_cons, List.map_nil]); first | done | rfl | (simp only [List.length_drop, List.length_take]; rfl)) ?_; (with_reducible refine (spec_Same.calls k1 _ _ x3_1 _ _ (rd_L1 t210 x21_1) false _ ?side1 ?side2 ?side3 ?side4 A14.out).mono ?_); (case side1 => repeat (first | exact (Kd.R_reads' HO_3.out).2.2 | (with_reducible refine Kd.C_alloc ?_ _) | (with_reducible refine Kd.C_drewN ?_ _) | (with_reducible refine Kd.C_drew ?_))); (case side2 => exact (Kd.R_reads' HO_3.out).2.1); (case side3 => repeat (first | exact (by repeat (first | (with_reducible exact HR214_0.out) | (with_reducible refine Kd.C_alloc ?_ _) | (with_reducible refine Kd.C_drewN ?_ _) | (with_reducible refine Kd.C_drew ?_) | exact HR214_0.out)) | (with_reducible refine Kd.C_alloc ?_ _) | (with_reducible refine Kd.C_drewN ?_ _) | (with_reducible refine Kd.C_drew ?_))); (case side4 => exact HC214_0.out); rintro e w' ⟨rfl, ⟨nd, rfl⟩⟩; refine ⟨_, rfl, ?_⟩))
                  go_ret
                  exact ⟨by first | rfl | (simp [errW_none, errW_some] <;> rfl) | (simp [*, errW_none, errW_some] <;> rfl), by repeat (first | (with_reducible first | exact HB.out | apply below_alloc | apply pw_below_drewN | apply below_drew1) | exact HB.out)⟩
              · rw [if_neg c13] at H
                exact absurd H (by simp)
            · rw [if_neg c12] at H
              exact absurd H (by simp)
          · rw [if_neg c11] at H
            have c11b0 : decide (x21_1 < (t210.length : Int)) = false := decide_eq_false c11
            clear c11
            replace H := Option.bind_eq_some_iff.mp H
            obtain ⟨t213, A230, H⟩ := H
            replace H : (some t213) = some r := H
            have A23 := Aside0.mk A230
            clear A230
            obtain rfl := Option.some.inj H
            go_wp2_with (first | ((with_reducible refine gate_callee (f := 6) rfl ?_); refine goesL_ (some 43) rfl rfl Try.func6 (by kernel_rfl) rfl #[] rfl (by (try simp only [List.map_toArray, List.map_cons, List.map_nil]); first | done | rfl | (simp only [List.length_drop, List.length_take]; rfl)) ?_; (with_reducible refine (laws_ordered.calls k1  t213 _ A23.out).mono ?_); rintro e w24 ⟨rfl, hb⟩; refine ⟨_, rfl, ?_⟩; have n0_ := Aside0.mk (Kd.R_below (by (with_reducible repeat (first | apply Kd.R_alloc | apply Kd.R_drewN | apply Kd.R_drew)); exact HO_3.out) hb); have n1_ := Aside0.mk (Kd.N_below (by (with_reducible repeat (first | apply Kd.N_alloc | apply Kd.N_drewN | apply Kd.N_drew)); exact HO_5.out) hb); have n2_ := Aside0.mk (Kd.N_below (by (with_reducible repeat (first | apply Kd.N_alloc | apply Kd.N_drewN | apply Kd.N_drew)); exact HO_19.out) hb); have n3_ := Aside0.mk (below_step (by repeat (first | (with_reducible first | exact HB.out | apply below_alloc | apply pw_below_drewN | apply below_drew1) | exact HB.out)) hb); clear HO_3; clear HO_5; clear HO_19; clear HB; have HO_3 := n0_; have HO_5 := n1_; have HO_19 := n2_; have HB := n3_; clear n0_ n1_ n2_ n3_; (try clear hb); (try clear hb2); (try clear hk); (try clear hi)))
            go_ret
            exact ⟨by first | rfl | (simp [errW_none, errW_some] <;> rfl) | (simp [*, errW_none, errW_some] <;> rfl), by repeat (first | (with_reducible first | exact HB.out | apply below_alloc | apply pw_below_drewN | apply below_drew1) | exact HB.out)⟩

/-- THE ONE PURE STATEMENT of laws_FnPermutationAll: yours. -/
def laws_FnPermutationAll.Pure : Prop := ∀ (l0 : List Int), l0.length ≤ maxLen → l0.length * 8 ≤ 140737488351232 → (∀ x ∈ l0, (Lit.int .i64 x).wf = true) → ∃ k, laws_FnPermutationAll.f k l0 = some true
theorem laws_FnPermutationAll.walk (P : laws_FnPermutationAll.Pure) (a0 : Option Addr) (len0 cap0 : Nat) (z0 : List Int) (w : World) (w0 : (a0 = none ∧ len0 = 0 ∧ cap0 = 0 ∧ z0 = []) ∨ ∃ x, a0 = some x ∧ len0 ≤ cap0 ∧ cap0 ≤ maxLen ∧ z0.length = cap0 ∧ (∀ i, i < z0.length → w.cell? (x.add i) = some (.int .i64 (z0.getD i 0))) ∧ ∀ n ∈ z0, (Lit.int .i64 n).wf = true) (y0 : len0 * 8 ≤ 140737488351232) :
    Calls Try.prog 3 #[.slice a0 len0 cap0] w fun e w' => e = .returned (.bool true) ∧ Below w.heap.size w w' := by
  obtain ⟨l0, rfl, hr0, hm0, hw0, hc0⟩ := ReadsInt.ofRowC w0
  obtain ⟨k, h⟩ := P l0 hm0 y0 hw0
  refine (laws_FnPermutationAll.calls k _ _ l0 true w (Kd.C_of_reads (d := (0 : Int)) (h1 := fun _ => rfl) hr0) hc0 h).mono ?_
  rintro e w' ⟨rfl, hd⟩
  exact ⟨rfl, hd⟩

end Go.Proofs.Ytpelipdecjooeaa.PFnPermutationAll
