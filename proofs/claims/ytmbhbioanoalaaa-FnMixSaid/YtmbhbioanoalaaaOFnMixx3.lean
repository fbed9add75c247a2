/- The functions that the law 'FnMix' reaches, each with its contract. -/
import Derived.Test.YtmbhbioanoalaaaOFnMixx2
namespace Go.Proofs.Ytmbhbioanoalaaa.PFnMix
open Go.RowKit Go.Proofs.YtmbhbioanoalaaaW.PrintWords Go.Proofs.YtmbhbioanoalaaaW.PrintLast Go.Proofs.YtmbhbioanoalaaaW.PrintMore
attribute [local go_sem] max2_int min2_int max_two min_two max_three min_three max_four min_four   -- for this text's walks alone
set_option linter.unusedVariables false
set_option linter.unusedSimpArgs false

/-! ### mathutil_ZZMix: function 41 -/
def mathutil_ZZMix.f (k : Nat) (l0 : List Int) (a1 : Int) : Option (List Int × Int) := (slices_Clone_int64_int64.f l0).bind fun t119 => (mathutil_mix.f k t119 a1)
theorem mathutil_ZZMix.mono : ∀ a0 a1 k, LeO (mathutil_ZZMix.f k a0 a1) (mathutil_ZZMix.f (k + 1) a0 a1) := by
  intro a0 a1 k
  unfold mathutil_ZZMix.f
  repeat' first
      | (with_reducible exact mathutil_mix.mono _ _ _)
      | (with_reducible exact LeO.refl _)
      | (with_reducible exact LeO.none _)
      | (with_reducible refine LeO.ite ?_ ?_)
      | (with_reducible refine LeO.bind ?_ (fun _ => ?_))
      | exact mathutil_mix.mono _ _ _
      | exact LeO.none _
      | refine LeO.ite ?_ ?_
      | refine LeO.bind ?_ (fun _ => ?_)
set_option maxHeartbeats 8000000 in
set_option maxRecDepth 100000 in
theorem mathutil_ZZMix.calls (k : Nat) (A0 : Option Addr) (c0 : Nat) (l0 : List Int) (a1 : Int) (r1 : List Int) (r2 : Int) (w : World) (hr0 : Kd.C (Kd.int .i64) w A0 l0.length l0) (hc0 : l0.length ≤ c0) (h : mathutil_ZZMix.f k l0 a1 = some (r1, r2)) :
    Calls Try.prog 41 #[.slice A0 l0.length c0, .int .u64 a1] w fun e w' => ∃ v0_ : Value, e = .returned (.tuple #[v0_, .int .u64 r2]) ∧ Kd.R (Kd.int .i64) 2 w' w.heap.size (fun _ => True) v0_ r1 ∧ Below w.heap.size w w' := by
  have HR0 := Aside0.mk hr0
  have HC0 := Aside0.mk hc0
  clear hr0 hc0
  have HB := Aside0.mk (Below.refl w.heap.size w)
  have H : ((slices_Clone_int64_int64.f l0).bind fun t119 => (mathutil_mix.f k t119 a1)) = some (r1, r2) := h
  clear h
  replace H := Option.bind_eq_some_iff.mp H
  obtain ⟨t119, A30, H⟩ := H
  have A3 := Aside0.mk A30
  clear A30
  have A4 := Aside0.mk (show mathutil_mix.f k t119 a1 = some (r1, r2) from H)
  clear H
  go_enter Try.func41, Try.ntmps41
  go_wp2_with (first | (go_at_call 46; (with_reducible refine (slices_Clone_int64_int64.calls _ _ l0 t119 _ ?side1 ?side2 A3.out).mono ?_); (case side1 => repeat (first | exact HR0.out | (with_reducible refine Kd.C_alloc ?_ _) | (with_reducible refine Kd.C_drewN ?_ _) | (with_reducible refine Kd.C_drew ?_))); (case side2 => exact HC0.out); rintro e w5 ⟨v120, rfl, ho0, hb⟩; obtain ⟨Ao6, co6, rfl⟩ := Kd.R_slice ho0; have hbx := Aside0.mk ((hb.block w.heap.size (Box.alloc_lt _ _)).trans (Box.alloc_at _ _)); have hPx := Aside0.mk (show ∀ k_, some k_ = (.slice Ao6 t119.length co6 : Value).ownBlock → k_ ≠ w.heap.size from fun k_ hk_ => Box.past (Kd.R_base ho0 k_ hk_.symm)); have hVx := Aside0.mk ho0; have hB5 := Aside0.mk ((below_alloc (Below.refl w.heap.size w) (.cells #[.int .u64 a1] 26 (0, 0))).trans (hb.mono (Nat.le_of_lt (Box.alloc_lt _ _)))); clear hb ho0) | (go_at_call 45; (with_reducible refine (mathutil_mix.calls k (fun k_ => some k_ = (.slice Ao6 t119.length co6 : Value).ownBlock) _ _ t119 a1 r1 r2 w.heap.size _ hbx hPx ?side1 A4.out).mono ?_); (case side1 => exact Kd.R_V (Kd.R_tight rfl hVx.out)); rintro e w7 ⟨v123, rfl, ho0, hb⟩; have hc7 := Box.box_cell (Box.box_in hbx.out (Box.box_lt hbx.out) hb); have hB7 := Aside0.mk (Below.trans (Below.trans hB5.out (Below.setCell (p := ⟨w.heap.size, 0, none⟩) (Below.refl w.heap.size _) (Nat.le_refl _) (.int .u64 r2))) (hb.mono hB5.out.size)); have hR7 := Aside0.mk (Kd.R_lower (Kd.R_mono (ok' := fun _ => True) ho0 (fun _ _ => trivial)) hB5.out.size); clear hb ho0))
  repeat (go_quiet (first | (go_at_call 46; (with_reducible refine (slices_Clone_int64_int64.calls _ _ l0 t119 _ ?side1 ?side2 A3.out).mono ?_); (case side1 => repeat (first | exact HR0.out | (with_reducible refine Kd.C_alloc ?_ _) | (with_reducible refine Kd.C_drewN ?_ _) | (with_reducible refine Kd.C_drew ?_))); (case side2 => exact HC0.out); rintro e w5 ⟨v120, rfl, ho0, hb⟩; obtain ⟨Ao6, co6, rfl⟩ := Kd.R_slice ho0; have hbx := Aside0.mk ((hb.block w.heap.size (Box.alloc_lt _ _)).trans (Box.alloc_at _ _)); have hPx := Aside0.mk (show ∀ k_, some k_ = (.slice Ao6 t119.length co6 : Value).ownBlock → k_ ≠ w.heap.size from fun k_ hk_ => Box.past (Kd.R_base ho0 k_ hk_.symm)); have hVx := Aside0.mk ho0; have hB5 := Aside0.mk ((below_alloc (Below.refl w.heap.size w) (.cells #[.int .u64 a1] 26 (0, 0))).trans (hb.mono (Nat.le_of_lt (Box.alloc_lt _ _)))); clear hb ho0) | (go_at_call 45; (with_reducible refine (mathutil_mix.calls k (fun k_ => some k_ = (.slice Ao6 t119.length co6 : Value).ownBlock) _ _ t119 a1 r1 r2 w.heap.size _ hbx hPx ?side1 A4.out).mono ?_); (case side1 => exact Kd.R_V (Kd.R_tight rfl hVx.out)); rintro e w7 ⟨v123, rfl, ho0, hb⟩; have hc7 := Box.box_cell (Box.box_in hbx.out (Box.box_lt hbx.out) hb); have hB7 := Aside0.mk (Below.trans (Below.trans hB5.out (Below.setCell (p := ⟨w.heap.size, 0, none⟩) (Below.refl w.heap.size _) (Nat.le_refl _) (.int .u64 r2))) (hb.mono hB5.out.size)); have hR7 := Aside0.mk (Kd.R_lower (Kd.R_mono (ok' := fun _ => True) ho0 (fun _ _ => trivial)) hB5.out.size); clear hb ho0)); try go_wp2_with (first | (go_at_call 46; (with_reducible refine (slices_Clone_int64_int64.calls _ _ l0 t119 _ ?side1 ?side2 A3.out).mono ?_); (case side1 => repeat (first | exact HR0.out | (with_reducible refine Kd.C_alloc ?_ _) | (with_reducible refine Kd.C_drewN ?_ _) | (with_reducible refine Kd.C_drew ?_))); (case side2 => exact HC0.out); rintro e w5 ⟨v120, rfl, ho0, hb⟩; obtain ⟨Ao6, co6, rfl⟩ := Kd.R_slice ho0; have hbx := Aside0.mk ((hb.block w.heap.size (Box.alloc_lt _ _)).trans (Box.alloc_at _ _)); have hPx := Aside0.mk (show ∀ k_, some k_ = (.slice Ao6 t119.length co6 : Value).ownBlock → k_ ≠ w.heap.size from fun k_ hk_ => Box.past (Kd.R_base ho0 k_ hk_.symm)); have hVx := Aside0.mk ho0; have hB5 := Aside0.mk ((below_alloc (Below.refl w.heap.size w) (.cells #[.int .u64 a1] 26 (0, 0))).trans (hb.mono (Nat.le_of_lt (Box.alloc_lt _ _)))); clear hb ho0) | (go_at_call 45; (with_reducible refine (mathutil_mix.calls k (fun k_ => some k_ = (.slice Ao6 t119.length co6 : Value).ownBlock) _ _ t119 a1 r1 r2 w.heap.size _ hbx hPx ?side1 A4.out).mono ?_); (case side1 => exact Kd.R_V (Kd.R_tight rfl hVx.out)); rintro e w7 ⟨v123, rfl, ho0, hb⟩; have hc7 := Box.box_cell (Box.box_in hbx.out (Box.box_lt hbx.out) hb); have hB7 := Aside0.mk (Below.trans (Below.trans hB5.out (Below.setCell (p := ⟨w.heap.size, 0, none⟩) (Below.refl w.heap.size _) (Nat.le_refl _) (.int .u64 r2))) (hb.mono hB5.out.size)); have hR7 := Aside0.mk (Kd.R_lower (Kd.R_mono (ok' := fun _ => True) ho0 (fun _ _ => trivial)) hB5.out.size); clear hb ho0)))
  go_ret2
  exact ⟨_, rfl, Kd.R_drewN hR7.out _, pw_below_drewN hB7.out _⟩

/-! ### impl_Mix: function 25 -/
def impl_Mix.f (k : Nat) (l0 : List Int) (a1 : Int) : Option (List Int × Int) := (some (([] : List Int) : List Int)).bind fun y125 => (if y125.length + l0.length < 17592186044416 then ((mathutil_ZZMix.f k (y125 ++ l0) a1).bind fun bt131 => ((some (([] : List Int) : List Int)).bind fun y135 => (if y135.length + bt131.1.length < 17592186044416 then (some ((y135 ++ bt131.1), bt131.2)) else (none)))) else (none))
theorem impl_Mix.mono : ∀ a0 a1 k, LeO (impl_Mix.f k a0 a1) (impl_Mix.f (k + 1) a0 a1) := by
  intro a0 a1 k
  unfold impl_Mix.f
  repeat' first
      | (with_reducible exact mathutil_ZZMix.mono _ _ _)
      | (with_reducible exact LeO.refl _)
      | (with_reducible exact LeO.none _)
      | (with_reducible refine LeO.ite ?_ ?_)
      | (with_reducible refine LeO.bind ?_ (fun _ => ?_))
      | exact mathutil_ZZMix.mono _ _ _
      | exact LeO.none _
      | refine LeO.ite ?_ ?_
      | refine LeO.bind ?_ (fun _ => ?_)
set_option maxHeartbeats 8000000 in
set_option maxRecDepth 100000 in
theorem impl_Mix.calls (k : Nat) (A0 : Option Addr) (c0 : Nat) (l0 : List Int) (a1 : Int) (r1 : List Int) (r2 : Int) (w : World) (hr0 : Kd.C (Kd.int .i64) w A0 l0.length l0) (hc0 : l0.length ≤ c0) (h : impl_Mix.f k l0 a1 = some (r1, r2)) :
    Calls Try.prog 25 #[.slice A0 l0.length c0, .int .u64 a1] w fun e w' => ∃ v0_ : Value, e = .returned (.tuple #[v0_, .int .u64 r2]) ∧ Kd.R (Kd.int .i64) 2 w' w.heap.size (fun _ => True) v0_ r1 ∧ Below w.heap.size w w' := by
  have HR0 := Aside0.mk hr0
  have HC0 := Aside0.mk hc0
  clear hr0 hc0
  have HB := Aside0.mk (Below.refl w.heap.size w)
  have H : ((some (([] : List Int) : List Int)).bind fun y125 => (if y125.length + l0.length < 17592186044416 then ((mathutil_ZZMix.f k (y125 ++ l0) a1).bind fun bt131 => ((some (([] : List Int) : List Int)).bind fun y135 => (if y135.length + bt131.1.length < 17592186044416 then (some ((y135 ++ bt131.1), bt131.2)) else (none)))) else (none))) = some (r1, r2) := h
  clear h
  obtain ⟨y125, hy125⟩ : ∃ y_ : List Int, y_ = (([] : List Int)) := ⟨_, rfl⟩
  replace H : (if y125.length + l0.length < 17592186044416 then ((mathutil_ZZMix.f k (y125 ++ l0) a1).bind fun bt131 => ((some (([] : List Int) : List Int)).bind fun y135 => (if y135.length + bt131.1.length < 17592186044416 then (some ((y135 ++ bt131.1), bt131.2)) else (none)))) else (none)) = some (r1, r2) := by first | (rw [hy125]; with_reducible exact H) | (have H2_ := (Option.bind_some _ _).symm.trans H; rw [hy125]; with_reducible exact H2_) | (have H2_ := (Option.bind_some _ _).symm.trans H; with_reducible exact H2_) | with_reducible exact H | (rw [hy125]; exact H) | exact H
  have Ny125 := Aside0.mk hy125
  clear hy125
  by_cases c3 : y125.length + l0.length < 17592186044416
  · rw [if_pos c3] at H
    have LMc3 := Aside0.mk c3
    clear c3
    obtain ⟨y128, hy128⟩ : ∃ y_ : List Int, y_ = (y125 ++ l0) := ⟨_, rfl⟩
    replace H : ((mathutil_ZZMix.f k y128 a1).bind fun bt131 => ((some (([] : List Int) : List Int)).bind fun y135 => (if y135.length + bt131.1.length < 17592186044416 then (some ((y135 ++ bt131.1), bt131.2)) else (none)))) = some (r1, r2) := by first | (rw [hy128]; with_reducible exact H) | (have H2_ := (Option.bind_some _ _).symm.trans H; rw [hy128]; with_reducible exact H2_) | (have H2_ := (Option.bind_some _ _).symm.trans H; with_reducible exact H2_) | with_reducible exact H | (rw [hy128]; exact H) | exact H
    have Ny128 := Aside0.mk hy128
    clear hy128
    replace H := Option.bind_eq_some_iff.mp H
    obtain ⟨⟨t131, t132⟩, A40, H⟩ := H
    replace H : ((some (([] : List Int) : List Int)).bind fun y135 => (if y135.length + t131.length < 17592186044416 then (some ((y135 ++ t131), t132)) else (none))) = some (r1, r2) := H
    have A4 := Aside0.mk A40
    clear A40
    obtain ⟨y135, hy135⟩ : ∃ y_ : List Int, y_ = (([] : List Int)) := ⟨_, rfl⟩
    replace H : (if y135.length + t131.length < 17592186044416 then (some ((y135 ++ t131), t132)) else (none)) = some (r1, r2) := by first | (rw [hy135]; with_reducible exact H) | (have H2_ := (Option.bind_some _ _).symm.trans H; rw [hy135]; with_reducible exact H2_) | (have H2_ := (Option.bind_some _ _).symm.trans H; with_reducible exact H2_) | with_reducible exact H | (rw [hy135]; exact H) | exact H
    have Ny135 := Aside0.mk hy135
    clear hy135
    by_cases c5 : y135.length + t131.length < 17592186044416
    · rw [if_pos c5] at H
      have LMc5 := Aside0.mk c5
      clear c5
      obtain ⟨y138, hy138⟩ : ∃ y_ : List Int, y_ = (y135 ++ t131) := ⟨_, rfl⟩
      replace H : (some (y138, t132)) = some (r1, r2) := by first | (rw [hy138]; with_reducible exact H) | (have H2_ := (Option.bind_some _ _).symm.trans H; rw [hy138]; with_reducible exact H2_) | (have H2_ := (Option.bind_some _ _).symm.trans H; with_reducible exact H2_) | with_reducible exact H | (rw [hy138]; exact H) | exact H
      have Ny138 := Aside0.mk hy138
      clear hy138
      simp only [Option.some.injEq, Prod.mk.injEq] at H
      obtain ⟨rfl, rfl⟩ := H
      go_enter Try.func25, Try.ntmps25
      go_wp2_with (first | ((with_reducible refine gate_dst (N := 9) rfl ?_); refine Kd.R_lit (Kd.int .i64) _ 2 ?hg (N := 9) ?hd (xs := ([] : List Int)) (inner := []) (ok := fun _ => True) (okp := fun _ => True) ?hr ?hp (fun _ hk => hk) trivial (Below.refl _ _) (Nat.le_refl _) (by simp) ?_; (case hd => rfl); (case hg => rfl); (case hr => first | (go_simp; done) | (go_simp; rfl)); (case hp => exact (Reps.none _ _)); intro v126 w6 ho7 hb hg_ hnew_; clear hg_ hnew_; (first | rw [← Ny125.out] at ho7 | (simp only [Int.reduceToNat] at ho7; rw [← Ny125.out] at ho7)); have n0_ := Aside0.mk (Kd.R_lower ho7 (below_size (by repeat (first | (with_reducible first | exact HB.out | apply below_alloc | apply pw_below_drewN | apply below_drew1) | exact HB.out)))); have n1_ := Aside0.mk (below_step (by repeat (first | (with_reducible first | exact HB.out | apply below_alloc | apply pw_below_drewN | apply below_drew1) | exact HB.out)) hb); clear HB; have HO127 := n0_; have HB := n1_; clear n0_ n1_; clear hb ho7) | ((with_reducible refine gate_builtin (b := .append) (xs := #[.tmp 9, .tmp 10]) rfl ?_); at_builtin; refine Kd.R_append_rows (Kd.int .i64) (w0 := w) w.heap.size rfl (.tmp 9) (.tmp 10) 22 2 (.int .i64 0) 8 rfl Try.underlying22 info2 rfl (by decide) (by omega) v126 y125 l0 _ _ _ (fun _ => True) (fun _ => False) rfl rfl ?aO ?aR (fun _ _ h => h) (fun _ h => h.elim) ?aF ?aB ?aS ?aL ?_; (case aR => repeat (first | exact (Kd.C_below HR0.out HB.out) | (with_reducible refine Kd.C_alloc ?_ _) | (with_reducible refine Kd.C_drewN ?_ _) | (with_reducible refine Kd.C_drew ?_))); (case aB => exact (by repeat (first | (with_reducible first | exact HB.out | apply below_alloc | apply pw_below_drewN | apply below_drew1) | exact HB.out))); (case aF => exact (fun _ _ => trivial)); (case aO => exact (by (with_reducible repeat (first | apply Kd.R_alloc | apply Kd.R_drewN | apply Kd.R_drew)); exact HO127.out)); (case aS => exact (below_size (by repeat (first | (with_reducible first | exact HB.out | apply below_alloc | apply pw_below_drewN | apply below_drew1) | exact HB.out)))); (case aL => have := LMc3.out; omega); intro v129 w8 ho hb hg hat; rw [← Ny128.out] at ho; have n0_ := Aside0.mk (hb); have n1_ := Aside0.mk (ho); clear HB; clear HO127; have HB := n0_; have HO130 := n1_; clear n0_ n1_; clear ho hb hg hat; obtain ⟨Ao9, co9, eo9⟩ := Kd.R_slice HO130.out; subst eo9) | ((with_reducible refine gate_callee (f := 41) rfl ?_); refine goesL_ (some 13) rfl rfl Try.func41 (by kernel_rfl) rfl #[.slice Ao9 y128.length co9, .int .u64 a1] rfl (by (try simp only [List.map_toArray, List.map_cons, List.map_nil]); first | done | rfl | (simp only [List.length_drop, List.length_take]; rfl)) ?_; (with_reducible refine (mathutil_ZZMix.calls k _ _ y128 a1 t131 t132 _ ?side1 ?side2 A4.out).mono ?_); (case side1 => repeat (first | exact (Kd.R_reads' HO130.out).2.2 | (with_reducible refine Kd.C_alloc ?_ _) | (with_reducible refine Kd.C_drewN ?_ _) | (with_reducible refine Kd.C_drew ?_))); (case side2 => exact (Kd.R_reads' HO130.out).2.1); rintro e w10 ⟨v133, rfl, ho0, hb⟩; refine ⟨_, rfl, ?_⟩; have n0_ := Aside0.mk (Kd.R_elder' (by (with_reducible repeat (first | apply Kd.R_alloc | apply Kd.R_drewN | apply Kd.R_drew)); exact HO130.out) (Kd.R_base ho0) hb); have n1_ := Aside0.mk (Kd.R_lower (Kd.R_new' ho0 (Kd.R_lt (by (with_reducible repeat (first | apply Kd.R_alloc | apply Kd.R_drewN | apply Kd.R_drew)); exact HO130.out))) (below_size (by repeat (first | (with_reducible first | exact HB.out | apply below_alloc | apply pw_below_drewN | apply below_drew1) | exact HB.out)))); have n2_ := Aside0.mk (below_step (by repeat (first | (with_reducible first | exact HB.out | apply below_alloc | apply pw_below_drewN | apply below_drew1) | exact HB.out)) hb); clear HO130; clear HB; have HO130 := n0_; have HO134 := n1_; have HB := n2_; clear n0_ n1_ n2_; (try clear hb); (try clear hb2); (try clear hk); (try clear hi); (try clear ho0)) | ((with_reducible refine gate_dst (N := 16) rfl ?_); refine Kd.R_lit (Kd.int .i64) _ 2 ?hg (N := 16) ?hd (xs := ([] : List Int)) (inner := []) (ok := fun _ => True) (okp := fun _ => True) ?hr ?hp (fun _ hk => hk) trivial (Below.refl _ _) (Nat.le_refl _) (by simp) ?_; (case hd => rfl); (case hg => rfl); (case hr => first | (go_simp; done) | (go_simp; rfl)); (case hp => exact (Reps.none _ _)); intro v136 w11 ho12 hb hg_ hnew_; clear hg_ hnew_; (first | rw [← Ny135.out] at ho12 | (simp only [Int.reduceToNat] at ho12; rw [← Ny135.out] at ho12)); have n0_ := Aside0.mk (Kd.R_elder' (by (with_reducible repeat (first | apply Kd.R_alloc | apply Kd.R_drewN | apply Kd.R_drew)); exact HO130.out) (Kd.R_base ho12) hb); have n1_ := Aside0.mk (Kd.R_elder' (by (with_reducible repeat (first | apply Kd.R_alloc | apply Kd.R_drewN | apply Kd.R_drew)); exact HO134.out) (Kd.R_base ho12) hb); have n2_ := Aside0.mk (Kd.R_lower (Kd.R_new' (Kd.R_new' ho12 (Kd.R_lt (by (with_reducible repeat (first | apply Kd.R_alloc | apply Kd.R_drewN | apply Kd.R_drew)); exact HO130.out))) (Kd.R_lt (by (with_reducible repeat (first | apply Kd.R_alloc | apply Kd.R_drewN | apply Kd.R_drew)); exact HO134.out))) (below_size (by repeat (first | (with_reducible first | exact HB.out | apply below_alloc | apply pw_below_drewN | apply below_drew1) | exact HB.out)))); have n3_ := Aside0.mk (below_step (by repeat (first | (with_reducible first | exact HB.out | apply below_alloc | apply pw_below_drewN | apply below_drew1) | exact HB.out)) hb); clear HO130; clear HO134; clear HB; have HO130 := n0_; have HO134 := n1_; have HO137 := n2_; have HB := n3_; clear n0_ n1_ n2_ n3_; clear hb ho12; obtain ⟨Ao14, co14, eo14⟩ := Kd.R_slice HO134.out; subst eo14) | ((with_reducible refine gate_builtin (b := .append) (xs := #[.tmp 16, .tmp 17]) rfl ?_); at_builtin; refine Kd.R_append_rows (Kd.int .i64) (w0 := w) w.heap.size rfl (.tmp 16) (.tmp 17) 22 2 (.int .i64 0) 8 rfl Try.underlying22 info2 rfl (by decide) (by omega) v136 y135 t131 _ _ _ (fun k_ => some k_ ≠ (.slice Ao9 y128.length co9 : Value).ownBlock ∧ some k_ ≠ (.slice Ao14 t131.length co14 : Value).ownBlock) (fun _ => False) rfl rfl ?aO ?aR (fun _ _ h => h) (fun _ h => h.elim) ?aF ?aB ?aS ?aL ?_; (case aR => repeat (first | exact (Kd.R_reads' HO134.out).2.2 | (with_reducible refine Kd.C_alloc ?_ _) | (with_reducible refine Kd.C_drewN ?_ _) | (with_reducible refine Kd.C_drew ?_))); (case aB => exact (by repeat (first | (with_reducible first | exact HB.out | apply below_alloc | apply pw_below_drewN | apply below_drew1) | exact HB.out))); (case aF => exact (fun k_ hk => ⟨Kd.fresh' (Kd.R_lt (by (with_reducible repeat (first | apply Kd.R_alloc | apply Kd.R_drewN | apply Kd.R_drew)); exact HO130.out)) k_ hk, Kd.fresh' (Kd.R_lt (by (with_reducible repeat (first | apply Kd.R_alloc | apply Kd.R_drewN | apply Kd.R_drew)); exact HO134.out)) k_ hk⟩)); (case aO => exact (by (with_reducible repeat (first | apply Kd.R_alloc | apply Kd.R_drewN | apply Kd.R_drew)); exact Kd.R_mono HO137.out (fun _ hk => ⟨hk.1.2, hk.2⟩))); (case aS => exact (below_size (by repeat (first | (with_reducible first | exact HB.out | apply below_alloc | apply pw_below_drewN | apply below_drew1) | exact HB.out)))); (case aL => have := LMc5.out; omega); intro v139 w13 ho hb hg hat; rw [← Ny138.out] at ho; have n0_ := Aside0.mk (Kd.R_after (ok := (fun k_ => some k_ ≠ (.slice Ao14 t131.length co14 : Value).ownBlock)) (by (with_reducible repeat (first | apply Kd.R_alloc | apply Kd.R_drewN | apply Kd.R_drew)); exact Kd.R_mono HO130.out (fun _ hk => ⟨hk.1.2, hk.2⟩)) hg hat); have n1_ := Aside0.mk (Kd.R_after (ok := (fun k_ => some k_ ≠ (.slice Ao9 y128.length co9 : Value).ownBlock)) (by (with_reducible repeat (first | apply Kd.R_alloc | apply Kd.R_drewN | apply Kd.R_drew)); exact Kd.R_mono HO134.out (fun _ hk => ⟨hk.1.2, hk.2⟩)) hg hat); have n2_ := Aside0.mk (hb); have n3_ := Aside0.mk (ho); clear HO130; clear HO134; clear HB; clear HO137; have HO130 := n0_; have HO134 := n1_; have HB := n2_; have HO140 := n3_; clear n0_ n1_ n2_ n3_; clear ho hb hg hat))
      go_ret2
      exact ⟨_, by first | rfl | (simp [errW_none, errW_some] <;> rfl) | (simp [*, errW_none, errW_some] <;> rfl), by (with_reducible repeat (first | apply Kd.R_alloc | apply Kd.R_drewN | apply Kd.R_drew)); exact Kd.R_mono HO140.out (fun _ hk => trivial), by repeat (first | (with_reducible first | exact HB.out | apply below_alloc | apply pw_below_drewN | apply below_drew1) | exact HB.out)⟩
    · rw [if_neg c5] at H
      exact absurd H (by simp)
  · rw [if_neg c3] at H
    exact absurd H (by simp)

end Go.Proofs.Ytmbhbioanoalaaa.PFnMix
