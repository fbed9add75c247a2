/- The functions that the law 'FnMix' reaches, each with its contract. -/
import Derived.Test.YtmbhbioanoalaaaOFnMixx1
import Derived.Test.YtmbhbioanoalaaaBox
namespace Go.Proofs.Ytmbhbioanoalaaa.PFnMix
open Go.RowKit Go.Proofs.YtmbhbioanoalaaaW.PrintWords Go.Proofs.YtmbhbioanoalaaaW.PrintLast Go.Proofs.YtmbhbioanoalaaaW.PrintMore
attribute [local go_sem] max2_int min2_int max_two min_two max_three min_three max_four min_four   -- for this text's walks alone
set_option linter.unusedVariables false
set_option linter.unusedSimpArgs false

/-! ### mathutil_mix: function 45 -/
def mathutil_mix.l0 : Nat → List Int → Int → List Int → Option (List Int × Int)
  | 0, _, _, _ => none
  | k + 1, x0, x1, x4 => if (x0.length : Int) = 0 then (some (x4, x1)) else ((mathutil_rol.f x1).bind fun t105 => (if (IntKind.u64.wrap ((x0.length : Int))) = 0 then (none) else (if 0 ≤ (wrap64 (Int.tmod t105 (IntKind.u64.wrap ((x0.length : Int))))) then (if (wrap64 (Int.tmod t105 (IntKind.u64.wrap ((x0.length : Int))))) < (x0.length : Int) then (if x4.length < 17592186044416 then ((mathutil_delete.f k x0 (wrap64 (Int.tmod t105 (IntKind.u64.wrap ((x0.length : Int)))))).bind fun t110 => (mathutil_mix.l0 k t110 t105 (x4 ++ [rd x0 (wrap64 (Int.tmod t105 (IntKind.u64.wrap ((x0.length : Int)))))]))) else (none)) else (none)) else (none))))
def mathutil_mix.f (k : Nat) (l0 : List Int) (a1 : Int) : Option (List Int × Int) := mathutil_mix.l0 k l0 a1 ([] : List Int)
theorem mathutil_mix.mono_l : ∀ k, (∀ y0 y1 y2, LeO (mathutil_mix.l0 k y0 y1 y2) (mathutil_mix.l0 (k + 1) y0 y1 y2))
  | 0 => fun _ _ _ r h => by simp [mathutil_mix.l0] at h
  | k + 1 => by
    have ih0 := mathutil_mix.mono_l k
    · intro y0 y1 y2
      unfold mathutil_mix.l0
      repeat' first
      | (with_reducible exact ih0 _ _ _)
      | (with_reducible exact mathutil_delete.mono _ _ _)
      | (with_reducible exact LeO.refl _)
      | (with_reducible exact LeO.none _)
      | (with_reducible refine LeO.ite ?_ ?_)
      | (with_reducible refine LeO.bind ?_ (fun _ => ?_))
      | exact ih0 _ _ _
      | exact mathutil_delete.mono _ _ _
      | exact LeO.none _
      | refine LeO.ite ?_ ?_
      | refine LeO.bind ?_ (fun _ => ?_)
theorem mathutil_mix.mono : ∀ a0 a1 k, LeO (mathutil_mix.f k a0 a1) (mathutil_mix.f (k + 1) a0 a1) := by
  intro a0 a1 k
  have ih0 := mathutil_mix.mono_l k
  unfold mathutil_mix.f
  repeat' first
      | (with_reducible exact ih0 _ _ _)
      | (with_reducible exact mathutil_delete.mono _ _ _)
      | (with_reducible exact LeO.refl _)
      | (with_reducible exact LeO.none _)
      | (with_reducible refine LeO.ite ?_ ?_)
      | (with_reducible refine LeO.bind ?_ (fun _ => ?_))
      | exact ih0 _ _ _
      | exact mathutil_delete.mono _ _ _
      | exact LeO.none _
      | refine LeO.ite ?_ ?_
      | refine LeO.bind ?_ (fun _ => ?_)
set_option maxHeartbeats 8000000 in
set_option maxRecDepth 100000 in
theorem mathutil_mix.calls (k : Nat) (P0_ : Nat → Prop) (A0 : Option Addr) (c0 : Nat) (l0 : List Int) (a1 : Int) (r : List Int) (r2 : Int) (g : Nat) (w : World) (hbox : Aside0 (w.heap[g]? = some (.cells #[.int .u64 a1] 26 (0, 0)))) (hP : Aside0 (∀ k_, P0_ k_ → k_ ≠ g)) (hs0 : Kd.V (Kd.int .i64) 2 w w.heap.size (fun k_ => P0_ k_) (.slice A0 l0.length c0) l0) (h : mathutil_mix.f k l0 a1 = some (r, r2)) :
    Calls Try.prog 45 #[.slice A0 l0.length c0, .pointer (some ⟨g, 0, none⟩)] w fun e w' => ∃ v0_ : Value, e = .returned (v0_) ∧ Kd.R (Kd.int .i64) 2 w' w.heap.size (fun k_ => (w.heap.size ≤ k_)) v0_ r ∧ Below w.heap.size (w.setCell ⟨g, 0, none⟩ (.int .u64 r2)) w' := by
  have HO0 := Aside0.mk (show Kd.V (Kd.int .i64) 2 w w.heap.size (fun k_ => (P0_ k_ ∨ w.heap.size ≤ k_)) (.slice A0 l0.length c0) l0 from Kd.V_mono hs0 (fun k_ hk => .inl hk))
  have HB := Aside0.mk (Box.box_back hbox.out w.heap.size)
  have hlt := Aside0.mk (Box.box_lt hbox.out)
  have H : (mathutil_mix.l0 k l0 a1 ([] : List Int)) = some (r, r2) := h
  clear h
  have H' := Aside0.mk H
  clear H
  go_enter Try.func45, Try.ntmps45
  go_wp2
  go_loopg [0, 4] k (fun kq v0 v4 w' => ∃ (x0_1 : List Int) (x1_1 : Int) (x4_1 : List Int), Aside0 (mathutil_mix.l0 kq x0_1 x1_1 x4_1 = some (r, r2)) ∧ Aside0 (kq ≤ k) ∧ Aside0 (Kd.V (Kd.int .i64) 2 w' w.heap.size (fun k_ => (P0_ k_ ∨ w.heap.size ≤ k_) ∧ some k_ ≠ (v4 : Value).ownBlock) v0 x0_1) ∧ Aside0 (Kd.R (Kd.int .i64) 2 w' w.heap.size (fun k_ => (w.heap.size ≤ k_)) v4 x4_1) ∧ Aside0 (Below w.heap.size (w.setCell ⟨g, 0, none⟩ (.int .u64 x1_1)) w'))
  case atStart => exact ⟨(l0), (a1), (([] : List Int)), H', ⟨Nat.le_refl _⟩, ⟨by (with_reducible repeat (first | apply Kd.V_alloc | apply Kd.V_drewN | apply Kd.V_drew)); exact Kd.V_mono HO0.out (fun _ hk => ⟨hk, (by simp [Value.ownBlock])⟩)⟩, ⟨by first | exact Kd.R_nil _ _ _ _ _ | exact Kd.N_nil _ _ _ _ _ | exact Kd.V_nil _ _ _ _ _ | exact Kd.Q_nil _ _ _ _ _ | exact Kd.S_nil _ _ _ _ _⟩, ⟨by repeat (first | (with_reducible first | exact HB.out | apply Box.al | apply pw_below_drewN | apply below_drew1) | exact HB.out)⟩⟩
  case round =>
    clear H'
    try clear p2
    obtain ⟨x0_1, x1_1, x4_1, HA, HK1, HO_0, HO_4, HB⟩ := hrel
    cases gk with
    | zero => exact absurd HA.out (by simp [mathutil_mix.l0])
    | succ k1 =>
      have H := HA.out
      clear HA
      simp only [mathutil_mix.l0] at H
      by_cases c3 : (x0_1.length : Int) = 0
      · rw [if_pos c3] at H
        have c3b0 : ((x0_1.length : Int) == 0) = true := beq_iff_eq.mpr c3
        have c3b1 : ((x0_1.length : Int) != 0) = false := bne_eq_false_iff_eq.mpr c3
        clear c3
        simp only [Option.some.injEq, Prod.mk.injEq] at H
        obtain ⟨rfl, rfl⟩ := H
        obtain ⟨Ao4, co4, eo4⟩ := Kd.V_slice HO_0.out
        subst eo4
        go_wp2
        go_ret
        exact ⟨_, by first | rfl | (simp [errW_none, errW_some] <;> rfl) | (simp [*, errW_none, errW_some] <;> rfl), by (with_reducible repeat (first | apply Kd.R_alloc | apply Kd.R_drewN | apply Kd.R_drew)); exact HO_4.out, by repeat (first | (with_reducible first | exact HB.out | apply Box.al | apply pw_below_drewN | apply below_drew1) | exact HB.out)⟩
      · rw [if_neg c3] at H
        have c3b0 : ((x0_1.length : Int) == 0) = false := beq_eq_false_iff_ne.mpr c3
        have c3b1 : ((x0_1.length : Int) != 0) = true := bne_iff_ne.mpr c3
        have c3b2 : ¬ (x0_1 = []) := fun h_ => c3 (by rw [h_]; rfl)
        replace H := Option.bind_eq_some_iff.mp H
        obtain ⟨t105, A50, H⟩ := H
        replace H : (if (IntKind.u64.wrap ((x0_1.length : Int))) = 0 then (none) else (if 0 ≤ (wrap64 (Int.tmod t105 (IntKind.u64.wrap ((x0_1.length : Int))))) then (if (wrap64 (Int.tmod t105 (IntKind.u64.wrap ((x0_1.length : Int))))) < (x0_1.length : Int) then (if x4_1.length < 17592186044416 then ((mathutil_delete.f k1 x0_1 (wrap64 (Int.tmod t105 (IntKind.u64.wrap ((x0_1.length : Int)))))).bind fun t110 => (mathutil_mix.l0 k1 t110 t105 (x4_1 ++ [rd x0_1 (wrap64 (Int.tmod t105 (IntKind.u64.wrap ((x0_1.length : Int)))))]))) else (none)) else (none)) else (none))) = some (r, r2) := H
        have A5 := Aside0.mk A50
        clear A50
        by_cases c6 : (IntKind.u64.wrap ((x0_1.length : Int))) = 0
        · rw [if_pos c6] at H
          exact absurd H (by simp)
        · rw [if_neg c6] at H
          have c6b0 : ((IntKind.u64.wrap ((x0_1.length : Int))) == 0) = false := beq_eq_false_iff_ne.mpr c6
          have c6b1 : ((IntKind.u64.wrap ((x0_1.length : Int))) != 0) = true := bne_iff_ne.mpr c6
          obtain ⟨ji7, hji7⟩ : ∃ j_ : Int, (wrap64 (Int.tmod t105 (IntKind.u64.wrap ((x0_1.length : Int))))) = j_ := ⟨_, rfl⟩
          replace H : (if 0 ≤ (ji7) then (if (ji7) < (x0_1.length : Int) then (if x4_1.length < 17592186044416 then ((mathutil_delete.f k1 x0_1 (ji7)).bind fun t110 => (mathutil_mix.l0 k1 t110 t105 (x4_1 ++ [rd x0_1 (ji7)]))) else (none)) else (none)) else (none)) = some (r, r2) := by first | (rw [hji7] at H; exact H) | (simp only [hji7] at H ⊢; exact H)
          (try rw [hji7] at A5)
          have hji7w : (IntKind.i64.wrap (Int.tmod t105 (IntKind.u64.wrap ((x0_1.length : Int))))) = ji7 := (i64_w _).trans hji7
          by_cases c8 : 0 ≤ (ji7)
          · rw [if_pos c8] at H
            have c8b0 : decide (0 ≤ (ji7)) = true := decide_eq_true c8
            clear c8
            by_cases c9 : (ji7) < (x0_1.length : Int)
            · rw [if_pos c9] at H
              have c9b0 : decide ((ji7) < (x0_1.length : Int)) = true := decide_eq_true c9
              clear c9
              by_cases c10 : x4_1.length < 17592186044416
              · rw [if_pos c10] at H
                have LMc10 := Aside0.mk c10
                clear c10
                obtain ⟨y107, hy107⟩ : ∃ y_ : List Int, y_ = (x4_1 ++ [rd x0_1 (ji7)]) := ⟨_, rfl⟩
                replace H : ((mathutil_delete.f k1 x0_1 (ji7)).bind fun t110 => (mathutil_mix.l0 k1 t110 t105 y107)) = some (r, r2) := by first | (rw [hy107]; with_reducible exact H) | (have H2_ := (Option.bind_some _ _).symm.trans H; rw [hy107]; with_reducible exact H2_) | (have H2_ := (Option.bind_some _ _).symm.trans H; with_reducible exact H2_) | with_reducible exact H | (rw [hy107]; exact H) | exact H
                have Ny107 := Aside0.mk hy107
                clear hy107
                replace H := Option.bind_eq_some_iff.mp H
                obtain ⟨t110, A110, H⟩ := H
                replace H : (mathutil_mix.l0 k1 t110 t105 y107) = some (r, r2) := H
                have A11 := Aside0.mk A110
                clear A110
                have H' := Aside0.mk H
                clear H
                obtain ⟨Ao12, co12, eo12⟩ := Kd.V_slice HO_0.out
                subst eo12
                have hx0 := Box.box_cell (Box.box_in hbox.out hlt.out HB.out)
                have hz0 := Box.box_free (Box.box_in hbox.out hlt.out HB.out)
                go_wp2_with (first | ((with_reducible refine gate_callee (f := 47) rfl ?_); refine goesL_ (some 13) rfl rfl Try.func47 (by kernel_rfl) rfl #[.int .u64 x1_1] rfl (by (try simp only [List.map_toArray, List.map_cons, List.map_nil]); first | done | rfl | (simp only [List.length_drop, List.length_take]; rfl)) ?_; (with_reducible refine (mathutil_rol.calls x1_1 t105 _ A5.out).mono ?_); rintro e w' ⟨rfl, ⟨nd, rfl⟩⟩; refine ⟨_, rfl, ?_⟩; have nB_ := Aside0.mk (Box.box_store hbox.out hlt.out (pw_below_drewN HB.out nd) (.int .u64 t105)); have nV_ := Aside0.mk (Kd.V_far (p := ⟨g, 0, none⟩) (Kd.V_drewN HO_0.out nd) (fun k_ hk_ => hk_.1.elim (hP.out k_) (fun h_ => by have := hlt.out; show k_ ≠ g; omega)) (.int .u64 t105)); have nR_ := Aside0.mk (Kd.R_far (p := ⟨g, 0, none⟩) (Kd.R_drewN HO_4.out nd) (fun k_ hk_ => by have := hlt.out; show k_ ≠ g; omega) (.int .u64 t105)); have hx1 := Box.box_cell (Box.box_in hbox.out hlt.out nB_.out); have hx2 := Box.box_cell (Box.box_in hbox.out hlt.out (pw_below_drewN HB.out nd)); have hz2 := Box.box_free (Box.box_in hbox.out hlt.out (pw_below_drewN HB.out nd)); clear HO_0 HO_4 HB; have HO_0 := nV_; have HO_4 := nR_; have HB := nB_; clear nV_ nR_ nB_; have p106 : 0 ≤ ((ji7) : Int) := of_decide_eq_true (by first | (with_reducible assumption) | assumption); have q106 : (ji7) < (x0_1.length : Int) := of_decide_eq_true (by first | (with_reducible assumption) | assumption); obtain ⟨ad106, e106, hx106_0⟩ := Kd.at_int (Kd.V_reads' HO_0.out).2.2 (ji7) p106 q106; cases e106; replace p106 := eq_true p106; replace q106 := eq_true q106) | ((with_reducible refine gate_builtin (b := .append) (xs := #[.tmp 23, .tmp 28]) rfl ?_); at_builtin; rw [show wr.heap.size = ((wr.drewN nd).setCell ⟨g, 0, none⟩ (.int .u64 t105)).heap.size from (Box.size_set _ _ _).symm]; refine Kd.R_append (Kd.int .i64) (w0 := w.setCell ⟨g, 0, none⟩ (.int .u64 t105)) w.heap.size rfl (.tmp 23) (.tmp 28) 22 2 (.int .i64 0) 8 rfl Try.underlying22 info2 rfl (by decide) (by omega) u4 x4_1 (rd x0_1 (ji7)) [.int .i64 (rd x0_1 (ji7))] (fun k_ => (w.heap.size ≤ k_)) (fun _ => False) rfl rfl ?aP (fun _ hk => hk.elim) ?aF ?aO ?aB ?aS ?aL ?_; (case aP => exact rfl); (case aB => exact (by repeat (first | (with_reducible first | exact HB.out | apply Box.al | apply pw_below_drewN | apply below_drew1) | exact HB.out))); (case aF => exact (fun k_ hk => (Nat.le_trans (Box.sz (by repeat (first | (with_reducible first | exact HB.out | apply Box.al | apply pw_below_drewN | apply below_drew1) | exact HB.out))) hk))); (case aO => exact (by (with_reducible repeat (first | apply Kd.R_alloc | apply Kd.R_drewN | apply Kd.R_drew)); exact HO_4.out)); (case aS => exact (Box.sz (by repeat (first | (with_reducible first | exact HB.out | apply Box.al | apply pw_below_drewN | apply below_drew1) | exact HB.out)))); (case aL => have := LMc10.out; omega); intro v108 w13 ho hb hg hat; rw [← Ny107.out] at ho; have n0_ := Aside0.mk (Kd.V_afterv (ok := (fun k_ => (P0_ k_ ∨ w.heap.size ≤ k_))) (by (with_reducible repeat (first | apply Kd.V_alloc | apply Kd.V_drewN | apply Kd.V_drew)); exact HO_0.out) hg hat); have n1_ := Aside0.mk (hb); have n2_ := Aside0.mk (ho); clear HO_0; clear HB; clear HO_4; have HO_0 := n0_; have HB := n1_; have HO109 := n2_; clear n0_ n1_ n2_; clear ho hb hg hat) | ((with_reducible refine gate_callee (f := 48) rfl ?_); refine goesL_ (some 32) rfl rfl Try.func48 (by kernel_rfl) rfl #[.slice (some ad106) x0_1.length co12, .int .i64 ji7] rfl (by (try simp only [List.map_toArray, List.map_cons, List.map_nil]); first | done | (simp only [hji7]; rfl) | rfl | (simp only [List.length_drop, List.length_take]; rfl)) ?_; (with_reducible refine (mathutil_delete.calls k1 _ _ x0_1 ji7 t110 _ ?side1 ?side2 A11.out).mono ?_); (case side1 => repeat (first | exact (Kd.V_reads' HO_0.out).2.2 | (with_reducible refine Kd.C_alloc ?_ _) | (with_reducible refine Kd.C_drewN ?_ _) | (with_reducible refine Kd.C_drew ?_))); (case side2 => exact (Kd.V_reads' HO_0.out).2.1); rintro e w14 ⟨v111, rfl, ho0, hb⟩; refine ⟨_, rfl, ?_⟩; have n0_ := Aside0.mk (Kd.V_elder' (by (with_reducible repeat (first | apply Kd.V_alloc | apply Kd.V_drewN | apply Kd.V_drew)); exact HO_0.out) (Kd.R_base ho0) hb); have n1_ := Aside0.mk (Kd.R_elder' (by (with_reducible repeat (first | apply Kd.R_alloc | apply Kd.R_drewN | apply Kd.R_drew)); exact HO109.out) (Kd.R_base ho0) hb); have n2_ := Aside0.mk (Kd.R_lower (Kd.R_new' (Kd.R_newM (M := fun k_ => (w.heap.size ≤ k_)) ho0 (Box.sz (by repeat (first | (with_reducible first | exact HB.out | apply Box.al | apply pw_below_drewN | apply below_drew1) | exact HB.out))) (fun k_ h_ => h_)) (Kd.R_lt (by (with_reducible repeat (first | apply Kd.R_alloc | apply Kd.R_drewN | apply Kd.R_drew)); exact HO109.out))) (Box.sz (by repeat (first | (with_reducible first | exact HB.out | apply Box.al | apply pw_below_drewN | apply below_drew1) | exact HB.out)))); have n3_ := Aside0.mk (Box.st (by repeat (first | (with_reducible first | exact HB.out | apply Box.al | apply pw_below_drewN | apply below_drew1) | exact HB.out)) hb); clear HO_0; clear HO109; clear HB; have HO_0 := n0_; have HO109 := n1_; have HO112 := n2_; have HB := n3_; clear n0_ n1_ n2_ n3_; (try clear hb); (try clear hb2); (try clear hk); (try clear hi); (try clear ho0)))
                go_roundg k1
                case measure => have := HK1.out; omega
                case rel => exact ⟨(t110), (t105), (y107), H', ⟨by have := HK1.out; omega⟩, ⟨Kd.V_mono (Kd.R_V HO112.out) (fun k_ hk_ => ⟨.inr hk_.1.1, hk_.2⟩)⟩, ⟨by (with_reducible repeat (first | apply Kd.R_alloc | apply Kd.R_drewN | apply Kd.R_drew)); exact Kd.R_mono HO109.out (fun _ hk => hk.1)⟩, ⟨by repeat (first | (with_reducible first | exact HB.out | apply Box.al | apply pw_below_drewN | apply below_drew1) | exact HB.out)⟩⟩
              · rw [if_neg c10] at H
                exact absurd H (by simp)
            · rw [if_neg c9] at H
              exact absurd H (by simp)
          · rw [if_neg c8] at H
            exact absurd H (by simp)

end Go.Proofs.Ytmbhbioanoalaaa.PFnMix
