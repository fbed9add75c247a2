/- The functions that the law 'FnMulOverflow' reaches, each with its contract. -/
import Derived.Test.YtfnimhjabbnldaaOFnMulOverflowx0
namespace Go.Proofs.Ytfnimhjabbnldaa.PFnMulOverflow
open Go.RowKit Go.Proofs.YtfnimhjabbnldaaW.PrintWords Go.Proofs.YtfnimhjabbnldaaW.PrintLast Go.Proofs.YtfnimhjabbnldaaW.PrintMore
attribute [local go_sem] max2_int min2_int max_two min_two max_three min_three max_four min_four   -- for this text's walks alone
set_option linter.unusedVariables false
set_option linter.unusedSimpArgs false

/-! ### spec_WideOf: function 22 -/
def spec_WideOf.f (a0 : Int) : Option (Int × Int) := some (a0 / 9223372036854775808, IntKind.u64.wrap (a0))
set_option maxHeartbeats 8000000 in
set_option maxRecDepth 100000 in
theorem spec_WideOf.calls (a0 : Int) (r1 : Int) (r2 : Int) (w : World) (h : spec_WideOf.f a0 = some (r1, r2)) :
    Calls Try.prog 22 #[.int .i64 a0] w fun e w' => e = .returned (.agg #[.int .i64 r1, .int .u64 r2]) ∧ Below w.heap.size w w' := by
  have hu26 := Try.underlying26
  have HB := Aside0.mk (Below.refl w.heap.size w)
  have H : (some (a0 / 9223372036854775808, IntKind.u64.wrap (a0))) = some (r1, r2) := h
  clear h
  simp only [Option.some.injEq, Prod.mk.injEq] at H
  obtain ⟨rfl, rfl⟩ := H
  go_enter Try.func22, Try.ntmps22
  go_wp2_with (first | ((with_reducible refine gate_dst (N := 2) rfl ?_); refine box_event ?hg (N := 2) ?hd (cs := #[.int .i64 0, .int .u64 0]) (t := 26) ?hr ?_; (case hd => rfl); (case hg => rfl); (case hr => first | (go_simp; done) | (go_simp; rfl)); intro gb101 hg w2 hbox hb; have n0_ := Aside0.mk (below_step (by repeat (first | (with_reducible first | exact HB.out | apply below_alloc | apply pw_below_drewN | apply below_drew1) | exact HB.out)) hb); have n1_ := Aside0.mk (hbox); have n2_ := Aside0.mk ((by rw [hg]; exact (below_size (by repeat (first | (with_reducible first | exact HB.out | apply below_alloc | apply pw_below_drewN | apply below_drew1) | exact HB.out))) : w.heap.size ≤ gb101)); have n3_ := Aside0.mk ((by rw [hg]; exact (below_size (by repeat (first | (with_reducible first | exact HB.out | apply below_alloc | apply pw_below_drewN | apply below_drew1) | exact HB.out))) : w.heap.size ≤ gb101)); clear HB; have HB := n0_; have BK101 := n1_; have GW101 := n2_; have GE101 := n3_; clear n0_ n1_ n2_ n3_; clear hb hbox hg; have hcz3_0 : w2.cell? ⟨gb101, 0, none⟩ = some (.int .i64 0) := (blk_cell BK101.out 0).trans rfl; have hcz3_1 : w2.cell? ⟨gb101, 1, none⟩ = some (.int .u64 0) := (blk_cell BK101.out 1).trans rfl; have hfz3_0 := blk_frozen BK101.out 0; have hfz3_1 := blk_frozen BK101.out 1))
  refine bodyPost_ret (results_cell_row rfl _ _ gb101 26 #[.int .i64 (a0 / 9223372036854775808), .int .u64 (IntKind.u64.wrap (a0))] (0, 0) _ rfl (by (with_reducible repeat (first | refine blk_drewN ?_ _ | refine blk_drew ?_ | refine blk_alloc ?_ _)); refine blk_put (cs := #[.int .i64 (a0 / 9223372036854775808), .int .u64 0]) ?_ 1 _ rfl; (with_reducible repeat (first | refine blk_drewN ?_ _ | refine blk_drew ?_ | refine blk_alloc ?_ _)); refine blk_put (cs := #[.int .i64 0, .int .u64 0]) ?_ 0 _ rfl; (with_reducible repeat (first | refine blk_drewN ?_ _ | refine blk_drew ?_ | refine blk_alloc ?_ _)); exact BK101.out) Try.underlying26 rfl (by kernel_rfl)) rfl ?_
  exact ⟨by first | rfl | (simp [errW_none, errW_some] <;> rfl) | (simp [*, errW_none, errW_some] <;> rfl), by repeat (first | (with_reducible first | exact HB.out | apply below_alloc | apply pw_below_drewN | apply below_drew1 | refine below_set ?_ GE101.out) | exact HB.out)⟩

/-! ### spec_IsWidth: function 23 -/
def spec_IsWidth.f (a0 : Int) : Option (Bool) := if a0 = 8 then (some true) else (if a0 = 16 then (some true) else (if a0 = 32 then (some true) else (some (a0 == 64))))
set_option maxHeartbeats 8000000 in
set_option maxRecDepth 100000 in
theorem spec_IsWidth.calls (a0 : Int) (r : Bool) (w : World) (h : spec_IsWidth.f a0 = some r) :
    Calls Try.prog 23 #[.int .i64 a0] w fun e w' => e = .returned (.bool r) ∧ Drawn0 w w' := by
  have H : (if a0 = 8 then (some true) else (if a0 = 16 then (some true) else (if a0 = 32 then (some true) else (some (a0 == 64))))) = some r := h
  clear h
  by_cases c2 : a0 = 8
  · rw [if_pos c2] at H
    have c2b0 : (a0 == 8) = true := beq_iff_eq.mpr c2
    have c2b1 : (a0 != 8) = false := bne_eq_false_iff_eq.mpr c2
    clear c2
    obtain rfl := Option.some.inj H
    go_enter Try.func23, Try.ntmps23
    go_wp2
    go_ret
    exact ⟨by first | rfl | (simp; done) | (simp [*]; done), by repeat (first | exact Drawn0.refl _ | apply Drawn0.step)⟩
  · rw [if_neg c2] at H
    have c2b0 : (a0 == 8) = false := beq_eq_false_iff_ne.mpr c2
    have c2b1 : (a0 != 8) = true := bne_iff_ne.mpr c2
    by_cases c3 : a0 = 16
    · rw [if_pos c3] at H
      have c3b0 : (a0 == 16) = true := beq_iff_eq.mpr c3
      have c3b1 : (a0 != 16) = false := bne_eq_false_iff_eq.mpr c3
      clear c3
      obtain rfl := Option.some.inj H
      go_enter Try.func23, Try.ntmps23
      go_wp2
      go_ret
      exact ⟨by first | rfl | (simp; done) | (simp [*]; done), by repeat (first | exact Drawn0.refl _ | apply Drawn0.step)⟩
    · rw [if_neg c3] at H
      have c3b0 : (a0 == 16) = false := beq_eq_false_iff_ne.mpr c3
      have c3b1 : (a0 != 16) = true := bne_iff_ne.mpr c3
      by_cases c4 : a0 = 32
      · rw [if_pos c4] at H
        have c4b0 : (a0 == 32) = true := beq_iff_eq.mpr c4
        have c4b1 : (a0 != 32) = false := bne_eq_false_iff_eq.mpr c4
        clear c4
        obtain rfl := Option.some.inj H
        go_enter Try.func23, Try.ntmps23
        go_wp2
        go_ret
        exact ⟨by first | rfl | (simp; done) | (simp [*]; done), by repeat (first | exact Drawn0.refl _ | apply Drawn0.step)⟩
      · rw [if_neg c4] at H
        have c4b0 : (a0 == 32) = false := beq_eq_false_iff_ne.mpr c4
        have c4b1 : (a0 != 32) = true := bne_iff_ne.mpr c4
        obtain rfl := Option.some.inj H
        go_enter Try.func23, Try.ntmps23
        go_wp2
        go_ret
        exact ⟨by first | rfl | (simp; done) | (simp [*]; done), by repeat (first | exact Drawn0.refl _ | apply Drawn0.step)⟩

/-! ### mathutil_AddOverflowInt8: function 37 -/
def mathutil_AddOverflowInt8.j0 : Nat → Int → Int → Int → Bool → Option (Int × Bool)
  | 0, _, _, _, _ => none
  | k + 1, x0, x1, x4, x14 => if x14 = true then (some (x4, decide (((x4) % 256) > 127))) else (if x0 < 0 then (if x1 < 0 then (some (x4, decide (((x4) % 256) ≤ 127))) else (some (x4, false))) else (some (x4, false)))
def mathutil_AddOverflowInt8.f (k : Nat) (a0 : Int) (a1 : Int) : Option (Int × Bool) := if a0 > 0 then (mathutil_AddOverflowInt8.j0 k a0 a1 (IntKind.i8.wrap (a0 + a1)) (decide (a1 > 0))) else (mathutil_AddOverflowInt8.j0 k a0 a1 (IntKind.i8.wrap (a0 + a1)) false)
theorem mathutil_AddOverflowInt8.mono_l : ∀ k, (∀ y0 y1 y2 y3, LeO (mathutil_AddOverflowInt8.j0 k y0 y1 y2 y3) (mathutil_AddOverflowInt8.j0 (k + 1) y0 y1 y2 y3))
  | 0 => fun _ _ _ _ r h => by simp [mathutil_AddOverflowInt8.j0] at h
  | k + 1 => by
    have ih0 := mathutil_AddOverflowInt8.mono_l k
    · intro y0 y1 y2 y3
      unfold mathutil_AddOverflowInt8.j0
      repeat' first
      | (with_reducible exact ih0 _ _ _ _)
      | (with_reducible exact LeO.refl _)
      | (with_reducible exact LeO.none _)
      | (with_reducible refine LeO.ite ?_ ?_)
      | (with_reducible refine LeO.bind ?_ (fun _ => ?_))
      | exact ih0 _ _ _ _
      | exact LeO.none _
      | refine LeO.ite ?_ ?_
      | refine LeO.bind ?_ (fun _ => ?_)
theorem mathutil_AddOverflowInt8.mono : ∀ a0 a1 k, LeO (mathutil_AddOverflowInt8.f k a0 a1) (mathutil_AddOverflowInt8.f (k + 1) a0 a1) := by
  intro a0 a1 k
  have ih0 := mathutil_AddOverflowInt8.mono_l k
  unfold mathutil_AddOverflowInt8.f
  repeat' first
      | (with_reducible exact ih0 _ _ _ _)
      | (with_reducible exact LeO.refl _)
      | (with_reducible exact LeO.none _)
      | (with_reducible refine LeO.ite ?_ ?_)
      | (with_reducible refine LeO.bind ?_ (fun _ => ?_))
      | exact ih0 _ _ _ _
      | exact LeO.none _
      | refine LeO.ite ?_ ?_
      | refine LeO.bind ?_ (fun _ => ?_)
set_option maxHeartbeats 8000000 in
set_option maxRecDepth 100000 in
theorem mathutil_AddOverflowInt8.calls (k : Nat) (a0 : Int) (a1 : Int) (r1 : Int) (r2 : Bool) (w : World) (h : mathutil_AddOverflowInt8.f k a0 a1 = some (r1, r2)) :
    Calls Try.prog 37 #[.int .i8 a0, .int .i8 a1] w fun e w' => e = .returned (.tuple #[.int .i8 r1, .bool r2]) ∧ Drawn0 w w' := by
  have H : (if a0 > 0 then (mathutil_AddOverflowInt8.j0 k a0 a1 (IntKind.i8.wrap (a0 + a1)) (decide (a1 > 0))) else (mathutil_AddOverflowInt8.j0 k a0 a1 (IntKind.i8.wrap (a0 + a1)) false)) = some (r1, r2) := h
  clear h
  have HC3 := Aside0.mk H
  clear H
  go_enter Try.func37, Try.ntmps37
  go_upto_region 2 with (fail)
  go_cut [14] (fun v14 wc => ∃ (kq : Nat) (x14_2 : Bool), v14 = .bool x14_2 ∧ Aside0 (mathutil_AddOverflowInt8.j0 kq a0 a1 (IntKind.i8.wrap (a0 + a1)) x14_2 = some (r1, r2)) ∧ Aside0 (kq ≤ k) ∧ Drawn0 w wc)
  case first =>
    have H := HC3.out
    clear HC3
    by_cases c4 : a0 > 0
    · rw [if_pos c4] at H
      have c4b0 : decide (0 < a0) = true := decide_eq_true c4
      clear c4
      (first | rw [c4b0] | (simp only [i64_w, i32_w]; rw [c4b0]) | skip)
      have H' := Aside0.mk H
      clear H
      go_wp2
      go_meet
      case rel => exact ⟨_, (decide (a1 > 0)), (by first | rfl | (simp; done) | (simp [*]; done)), H', ⟨by first | omega | exact Nat.le_refl _⟩, by repeat (first | exact Drawn0.refl _ | apply Drawn0.step)⟩
    · rw [if_neg c4] at H
      have c4b0 : decide (0 < a0) = false := decide_eq_false c4
      clear c4
      (first | rw [c4b0] | (simp only [i64_w, i32_w]; rw [c4b0]) | skip)
      have H' := Aside0.mk H
      clear H
      go_wp2
      go_meet
      case rel => exact ⟨_, (false), (by first | rfl | (simp; done) | (simp [*]; done)), H', ⟨by first | omega | exact Nat.le_refl _⟩, by repeat (first | exact Drawn0.refl _ | apply Drawn0.step)⟩
  case rest =>
    clear HC3
    try clear p2
    try clear c3
    try clear c4
    try clear c4b0
    obtain ⟨kq, x14_2, rfl, HA, HJ2, ⟨mc2, rfl⟩⟩ := hcut
    cases kq with
    | zero => exact absurd HA.out (by simp [mathutil_AddOverflowInt8.j0])
    | succ kj2 =>
      have H := HA.out
      clear HA
      simp only [mathutil_AddOverflowInt8.j0] at H
      by_cases c5 : x14_2 = true
      · subst c5
        have H1 : (some ((IntKind.i8.wrap (a0 + a1)), decide ((((IntKind.i8.wrap (a0 + a1))) % 256) > 127))) = some (r1, r2) := by rw [if_pos rfl] at H; exact H
        clear H
        have H := H1
        clear H1
        simp only [Option.some.injEq, Prod.mk.injEq] at H
        obtain ⟨rfl, rfl⟩ := H
        go_wp2
        go_ret2
        exact ⟨by first | rfl | (simp; done) | (simp [*]; done), by repeat (first | exact Drawn0.refl _ | apply Drawn0.step)⟩
      · replace c5 := Bool.eq_false_iff.mpr c5
        subst c5
        have H1 : (if a0 < 0 then (if a1 < 0 then (some ((IntKind.i8.wrap (a0 + a1)), decide ((((IntKind.i8.wrap (a0 + a1))) % 256) ≤ 127))) else (some ((IntKind.i8.wrap (a0 + a1)), false))) else (some ((IntKind.i8.wrap (a0 + a1)), false))) = some (r1, r2) := by rw [if_neg (show ¬ (false = true) by decide)] at H; exact H
        clear H
        have H := H1
        clear H1
        by_cases c6 : a0 < 0
        · rw [if_pos c6] at H
          have c6b0 : decide (a0 < 0) = true := decide_eq_true c6
          clear c6
          by_cases c7 : a1 < 0
          · rw [if_pos c7] at H
            have c7b0 : decide (a1 < 0) = true := decide_eq_true c7
            clear c7
            simp only [Option.some.injEq, Prod.mk.injEq] at H
            obtain ⟨rfl, rfl⟩ := H
            go_wp2
            go_ret2
            exact ⟨by first | rfl | (simp; done) | (simp [*]; done), by repeat (first | exact Drawn0.refl _ | apply Drawn0.step)⟩
          · rw [if_neg c7] at H
            have c7b0 : decide (a1 < 0) = false := decide_eq_false c7
            clear c7
            simp only [Option.some.injEq, Prod.mk.injEq] at H
            obtain ⟨rfl, rfl⟩ := H
            go_wp2
            go_ret2
            exact ⟨by first | rfl | (simp; done) | (simp [*]; done), by repeat (first | exact Drawn0.refl _ | apply Drawn0.step)⟩
        · rw [if_neg c6] at H
          have c6b0 : decide (a0 < 0) = false := decide_eq_false c6
          clear c6
          simp only [Option.some.injEq, Prod.mk.injEq] at H
          obtain ⟨rfl, rfl⟩ := H
          go_wp2
          go_ret2
          exact ⟨by first | rfl | (simp; done) | (simp [*]; done), by repeat (first | exact Drawn0.refl _ | apply Drawn0.step)⟩

/-! ### mathutil_AddOverflowInt16: function 38 -/
def mathutil_AddOverflowInt16.j0 : Nat → Int → Int → Int → Bool → Option (Int × Bool)
  | 0, _, _, _, _ => none
  | k + 1, x0, x1, x4, x14 => if x14 = true then (some (x4, decide ((IntKind.u16.wrap (x4)) > 32767))) else (if x0 < 0 then (if x1 < 0 then (some (x4, decide ((IntKind.u16.wrap (x4)) ≤ 32767))) else (some (x4, false))) else (some (x4, false)))
def mathutil_AddOverflowInt16.f (k : Nat) (a0 : Int) (a1 : Int) : Option (Int × Bool) := if a0 > 0 then (mathutil_AddOverflowInt16.j0 k a0 a1 (IntKind.i16.wrap (a0 + a1)) (decide (a1 > 0))) else (mathutil_AddOverflowInt16.j0 k a0 a1 (IntKind.i16.wrap (a0 + a1)) false)
theorem mathutil_AddOverflowInt16.mono_l : ∀ k, (∀ y0 y1 y2 y3, LeO (mathutil_AddOverflowInt16.j0 k y0 y1 y2 y3) (mathutil_AddOverflowInt16.j0 (k + 1) y0 y1 y2 y3))
  | 0 => fun _ _ _ _ r h => by simp [mathutil_AddOverflowInt16.j0] at h
  | k + 1 => by
    have ih0 := mathutil_AddOverflowInt16.mono_l k
    · intro y0 y1 y2 y3
      unfold mathutil_AddOverflowInt16.j0
      repeat' first
      | (with_reducible exact ih0 _ _ _ _)
      | (with_reducible exact LeO.refl _)
      | (with_reducible exact LeO.none _)
      | (with_reducible refine LeO.ite ?_ ?_)
      | (with_reducible refine LeO.bind ?_ (fun _ => ?_))
      | exact ih0 _ _ _ _
      | exact LeO.none _
      | refine LeO.ite ?_ ?_
      | refine LeO.bind ?_ (fun _ => ?_)
theorem mathutil_AddOverflowInt16.mono : ∀ a0 a1 k, LeO (mathutil_AddOverflowInt16.f k a0 a1) (mathutil_AddOverflowInt16.f (k + 1) a0 a1) := by
  intro a0 a1 k
  have ih0 := mathutil_AddOverflowInt16.mono_l k
  unfold mathutil_AddOverflowInt16.f
  repeat' first
      | (with_reducible exact ih0 _ _ _ _)
      | (with_reducible exact LeO.refl _)
      | (with_reducible exact LeO.none _)
      | (with_reducible refine LeO.ite ?_ ?_)
      | (with_reducible refine LeO.bind ?_ (fun _ => ?_))
      | exact ih0 _ _ _ _
      | exact LeO.none _
      | refine LeO.ite ?_ ?_
      | refine LeO.bind ?_ (fun _ => ?_)
set_option maxHeartbeats 8000000 in
set_option maxRecDepth 100000 in
theorem mathutil_AddOverflowInt16.calls (k : Nat) (a0 : Int) (a1 : Int) (r1 : Int) (r2 : Bool) (w : World) (h : mathutil_AddOverflowInt16.f k a0 a1 = some (r1, r2)) :
    Calls Try.prog 38 #[.int .i16 a0, .int .i16 a1] w fun e w' => e = .returned (.tuple #[.int .i16 r1, .bool r2]) ∧ Drawn0 w w' := by
  have H : (if a0 > 0 then (mathutil_AddOverflowInt16.j0 k a0 a1 (IntKind.i16.wrap (a0 + a1)) (decide (a1 > 0))) else (mathutil_AddOverflowInt16.j0 k a0 a1 (IntKind.i16.wrap (a0 + a1)) false)) = some (r1, r2) := h
  clear h
  have HC3 := Aside0.mk H
  clear H
  go_enter Try.func38, Try.ntmps38
  go_upto_region 2 with (fail)
  go_cut [14] (fun v14 wc => ∃ (kq : Nat) (x14_2 : Bool), v14 = .bool x14_2 ∧ Aside0 (mathutil_AddOverflowInt16.j0 kq a0 a1 (IntKind.i16.wrap (a0 + a1)) x14_2 = some (r1, r2)) ∧ Aside0 (kq ≤ k) ∧ Drawn0 w wc)
  case first =>
    have H := HC3.out
    clear HC3
    by_cases c4 : a0 > 0
    · rw [if_pos c4] at H
      have c4b0 : decide (0 < a0) = true := decide_eq_true c4
      clear c4
      (first | rw [c4b0] | (simp only [i64_w, i32_w]; rw [c4b0]) | skip)
      have H' := Aside0.mk H
      clear H
      go_wp2
      go_meet
      case rel => exact ⟨_, (decide (a1 > 0)), (by first | rfl | (simp; done) | (simp [*]; done)), H', ⟨by first | omega | exact Nat.le_refl _⟩, by repeat (first | exact Drawn0.refl _ | apply Drawn0.step)⟩
    · rw [if_neg c4] at H
      have c4b0 : decide (0 < a0) = false := decide_eq_false c4
      clear c4
      (first | rw [c4b0] | (simp only [i64_w, i32_w]; rw [c4b0]) | skip)
      have H' := Aside0.mk H
      clear H
      go_wp2
      go_meet
      case rel => exact ⟨_, (false), (by first | rfl | (simp; done) | (simp [*]; done)), H', ⟨by first | omega | exact Nat.le_refl _⟩, by repeat (first | exact Drawn0.refl _ | apply Drawn0.step)⟩
  case rest =>
    clear HC3
    try clear p2
    try clear c3
    try clear c4
    try clear c4b0
    obtain ⟨kq, x14_2, rfl, HA, HJ2, ⟨mc2, rfl⟩⟩ := hcut
    cases kq with
    | zero => exact absurd HA.out (by simp [mathutil_AddOverflowInt16.j0])
    | succ kj2 =>
      have H := HA.out
      clear HA
      simp only [mathutil_AddOverflowInt16.j0] at H
      by_cases c5 : x14_2 = true
      · subst c5
        have H1 : (some ((IntKind.i16.wrap (a0 + a1)), decide ((IntKind.u16.wrap ((IntKind.i16.wrap (a0 + a1)))) > 32767))) = some (r1, r2) := by rw [if_pos rfl] at H; exact H
        clear H
        have H := H1
        clear H1
        simp only [Option.some.injEq, Prod.mk.injEq] at H
        obtain ⟨rfl, rfl⟩ := H
        go_wp2
        go_ret2
        exact ⟨by first | rfl | (simp; done) | (simp [*]; done), by repeat (first | exact Drawn0.refl _ | apply Drawn0.step)⟩
      · replace c5 := Bool.eq_false_iff.mpr c5
        subst c5
        have H1 : (if a0 < 0 then (if a1 < 0 then (some ((IntKind.i16.wrap (a0 + a1)), decide ((IntKind.u16.wrap ((IntKind.i16.wrap (a0 + a1)))) ≤ 32767))) else (some ((IntKind.i16.wrap (a0 + a1)), false))) else (some ((IntKind.i16.wrap (a0 + a1)), false))) = some (r1, r2) := by rw [if_neg (show ¬ (false = true) by decide)] at H; exact H
        clear H
        have H := H1
        clear H1
        by_cases c6 : a0 < 0
        · rw [if_pos c6] at H
          have c6b0 : decide (a0 < 0) = true := decide_eq_true c6
          clear c6
          by_cases c7 : a1 < 0
          · rw [if_pos c7] at H
            have c7b0 : decide (a1 < 0) = true := decide_eq_true c7
            clear c7
            simp only [Option.some.injEq, Prod.mk.injEq] at H
            obtain ⟨rfl, rfl⟩ := H
            go_wp2
            go_ret2
            exact ⟨by first | rfl | (simp; done) | (simp [*]; done), by repeat (first | exact Drawn0.refl _ | apply Drawn0.step)⟩
          · rw [if_neg c7] at H
            have c7b0 : decide (a1 < 0) = false := decide_eq_false c7
            clear c7
            simp only [Option.some.injEq, Prod.mk.injEq] at H
            obtain ⟨rfl, rfl⟩ := H
            go_wp2
            go_ret2
            exact ⟨by first | rfl | (simp; done) | (simp [*]; done), by repeat (first | exact Drawn0.refl _ | apply Drawn0.step)⟩
        · rw [if_neg c6] at H
          have c6b0 : decide (a0 < 0) = false := decide_eq_false c6
          clear c6
          simp only [Option.some.injEq, Prod.mk.injEq] at H
          obtain ⟨rfl, rfl⟩ := H
          go_wp2
          go_ret2
          exact ⟨by first | rfl | (simp; done) | (simp [*]; done), by repeat (first | exact Drawn0.refl _ | apply Drawn0.step)⟩

/-! ### mathutil_AddOverflowInt32: function 39 -/
def mathutil_AddOverflowInt32.j0 : Nat → Int → Int → Int → Bool → Option (Int × Bool)
  | 0, _, _, _, _ => none
  | k + 1, x0, x1, x4, x14 => if x14 = true then (some (x4, decide (((x4) % 4294967296) > 2147483647))) else (if x0 < 0 then (if x1 < 0 then (some (x4, decide (((x4) % 4294967296) ≤ 2147483647))) else (some (x4, false))) else (some (x4, false)))
def mathutil_AddOverflowInt32.f (k : Nat) (a0 : Int) (a1 : Int) : Option (Int × Bool) := if a0 > 0 then (mathutil_AddOverflowInt32.j0 k a0 a1 (wrap32 (a0 + a1)) (decide (a1 > 0))) else (mathutil_AddOverflowInt32.j0 k a0 a1 (wrap32 (a0 + a1)) false)
theorem mathutil_AddOverflowInt32.mono_l : ∀ k, (∀ y0 y1 y2 y3, LeO (mathutil_AddOverflowInt32.j0 k y0 y1 y2 y3) (mathutil_AddOverflowInt32.j0 (k + 1) y0 y1 y2 y3))
  | 0 => fun _ _ _ _ r h => by simp [mathutil_AddOverflowInt32.j0] at h
  | k + 1 => by
    have ih0 := mathutil_AddOverflowInt32.mono_l k
    · intro y0 y1 y2 y3
      unfold mathutil_AddOverflowInt32.j0
      repeat' first
      | (with_reducible exact ih0 _ _ _ _)
      | (with_reducible exact LeO.refl _)
      | (with_reducible exact LeO.none _)
      | (with_reducible refine LeO.ite ?_ ?_)
      | (with_reducible refine LeO.bind ?_ (fun _ => ?_))
      | exact ih0 _ _ _ _
      | exact LeO.none _
      | refine LeO.ite ?_ ?_
      | refine LeO.bind ?_ (fun _ => ?_)
theorem mathutil_AddOverflowInt32.mono : ∀ a0 a1 k, LeO (mathutil_AddOverflowInt32.f k a0 a1) (mathutil_AddOverflowInt32.f (k + 1) a0 a1) := by
  intro a0 a1 k
  have ih0 := mathutil_AddOverflowInt32.mono_l k
  unfold mathutil_AddOverflowInt32.f
  repeat' first
      | (with_reducible exact ih0 _ _ _ _)
      | (with_reducible exact LeO.refl _)
      | (with_reducible exact LeO.none _)
      | (with_reducible refine LeO.ite ?_ ?_)
      | (with_reducible refine LeO.bind ?_ (fun _ => ?_))
      | exact ih0 _ _ _ _
      | exact LeO.none _
      | refine LeO.ite ?_ ?_
      | refine LeO.bind ?_ (fun _ => ?_)
set_option maxHeartbeats 8000000 in
set_option maxRecDepth 100000 in
theorem mathutil_AddOverflowInt32.calls (k : Nat) (a0 : Int) (a1 : Int) (r1 : Int) (r2 : Bool) (w : World) (h : mathutil_AddOverflowInt32.f k a0 a1 = some (r1, r2)) :
    Calls Try.prog 39 #[.int .i32 a0, .int .i32 a1] w fun e w' => e = .returned (.tuple #[.int .i32 r1, .bool r2]) ∧ Drawn0 w w' := by
  have H : (if a0 > 0 then (mathutil_AddOverflowInt32.j0 k a0 a1 (wrap32 (a0 + a1)) (decide (a1 > 0))) else (mathutil_AddOverflowInt32.j0 k a0 a1 (wrap32 (a0 + a1)) false)) = some (r1, r2) := h
  clear h
  have HC3 := Aside0.mk H
  clear H
  go_enter Try.func39, Try.ntmps39
  go_upto_region 2 with (fail)
  go_cut [14] (fun v14 wc => ∃ (kq : Nat) (x14_2 : Bool), v14 = .bool x14_2 ∧ Aside0 (mathutil_AddOverflowInt32.j0 kq a0 a1 (wrap32 (a0 + a1)) x14_2 = some (r1, r2)) ∧ Aside0 (kq ≤ k) ∧ Drawn0 w wc)
  case first =>
    have H := HC3.out
    clear HC3
    by_cases c4 : a0 > 0
    · rw [if_pos c4] at H
      have c4b0 : decide (0 < a0) = true := decide_eq_true c4
      clear c4
      (first | rw [c4b0] | (simp only [i64_w, i32_w]; rw [c4b0]) | skip)
      have H' := Aside0.mk H
      clear H
      go_wp2
      go_meet
      case rel => exact ⟨_, (decide (a1 > 0)), (by first | rfl | (simp; done) | (simp [*]; done)), H', ⟨by first | omega | exact Nat.le_refl _⟩, by repeat (first | exact Drawn0.refl _ | apply Drawn0.step)⟩
    · rw [if_neg c4] at H
      have c4b0 : decide (0 < a0) = false := decide_eq_false c4
      clear c4
      (first | rw [c4b0] | (simp only [i64_w, i32_w]; rw [c4b0]) | skip)
      have H' := Aside0.mk H
      clear H
      go_wp2
      go_meet
      case rel => exact ⟨_, (false), (by first | rfl | (simp; done) | (simp [*]; done)), H', ⟨by first | omega | exact Nat.le_refl _⟩, by repeat (first | exact Drawn0.refl _ | apply Drawn0.step)⟩
  case rest =>
    clear HC3
    try clear p2
    try clear c3
    try clear p3
    try clear c4
    try clear c4b0
    obtain ⟨kq, x14_2, rfl, HA, HJ2, ⟨mc2, rfl⟩⟩ := hcut
    cases kq with
    | zero => exact absurd HA.out (by simp [mathutil_AddOverflowInt32.j0])
    | succ kj2 =>
      have H := HA.out
      clear HA
      simp only [mathutil_AddOverflowInt32.j0] at H
      by_cases c5 : x14_2 = true
      · subst c5
        have H1 : (some ((wrap32 (a0 + a1)), decide ((((wrap32 (a0 + a1))) % 4294967296) > 2147483647))) = some (r1, r2) := by rw [if_pos rfl] at H; exact H
        clear H
        have H := H1
        clear H1
        simp only [Option.some.injEq, Prod.mk.injEq] at H
        obtain ⟨rfl, rfl⟩ := H
        go_wp2
        go_ret2
        exact ⟨by first | rfl | (simp; done) | (simp [*]; done), by repeat (first | exact Drawn0.refl _ | apply Drawn0.step)⟩
      · replace c5 := Bool.eq_false_iff.mpr c5
        subst c5
        have H1 : (if a0 < 0 then (if a1 < 0 then (some ((wrap32 (a0 + a1)), decide ((((wrap32 (a0 + a1))) % 4294967296) ≤ 2147483647))) else (some ((wrap32 (a0 + a1)), false))) else (some ((wrap32 (a0 + a1)), false))) = some (r1, r2) := by rw [if_neg (show ¬ (false = true) by decide)] at H; exact H
        clear H
        have H := H1
        clear H1
        by_cases c6 : a0 < 0
        · rw [if_pos c6] at H
          have c6b0 : decide (a0 < 0) = true := decide_eq_true c6
          clear c6
          by_cases c7 : a1 < 0
          · rw [if_pos c7] at H
            have c7b0 : decide (a1 < 0) = true := decide_eq_true c7
            clear c7
            simp only [Option.some.injEq, Prod.mk.injEq] at H
            obtain ⟨rfl, rfl⟩ := H
            go_wp2
            go_ret2
            exact ⟨by first | rfl | (simp; done) | (simp [*]; done), by repeat (first | exact Drawn0.refl _ | apply Drawn0.step)⟩
          · rw [if_neg c7] at H
            have c7b0 : decide (a1 < 0) = false := decide_eq_false c7
            clear c7
            simp only [Option.some.injEq, Prod.mk.injEq] at H
            obtain ⟨rfl, rfl⟩ := H
            go_wp2
            go_ret2
            exact ⟨by first | rfl | (simp; done) | (simp [*]; done), by repeat (first | exact Drawn0.refl _ | apply Drawn0.step)⟩
        · rw [if_neg c6] at H
          have c6b0 : decide (a0 < 0) = false := decide_eq_false c6
          clear c6
          simp only [Option.some.injEq, Prod.mk.injEq] at H
          obtain ⟨rfl, rfl⟩ := H
          go_wp2
          go_ret2
          exact ⟨by first | rfl | (simp; done) | (simp [*]; done), by repeat (first | exact Drawn0.refl _ | apply Drawn0.step)⟩

/-! ### mathutil_AddOverflowInt64: function 40 -/
def mathutil_AddOverflowInt64.j0 : Nat → Int → Int → Int → Bool → Option (Int × Bool)
  | 0, _, _, _, _ => none
  | k + 1, x0, x1, x4, x14 => if x14 = true then (some (x4, decide ((IntKind.u64.wrap (x4)) > 9223372036854775807))) else (if x0 < 0 then (if x1 < 0 then (some (x4, decide ((IntKind.u64.wrap (x4)) ≤ 9223372036854775807))) else (some (x4, false))) else (some (x4, false)))
def mathutil_AddOverflowInt64.f (k : Nat) (a0 : Int) (a1 : Int) : Option (Int × Bool) := if a0 > 0 then (mathutil_AddOverflowInt64.j0 k a0 a1 (wrap64 (a0 + a1)) (decide (a1 > 0))) else (mathutil_AddOverflowInt64.j0 k a0 a1 (wrap64 (a0 + a1)) false)
theorem mathutil_AddOverflowInt64.mono_l : ∀ k, (∀ y0 y1 y2 y3, LeO (mathutil_AddOverflowInt64.j0 k y0 y1 y2 y3) (mathutil_AddOverflowInt64.j0 (k + 1) y0 y1 y2 y3))
  | 0 => fun _ _ _ _ r h => by simp [mathutil_AddOverflowInt64.j0] at h
  | k + 1 => by
    have ih0 := mathutil_AddOverflowInt64.mono_l k
    · intro y0 y1 y2 y3
      unfold mathutil_AddOverflowInt64.j0
      repeat' first
      | (with_reducible exact ih0 _ _ _ _)
      | (with_reducible exact LeO.refl _)
      | (with_reducible exact LeO.none _)
      | (with_reducible refine LeO.ite ?_ ?_)
      | (with_reducible refine LeO.bind ?_ (fun _ => ?_))
      | exact ih0 _ _ _ _
      | exact LeO.none _
      | refine LeO.ite ?_ ?_
      | refine LeO.bind ?_ (fun _ => ?_)
theorem mathutil_AddOverflowInt64.mono : ∀ a0 a1 k, LeO (mathutil_AddOverflowInt64.f k a0 a1) (mathutil_AddOverflowInt64.f (k + 1) a0 a1) := by
  intro a0 a1 k
  have ih0 := mathutil_AddOverflowInt64.mono_l k
  unfold mathutil_AddOverflowInt64.f
  repeat' first
      | (with_reducible exact ih0 _ _ _ _)
      | (with_reducible exact LeO.refl _)
      | (with_reducible exact LeO.none _)
      | (with_reducible refine LeO.ite ?_ ?_)
      | (with_reducible refine LeO.bind ?_ (fun _ => ?_))
      | exact ih0 _ _ _ _
      | exact LeO.none _
      | refine LeO.ite ?_ ?_
      | refine LeO.bind ?_ (fun _ => ?_)
set_option maxHeartbeats 8000000 in
set_option maxRecDepth 100000 in
theorem mathutil_AddOverflowInt64.calls (k : Nat) (a0 : Int) (a1 : Int) (r1 : Int) (r2 : Bool) (w : World) (h : mathutil_AddOverflowInt64.f k a0 a1 = some (r1, r2)) :
    Calls Try.prog 40 #[.int .i64 a0, .int .i64 a1] w fun e w' => e = .returned (.tuple #[.int .i64 r1, .bool r2]) ∧ Drawn0 w w' := by
  have H : (if a0 > 0 then (mathutil_AddOverflowInt64.j0 k a0 a1 (wrap64 (a0 + a1)) (decide (a1 > 0))) else (mathutil_AddOverflowInt64.j0 k a0 a1 (wrap64 (a0 + a1)) false)) = some (r1, r2) := h
  clear h
  have HC3 := Aside0.mk H
  clear H
  go_enter Try.func40, Try.ntmps40
  go_upto_region 2 with (fail)
  go_cut [14] (fun v14 wc => ∃ (kq : Nat) (x14_2 : Bool), v14 = .bool x14_2 ∧ Aside0 (mathutil_AddOverflowInt64.j0 kq a0 a1 (wrap64 (a0 + a1)) x14_2 = some (r1, r2)) ∧ Aside0 (kq ≤ k) ∧ Drawn0 w wc)
  case first =>
    have H := HC3.out
    clear HC3
    by_cases c4 : a0 > 0
    · rw [if_pos c4] at H
      have c4b0 : decide (0 < a0) = true := decide_eq_true c4
      clear c4
      (first | rw [c4b0] | (simp only [i64_w, i32_w]; rw [c4b0]) | skip)
      have H' := Aside0.mk H
      clear H
      go_wp2
      go_meet
      case rel => exact ⟨_, (decide (a1 > 0)), (by first | rfl | (simp; done) | (simp [*]; done)), H', ⟨by first | omega | exact Nat.le_refl _⟩, by repeat (first | exact Drawn0.refl _ | apply Drawn0.step)⟩
    · rw [if_neg c4] at H
      have c4b0 : decide (0 < a0) = false := decide_eq_false c4
      clear c4
      (first | rw [c4b0] | (simp only [i64_w, i32_w]; rw [c4b0]) | skip)
      have H' := Aside0.mk H
      clear H
      go_wp2
      go_meet
      case rel => exact ⟨_, (false), (by first | rfl | (simp; done) | (simp [*]; done)), H', ⟨by first | omega | exact Nat.le_refl _⟩, by repeat (first | exact Drawn0.refl _ | apply Drawn0.step)⟩
  case rest =>
    clear HC3
    try clear p2
    try clear c4
    try clear c4b0
    obtain ⟨kq, x14_2, rfl, HA, HJ2, ⟨mc2, rfl⟩⟩ := hcut
    cases kq with
    | zero => exact absurd HA.out (by simp [mathutil_AddOverflowInt64.j0])
    | succ kj2 =>
      have H := HA.out
      clear HA
      simp only [mathutil_AddOverflowInt64.j0] at H
      by_cases c5 : x14_2 = true
      · subst c5
        have H1 : (some ((wrap64 (a0 + a1)), decide ((IntKind.u64.wrap ((wrap64 (a0 + a1)))) > 9223372036854775807))) = some (r1, r2) := by rw [if_pos rfl] at H; exact H
        clear H
        have H := H1
        clear H1
        simp only [Option.some.injEq, Prod.mk.injEq] at H
        obtain ⟨rfl, rfl⟩ := H
        go_wp2
        go_ret2
        exact ⟨by first | rfl | (simp; done) | (simp [*]; done), by repeat (first | exact Drawn0.refl _ | apply Drawn0.step)⟩
      · replace c5 := Bool.eq_false_iff.mpr c5
        subst c5
        have H1 : (if a0 < 0 then (if a1 < 0 then (some ((wrap64 (a0 + a1)), decide ((IntKind.u64.wrap ((wrap64 (a0 + a1)))) ≤ 9223372036854775807))) else (some ((wrap64 (a0 + a1)), false))) else (some ((wrap64 (a0 + a1)), false))) = some (r1, r2) := by rw [if_neg (show ¬ (false = true) by decide)] at H; exact H
        clear H
        have H := H1
        clear H1
        by_cases c6 : a0 < 0
        · rw [if_pos c6] at H
          have c6b0 : decide (a0 < 0) = true := decide_eq_true c6
          clear c6
          by_cases c7 : a1 < 0
          · rw [if_pos c7] at H
            have c7b0 : decide (a1 < 0) = true := decide_eq_true c7
            clear c7
            simp only [Option.some.injEq, Prod.mk.injEq] at H
            obtain ⟨rfl, rfl⟩ := H
            go_wp2
            go_ret2
            exact ⟨by first | rfl | (simp; done) | (simp [*]; done), by repeat (first | exact Drawn0.refl _ | apply Drawn0.step)⟩
          · rw [if_neg c7] at H
            have c7b0 : decide (a1 < 0) = false := decide_eq_false c7
            clear c7
            simp only [Option.some.injEq, Prod.mk.injEq] at H
            obtain ⟨rfl, rfl⟩ := H
            go_wp2
            go_ret2
            exact ⟨by first | rfl | (simp; done) | (simp [*]; done), by repeat (first | exact Drawn0.refl _ | apply Drawn0.step)⟩
        · rw [if_neg c6] at H
          have c6b0 : decide (a0 < 0) = false := decide_eq_false c6
          clear c6
          simp only [Option.some.injEq, Prod.mk.injEq] at H
          obtain ⟨rfl, rfl⟩ := H
          go_wp2
          go_ret2
          exact ⟨by first | rfl | (simp; done) | (simp [*]; done), by repeat (first | exact Drawn0.refl _ | apply Drawn0.step)⟩

/-! ### impl_AddOverflow: function 26 -/
def impl_AddOverflow.f (k : Nat) (a0 : Int) (a1 : Int) (a2 : Int) : Option (Int × Bool) := if a0 = 8 then ((mathutil_AddOverflowInt8.f k (IntKind.i8.wrap (a1)) (IntKind.i8.wrap (a2))).bind fun bt102 => (some (wrap64 (bt102.1), bt102.2))) else (if a0 = 16 then ((mathutil_AddOverflowInt16.f k (IntKind.i16.wrap (a1)) (IntKind.i16.wrap (a2))).bind fun bt104 => (some (wrap64 (bt104.1), bt104.2))) else (if a0 = 32 then ((mathutil_AddOverflowInt32.f k (wrap32 (a1)) (wrap32 (a2))).bind fun bt106 => (some (wrap64 (bt106.1), bt106.2))) else (if a0 = 64 then ((mathutil_AddOverflowInt64.f k a1 a2).bind fun bt108 => (some (bt108.1, bt108.2))) else (some (0, false)))))
theorem impl_AddOverflow.mono : ∀ a0 a1 a2 k, LeO (impl_AddOverflow.f k a0 a1 a2) (impl_AddOverflow.f (k + 1) a0 a1 a2) := by
  intro a0 a1 a2 k
  unfold impl_AddOverflow.f
  repeat' first
      | (with_reducible exact mathutil_AddOverflowInt16.mono _ _ _)
      | (with_reducible exact mathutil_AddOverflowInt32.mono _ _ _)
      | (with_reducible exact mathutil_AddOverflowInt64.mono _ _ _)
      | (with_reducible exact mathutil_AddOverflowInt8.mono _ _ _)
      | (with_reducible exact LeO.refl _)
      | (with_reducible exact LeO.none _)
      | (with_reducible refine LeO.ite ?_ ?_)
      | (with_reducible refine LeO.bind ?_ (fun _ => ?_))
      | exact mathutil_AddOverflowInt16.mono _ _ _
      | exact mathutil_AddOverflowInt32.mono _ _ _
      | exact mathutil_AddOverflowInt64.mono _ _ _
      | exact mathutil_AddOverflowInt8.mono _ _ _
      | exact LeO.none _
      | refine LeO.ite ?_ ?_
      | refine LeO.bind ?_ (fun _ => ?_)
set_option maxHeartbeats 8000000 in
set_option maxRecDepth 100000 in
theorem impl_AddOverflow.calls (k : Nat) (a0 : Int) (a1 : Int) (a2 : Int) (r1 : Int) (r2 : Bool) (w : World) (h : impl_AddOverflow.f k a0 a1 a2 = some (r1, r2)) :
    Calls Try.prog 26 #[.int .i64 a0, .int .i64 a1, .int .i64 a2] w fun e w' => e = .returned (.tuple #[.int .i64 r1, .bool r2]) ∧ Drawn0 w w' := by
  have H : (if a0 = 8 then ((mathutil_AddOverflowInt8.f k (IntKind.i8.wrap (a1)) (IntKind.i8.wrap (a2))).bind fun bt102 => (some (wrap64 (bt102.1), bt102.2))) else (if a0 = 16 then ((mathutil_AddOverflowInt16.f k (IntKind.i16.wrap (a1)) (IntKind.i16.wrap (a2))).bind fun bt104 => (some (wrap64 (bt104.1), bt104.2))) else (if a0 = 32 then ((mathutil_AddOverflowInt32.f k (wrap32 (a1)) (wrap32 (a2))).bind fun bt106 => (some (wrap64 (bt106.1), bt106.2))) else (if a0 = 64 then ((mathutil_AddOverflowInt64.f k a1 a2).bind fun bt108 => (some (bt108.1, bt108.2))) else (some (0, false)))))) = some (r1, r2) := h
  clear h
  by_cases c4 : a0 = 8
  · rw [if_pos c4] at H
    have c4b0 : (a0 == 8) = true := beq_iff_eq.mpr c4
    have c4b1 : (a0 != 8) = false := bne_eq_false_iff_eq.mpr c4
    clear c4
    replace H := Option.bind_eq_some_iff.mp H
    obtain ⟨⟨t102, t103⟩, A50, H⟩ := H
    replace H : (some (wrap64 (t102), t103)) = some (r1, r2) := H
    have A5 := Aside0.mk A50
    clear A50
    simp only [Option.some.injEq, Prod.mk.injEq] at H
    obtain ⟨rfl, rfl⟩ := H
    go_enter Try.func26, Try.ntmps26
    go_wp2_with (first | ((with_reducible refine gate_callee (f := 37) rfl ?_); refine goesL_ (some 22) rfl rfl Try.func37 (by kernel_rfl) rfl #[.int .i8 (IntKind.i8.wrap (a1)), .int .i8 (IntKind.i8.wrap (a2))] rfl (by (try simp only [List.map_toArray, List.map_cons, List.map_nil]); first | done | rfl | (simp only [List.length_drop, List.length_take]; rfl)) ?_; (with_reducible refine (mathutil_AddOverflowInt8.calls k (IntKind.i8.wrap (a1)) (IntKind.i8.wrap (a2)) t102 t103 _ A5.out).mono ?_); rintro e w' ⟨rfl, ⟨nd, rfl⟩⟩; refine ⟨_, rfl, ?_⟩))
    go_ret2
    exact ⟨by first | rfl | (simp; done) | (simp [*]; done), by repeat (first | exact Drawn0.refl _ | apply Drawn0.step)⟩
  · rw [if_neg c4] at H
    have c4b0 : (a0 == 8) = false := beq_eq_false_iff_ne.mpr c4
    have c4b1 : (a0 != 8) = true := bne_iff_ne.mpr c4
    by_cases c6 : a0 = 16
    · rw [if_pos c6] at H
      have c6b0 : (a0 == 16) = true := beq_iff_eq.mpr c6
      have c6b1 : (a0 != 16) = false := bne_eq_false_iff_eq.mpr c6
      clear c6
      replace H := Option.bind_eq_some_iff.mp H
      obtain ⟨⟨t104, t105⟩, A70, H⟩ := H
      replace H : (some (wrap64 (t104), t105)) = some (r1, r2) := H
      have A7 := Aside0.mk A70
      clear A70
      simp only [Option.some.injEq, Prod.mk.injEq] at H
      obtain ⟨rfl, rfl⟩ := H
      go_enter Try.func26, Try.ntmps26
      go_wp2_with (first | ((with_reducible refine gate_callee (f := 38) rfl ?_); refine goesL_ (some 35) rfl rfl Try.func38 (by kernel_rfl) rfl #[.int .i16 (IntKind.i16.wrap (a1)), .int .i16 (IntKind.i16.wrap (a2))] rfl (by (try simp only [List.map_toArray, List.map_cons, List.map_nil]); first | done | rfl | (simp only [List.length_drop, List.length_take]; rfl)) ?_; (with_reducible refine (mathutil_AddOverflowInt16.calls k (IntKind.i16.wrap (a1)) (IntKind.i16.wrap (a2)) t104 t105 _ A7.out).mono ?_); rintro e w' ⟨rfl, ⟨nd, rfl⟩⟩; refine ⟨_, rfl, ?_⟩))
      go_ret2
      exact ⟨by first | rfl | (simp; done) | (simp [*]; done), by repeat (first | exact Drawn0.refl _ | apply Drawn0.step)⟩
    · rw [if_neg c6] at H
      have c6b0 : (a0 == 16) = false := beq_eq_false_iff_ne.mpr c6
      have c6b1 : (a0 != 16) = true := bne_iff_ne.mpr c6
      by_cases c8 : a0 = 32
      · rw [if_pos c8] at H
        have c8b0 : (a0 == 32) = true := beq_iff_eq.mpr c8
        have c8b1 : (a0 != 32) = false := bne_eq_false_iff_eq.mpr c8
        clear c8
        replace H := Option.bind_eq_some_iff.mp H
        obtain ⟨⟨t106, t107⟩, A90, H⟩ := H
        replace H : (some (wrap64 (t106), t107)) = some (r1, r2) := H
        have A9 := Aside0.mk A90
        clear A90
        simp only [Option.some.injEq, Prod.mk.injEq] at H
        obtain ⟨rfl, rfl⟩ := H
        go_enter Try.func26, Try.ntmps26
        go_wp2_with (first | ((with_reducible refine gate_callee (f := 39) rfl ?_); refine goesL_ (some 48) rfl rfl Try.func39 (by kernel_rfl) rfl #[.int .i32 (wrap32 (a1)), .int .i32 (wrap32 (a2))] rfl (by (try simp only [List.map_toArray, List.map_cons, List.map_nil]); first | done | rfl | (simp only [List.length_drop, List.length_take]; rfl)) ?_; (with_reducible refine (mathutil_AddOverflowInt32.calls k (wrap32 (a1)) (wrap32 (a2)) t106 t107 _ A9.out).mono ?_); rintro e w' ⟨rfl, ⟨nd, rfl⟩⟩; refine ⟨_, rfl, ?_⟩))
        go_ret2
        exact ⟨by first | rfl | (simp; done) | (simp [*]; done), by repeat (first | exact Drawn0.refl _ | apply Drawn0.step)⟩
      · rw [if_neg c8] at H
        have c8b0 : (a0 == 32) = false := beq_eq_false_iff_ne.mpr c8
        have c8b1 : (a0 != 32) = true := bne_iff_ne.mpr c8
        by_cases c10 : a0 = 64
        · rw [if_pos c10] at H
          have c10b0 : (a0 == 64) = true := beq_iff_eq.mpr c10
          have c10b1 : (a0 != 64) = false := bne_eq_false_iff_eq.mpr c10
          clear c10
          replace H := Option.bind_eq_some_iff.mp H
          obtain ⟨⟨t108, t109⟩, A110, H⟩ := H
          replace H : (some (t108, t109)) = some (r1, r2) := H
          have A11 := Aside0.mk A110
          clear A110
          simp only [Option.some.injEq, Prod.mk.injEq] at H
          obtain ⟨rfl, rfl⟩ := H
          go_enter Try.func26, Try.ntmps26
          go_wp2_with (first | ((with_reducible refine gate_callee (f := 40) rfl ?_); refine goesL_ (some 58) rfl rfl Try.func40 (by kernel_rfl) rfl #[.int .i64 a1, .int .i64 a2] rfl (by (try simp only [List.map_toArray, List.map_cons, List.map_nil]); first | done | rfl | (simp only [List.length_drop, List.length_take]; rfl)) ?_; (with_reducible refine (mathutil_AddOverflowInt64.calls k a1 a2 t108 t109 _ A11.out).mono ?_); rintro e w' ⟨rfl, ⟨nd, rfl⟩⟩; refine ⟨_, rfl, ?_⟩))
          go_ret2
          exact ⟨by first | rfl | (simp; done) | (simp [*]; done), by repeat (first | exact Drawn0.refl _ | apply Drawn0.step)⟩
        · rw [if_neg c10] at H
          have c10b0 : (a0 == 64) = false := beq_eq_false_iff_ne.mpr c10
          have c10b1 : (a0 != 64) = true := bne_iff_ne.mpr c10
          simp only [Option.some.injEq, Prod.mk.injEq] at H
          obtain ⟨rfl, rfl⟩ := H
          go_enter Try.func26, Try.ntmps26
          go_wp2
          go_ret2
          exact ⟨by first | rfl | (simp; done) | (simp [*]; done), by repeat (first | exact Drawn0.refl _ | apply Drawn0.step)⟩

/-! ### mathutil_MulOverflowInt8: function 41 -/
def mathutil_MulOverflowInt8.f (a0 : Int) (a1 : Int) : Option (Int × Bool) := if a0 = 0 then (some (0, false)) else (if a1 = 0 then (some (0, false)) else (if (IntKind.i16.wrap ((IntKind.i16.wrap (a0)) * (IntKind.i16.wrap (a1)))) < (-128) then (some (IntKind.i8.wrap (IntKind.i16.wrap ((IntKind.i16.wrap (a0)) * (IntKind.i16.wrap (a1)))), true)) else (some (IntKind.i8.wrap (IntKind.i16.wrap ((IntKind.i16.wrap (a0)) * (IntKind.i16.wrap (a1)))), decide ((IntKind.i16.wrap ((IntKind.i16.wrap (a0)) * (IntKind.i16.wrap (a1)))) > 127)))))
set_option maxHeartbeats 8000000 in
set_option maxRecDepth 100000 in
theorem mathutil_MulOverflowInt8.calls (a0 : Int) (a1 : Int) (r1 : Int) (r2 : Bool) (w : World) (h : mathutil_MulOverflowInt8.f a0 a1 = some (r1, r2)) :
    Calls Try.prog 41 #[.int .i8 a0, .int .i8 a1] w fun e w' => e = .returned (.tuple #[.int .i8 r1, .bool r2]) ∧ Drawn0 w w' := by
  have H : (if a0 = 0 then (some (0, false)) else (if a1 = 0 then (some (0, false)) else (if (IntKind.i16.wrap ((IntKind.i16.wrap (a0)) * (IntKind.i16.wrap (a1)))) < (-128) then (some (IntKind.i8.wrap (IntKind.i16.wrap ((IntKind.i16.wrap (a0)) * (IntKind.i16.wrap (a1)))), true)) else (some (IntKind.i8.wrap (IntKind.i16.wrap ((IntKind.i16.wrap (a0)) * (IntKind.i16.wrap (a1)))), decide ((IntKind.i16.wrap ((IntKind.i16.wrap (a0)) * (IntKind.i16.wrap (a1)))) > 127)))))) = some (r1, r2) := h
  clear h
  by_cases c3 : a0 = 0
  · rw [if_pos c3] at H
    have c3b0 : (a0 == 0) = true := beq_iff_eq.mpr c3
    have c3b1 : (a0 != 0) = false := bne_eq_false_iff_eq.mpr c3
    clear c3
    simp only [Option.some.injEq, Prod.mk.injEq] at H
    obtain ⟨rfl, rfl⟩ := H
    go_enter Try.func41, Try.ntmps41
    go_wp2
    go_ret2
    exact ⟨by first | rfl | (simp; done) | (simp [*]; done), by repeat (first | exact Drawn0.refl _ | apply Drawn0.step)⟩
  · rw [if_neg c3] at H
    have c3b0 : (a0 == 0) = false := beq_eq_false_iff_ne.mpr c3
    have c3b1 : (a0 != 0) = true := bne_iff_ne.mpr c3
    by_cases c4 : a1 = 0
    · rw [if_pos c4] at H
      have c4b0 : (a1 == 0) = true := beq_iff_eq.mpr c4
      have c4b1 : (a1 != 0) = false := bne_eq_false_iff_eq.mpr c4
      clear c4
      simp only [Option.some.injEq, Prod.mk.injEq] at H
      obtain ⟨rfl, rfl⟩ := H
      go_enter Try.func41, Try.ntmps41
      go_wp2
      go_ret2
      exact ⟨by first | rfl | (simp; done) | (simp [*]; done), by repeat (first | exact Drawn0.refl _ | apply Drawn0.step)⟩
    · rw [if_neg c4] at H
      have c4b0 : (a1 == 0) = false := beq_eq_false_iff_ne.mpr c4
      have c4b1 : (a1 != 0) = true := bne_iff_ne.mpr c4
      by_cases c5 : (IntKind.i16.wrap ((IntKind.i16.wrap (a0)) * (IntKind.i16.wrap (a1)))) < (-128)
      · rw [if_pos c5] at H
        have c5b0 : decide ((IntKind.i16.wrap ((IntKind.i16.wrap (a0)) * (IntKind.i16.wrap (a1)))) < (-128)) = true := decide_eq_true c5
        clear c5
        simp only [Option.some.injEq, Prod.mk.injEq] at H
        obtain ⟨rfl, rfl⟩ := H
        go_enter Try.func41, Try.ntmps41
        go_wp2
        go_ret2
        exact ⟨by first | rfl | (simp; done) | (simp [*]; done), by repeat (first | exact Drawn0.refl _ | apply Drawn0.step)⟩
      · rw [if_neg c5] at H
        have c5b0 : decide ((IntKind.i16.wrap ((IntKind.i16.wrap (a0)) * (IntKind.i16.wrap (a1)))) < (-128)) = false := decide_eq_false c5
        clear c5
        simp only [Option.some.injEq, Prod.mk.injEq] at H
        obtain ⟨rfl, rfl⟩ := H
        go_enter Try.func41, Try.ntmps41
        go_wp2
        go_ret2
        exact ⟨by first | rfl | (simp; done) | (simp [*]; done), by repeat (first | exact Drawn0.refl _ | apply Drawn0.step)⟩

/-! ### mathutil_MulOverflowInt16: function 42 -/
def mathutil_MulOverflowInt16.f (a0 : Int) (a1 : Int) : Option (Int × Bool) := if a0 = 0 then (some (0, false)) else (if a1 = 0 then (some (0, false)) else (if (wrap32 ((wrap32 (a0)) * (wrap32 (a1)))) < (-32768) then (some (IntKind.i16.wrap (wrap32 ((wrap32 (a0)) * (wrap32 (a1)))), true)) else (some (IntKind.i16.wrap (wrap32 ((wrap32 (a0)) * (wrap32 (a1)))), decide ((wrap32 ((wrap32 (a0)) * (wrap32 (a1)))) > 32767)))))
set_option maxHeartbeats 8000000 in
set_option maxRecDepth 100000 in
theorem mathutil_MulOverflowInt16.calls (a0 : Int) (a1 : Int) (r1 : Int) (r2 : Bool) (w : World) (h : mathutil_MulOverflowInt16.f a0 a1 = some (r1, r2)) :
    Calls Try.prog 42 #[.int .i16 a0, .int .i16 a1] w fun e w' => e = .returned (.tuple #[.int .i16 r1, .bool r2]) ∧ Drawn0 w w' := by
  have H : (if a0 = 0 then (some (0, false)) else (if a1 = 0 then (some (0, false)) else (if (wrap32 ((wrap32 (a0)) * (wrap32 (a1)))) < (-32768) then (some (IntKind.i16.wrap (wrap32 ((wrap32 (a0)) * (wrap32 (a1)))), true)) else (some (IntKind.i16.wrap (wrap32 ((wrap32 (a0)) * (wrap32 (a1)))), decide ((wrap32 ((wrap32 (a0)) * (wrap32 (a1)))) > 32767)))))) = some (r1, r2) := h
  clear h
  by_cases c3 : a0 = 0
  · rw [if_pos c3] at H
    have c3b0 : (a0 == 0) = true := beq_iff_eq.mpr c3
    have c3b1 : (a0 != 0) = false := bne_eq_false_iff_eq.mpr c3
    clear c3
    simp only [Option.some.injEq, Prod.mk.injEq] at H
    obtain ⟨rfl, rfl⟩ := H
    go_enter Try.func42, Try.ntmps42
    go_wp2
    go_ret2
    exact ⟨by first | rfl | (simp; done) | (simp [*]; done), by repeat (first | exact Drawn0.refl _ | apply Drawn0.step)⟩
  · rw [if_neg c3] at H
    have c3b0 : (a0 == 0) = false := beq_eq_false_iff_ne.mpr c3
    have c3b1 : (a0 != 0) = true := bne_iff_ne.mpr c3
    by_cases c4 : a1 = 0
    · rw [if_pos c4] at H
      have c4b0 : (a1 == 0) = true := beq_iff_eq.mpr c4
      have c4b1 : (a1 != 0) = false := bne_eq_false_iff_eq.mpr c4
      clear c4
      simp only [Option.some.injEq, Prod.mk.injEq] at H
      obtain ⟨rfl, rfl⟩ := H
      go_enter Try.func42, Try.ntmps42
      go_wp2
      go_ret2
      exact ⟨by first | rfl | (simp; done) | (simp [*]; done), by repeat (first | exact Drawn0.refl _ | apply Drawn0.step)⟩
    · rw [if_neg c4] at H
      have c4b0 : (a1 == 0) = false := beq_eq_false_iff_ne.mpr c4
      have c4b1 : (a1 != 0) = true := bne_iff_ne.mpr c4
      by_cases c5 : (wrap32 ((wrap32 (a0)) * (wrap32 (a1)))) < (-32768)
      · rw [if_pos c5] at H
        have c5b0 : decide ((wrap32 ((wrap32 (a0)) * (wrap32 (a1)))) < (-32768)) = true := decide_eq_true c5
        clear c5
        simp only [Option.some.injEq, Prod.mk.injEq] at H
        obtain ⟨rfl, rfl⟩ := H
        go_enter Try.func42, Try.ntmps42
        go_wp2
        go_ret2
        exact ⟨by first | rfl | (simp; done) | (simp [*]; done), by repeat (first | exact Drawn0.refl _ | apply Drawn0.step)⟩
      · rw [if_neg c5] at H
        have c5b0 : decide ((wrap32 ((wrap32 (a0)) * (wrap32 (a1)))) < (-32768)) = false := decide_eq_false c5
        clear c5
        simp only [Option.some.injEq, Prod.mk.injEq] at H
        obtain ⟨rfl, rfl⟩ := H
        go_enter Try.func42, Try.ntmps42
        go_wp2
        go_ret2
        exact ⟨by first | rfl | (simp; done) | (simp [*]; done), by repeat (first | exact Drawn0.refl _ | apply Drawn0.step)⟩

/-! ### mathutil_MulOverflowInt32: function 43 -/
def mathutil_MulOverflowInt32.f (a0 : Int) (a1 : Int) : Option (Int × Bool) := if a0 = 0 then (some (0, false)) else (if a1 = 0 then (some (0, false)) else (if (wrap64 ((wrap64 (a0)) * (wrap64 (a1)))) < (-2147483648) then (some (wrap32 (wrap64 ((wrap64 (a0)) * (wrap64 (a1)))), true)) else (some (wrap32 (wrap64 ((wrap64 (a0)) * (wrap64 (a1)))), decide ((wrap64 ((wrap64 (a0)) * (wrap64 (a1)))) > 2147483647)))))
set_option maxHeartbeats 8000000 in
set_option maxRecDepth 100000 in
theorem mathutil_MulOverflowInt32.calls (a0 : Int) (a1 : Int) (r1 : Int) (r2 : Bool) (w : World) (h : mathutil_MulOverflowInt32.f a0 a1 = some (r1, r2)) :
    Calls Try.prog 43 #[.int .i32 a0, .int .i32 a1] w fun e w' => e = .returned (.tuple #[.int .i32 r1, .bool r2]) ∧ Drawn0 w w' := by
  have H : (if a0 = 0 then (some (0, false)) else (if a1 = 0 then (some (0, false)) else (if (wrap64 ((wrap64 (a0)) * (wrap64 (a1)))) < (-2147483648) then (some (wrap32 (wrap64 ((wrap64 (a0)) * (wrap64 (a1)))), true)) else (some (wrap32 (wrap64 ((wrap64 (a0)) * (wrap64 (a1)))), decide ((wrap64 ((wrap64 (a0)) * (wrap64 (a1)))) > 2147483647)))))) = some (r1, r2) := h
  clear h
  by_cases c3 : a0 = 0
  · rw [if_pos c3] at H
    have c3b0 : (a0 == 0) = true := beq_iff_eq.mpr c3
    have c3b1 : (a0 != 0) = false := bne_eq_false_iff_eq.mpr c3
    clear c3
    simp only [Option.some.injEq, Prod.mk.injEq] at H
    obtain ⟨rfl, rfl⟩ := H
    go_enter Try.func43, Try.ntmps43
    go_wp2
    go_ret2
    exact ⟨by first | rfl | (simp; done) | (simp [*]; done), by repeat (first | exact Drawn0.refl _ | apply Drawn0.step)⟩
  · rw [if_neg c3] at H
    have c3b0 : (a0 == 0) = false := beq_eq_false_iff_ne.mpr c3
    have c3b1 : (a0 != 0) = true := bne_iff_ne.mpr c3
    by_cases c4 : a1 = 0
    · rw [if_pos c4] at H
      have c4b0 : (a1 == 0) = true := beq_iff_eq.mpr c4
      have c4b1 : (a1 != 0) = false := bne_eq_false_iff_eq.mpr c4
      clear c4
      simp only [Option.some.injEq, Prod.mk.injEq] at H
      obtain ⟨rfl, rfl⟩ := H
      go_enter Try.func43, Try.ntmps43
      go_wp2
      go_ret2
      exact ⟨by first | rfl | (simp; done) | (simp [*]; done), by repeat (first | exact Drawn0.refl _ | apply Drawn0.step)⟩
    · rw [if_neg c4] at H
      have c4b0 : (a1 == 0) = false := beq_eq_false_iff_ne.mpr c4
      have c4b1 : (a1 != 0) = true := bne_iff_ne.mpr c4
      by_cases c5 : (wrap64 ((wrap64 (a0)) * (wrap64 (a1)))) < (-2147483648)
      · rw [if_pos c5] at H
        have c5b0 : decide ((wrap64 ((wrap64 (a0)) * (wrap64 (a1)))) < (-2147483648)) = true := decide_eq_true c5
        clear c5
        simp only [Option.some.injEq, Prod.mk.injEq] at H
        obtain ⟨rfl, rfl⟩ := H
        go_enter Try.func43, Try.ntmps43
        go_wp2
        go_ret2
        exact ⟨by first | rfl | (simp; done) | (simp [*]; done), by repeat (first | exact Drawn0.refl _ | apply Drawn0.step)⟩
      · rw [if_neg c5] at H
        have c5b0 : decide ((wrap64 ((wrap64 (a0)) * (wrap64 (a1)))) < (-2147483648)) = false := decide_eq_false c5
        clear c5
        simp only [Option.some.injEq, Prod.mk.injEq] at H
        obtain ⟨rfl, rfl⟩ := H
        go_enter Try.func43, Try.ntmps43
        go_wp2
        go_ret2
        exact ⟨by first | rfl | (simp; done) | (simp [*]; done), by repeat (first | exact Drawn0.refl _ | apply Drawn0.step)⟩

end Go.Proofs.Ytfnimhjabbnldaa.PFnMulOverflow
