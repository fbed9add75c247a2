/- The functions that the law 'FnPermutationNext' reaches, each with its contract. -/
import Derived.Test.YtpelipdecjooeaaOFnPermutationNextx0
import Derived.Test.YtpelipdecjooeaaOFnPermutationNextx1
import Derived.Test.YtpelipdecjooeaaOFnPermutationNextx2
namespace Go.Proofs.Ytpelipdecjooeaa.PFnPermutationNext
open Go.RowKit Go.Proofs.YtpelipdecjooeaaW.PrintWords Go.Proofs.YtpelipdecjooeaaW.PrintLast Go.Proofs.YtpelipdecjooeaaW.PrintMore
attribute [local go_sem] max2_int min2_int max_two min_two max_three min_three max_four min_four   -- for this text's walks alone
set_option linter.unusedVariables false
set_option linter.unusedSimpArgs false

theorem last_drop (k : Nat) (A : Option Addr) (c : Nat) (l : List Int) (n : Nat) (r : Bool) (w : World) (h1 : Kd.C (Kd.int .i64) w A (l.drop n).length (l.drop n)) (h2 : (l.drop n).length ≤ c) (h : spec_IsLast.f k (l.drop n) = some r) :
    Calls Try.prog 13 #[.slice A (l.length - n) c] w fun e w' => e = .returned (.bool r) ∧ Drawn0 w w' := by
  have := spec_IsLast.calls k A c (l.drop n) r w h1 h2 h
  rw [List.length_drop] at this
  exact this
theorem sorted_drop (k : Nat) (A : Option Addr) (c : Nat) (l : List Int) (n : Nat) (r : Bool) (w : World) (h1 : Kd.C (Kd.int .i64) w A (l.drop n).length (l.drop n)) (h2 : (l.drop n).length ≤ c) (h : spec_IsSorted.f k (l.drop n) = some r) :
    Calls Try.prog 11 #[.slice A (l.length - n) c] w fun e w' => e = .returned (.bool r) ∧ Drawn0 w w' := by
  have := spec_IsSorted.calls k A c (l.drop n) r w h1 h2 h
  rw [List.length_drop] at this
  exact this

/-! ### laws_FnPermutationNext: function 5 -/
mutual
def laws_FnPermutationNext.j0 : Nat → List Int → List Int → Bool → Bool → Option (Bool)
  | 0, _, _, _, _ => none
  | k + 1, x0, x3, x4, x27 => if x27 = true then (some false) else (if x4 = true then ((spec_IsTurned.f k x3 x0).bind fun t188 => (if t188 = true then ((spec_Less.f k x0 x3).bind fun t189 => (laws_FnPermutationNext.j1 k x0 x3 (!t189))) else (laws_FnPermutationNext.j1 k x0 x3 true))) else (some true))
def laws_FnPermutationNext.j1 : Nat → List Int → List Int → Bool → Option (Bool)
  | 0, _, _, _ => none
  | k + 1, x0, x3, x39 => if x39 = true then (some false) else (laws_FnPermutationNext.l0 k x0 x3 0)
def laws_FnPermutationNext.l0 : Nat → List Int → List Int → Int → Option (Bool)
  | 0, _, _, _ => none
  | k + 1, x0, x3, x5 => if 0 ≤ x5 then (if x5 < (x0.length : Int) then (if x5 < (x3.length : Int) then (if (rd x0 x5) = (rd x3 x5) then (laws_FnPermutationNext.l0 k x0 x3 (wrap64 (x5 + 1))) else (if 0 ≤ (wrap64 (x5 + 1)) then (if (wrap64 (x5 + 1)) ≤ (x0.length : Int) then (laws_FnPermutationNext.l1 k x0 x3 x5 (x0.drop ((wrap64 (x5 + 1)) : Int).toNat) ((x0.drop ((wrap64 (x5 + 1)) : Int).toNat).length : Int) 0) else (none)) else (none))) else (none)) else (none)) else (none)
def laws_FnPermutationNext.l1 : Nat → List Int → List Int → Int → List Int → Int → Int → Option (Bool)
  | 0, _, _, _, _, _, _ => none
  | k + 1, x0, x3, x5, x54, x55, x56 => if x56 < x55 then (if 0 ≤ x56 then (if x56 < (x54.length : Int) then (if 0 ≤ x5 then (if x5 < (x0.length : Int) then (if (rd x54 x56) > (rd x0 x5) then (if x5 < (x3.length : Int) then (if (rd x54 x56) < (rd x3 x5) then (some false) else (laws_FnPermutationNext.l1 k x0 x3 x5 x54 x55 (wrap64 (x56 + 1)))) else (none)) else (laws_FnPermutationNext.l1 k x0 x3 x5 x54 x55 (wrap64 (x56 + 1)))) else (none)) else (none)) else (none)) else (none)) else (if 0 ≤ (wrap64 (x5 + 1)) then (if (wrap64 (x5 + 1)) ≤ (x0.length : Int) then ((spec_IsLast.f k (x0.drop ((wrap64 (x5 + 1)) : Int).toNat)).bind fun t197 => (if t197 = true then (if (wrap64 (x5 + 1)) ≤ (x3.length : Int) then ((spec_IsSorted.f k (x3.drop ((wrap64 (x5 + 1)) : Int).toNat)).bind fun t202 => (some t202)) else (none)) else (some false))) else (none)) else (none))
end
def laws_FnPermutationNext.f (k : Nat) (l0 : List Int) : Option (Bool) := if (l0.length : Int) > 2147483647 then (some true) else (if (l0.length : Int) > 1000 then ((laws_ordered.f k).bind fun t181 => (some t181)) else ((impl_PermutationNext.f l0).bind fun bt182 => ((laws_ordered.f k).bind fun t186 => (if t186 = true then ((spec_IsLast.f k l0).bind fun t187 => (laws_FnPermutationNext.j0 k l0 bt182.1 bt182.2 (bt182.2 == t187))) else (laws_FnPermutationNext.j0 k l0 bt182.1 bt182.2 true)))))
theorem laws_FnPermutationNext.mono_l : ∀ k, (∀ y0 y1 y2 y3, LeO (laws_FnPermutationNext.j0 k y0 y1 y2 y3) (laws_FnPermutationNext.j0 (k + 1) y0 y1 y2 y3)) ∧ (∀ y0 y1 y2, LeO (laws_FnPermutationNext.j1 k y0 y1 y2) (laws_FnPermutationNext.j1 (k + 1) y0 y1 y2)) ∧ (∀ y0 y1 y2, LeO (laws_FnPermutationNext.l0 k y0 y1 y2) (laws_FnPermutationNext.l0 (k + 1) y0 y1 y2)) ∧ (∀ y0 y1 y2 y3 y4 y5, LeO (laws_FnPermutationNext.l1 k y0 y1 y2 y3 y4 y5) (laws_FnPermutationNext.l1 (k + 1) y0 y1 y2 y3 y4 y5))
  | 0 => ⟨fun _ _ _ _ r h => by simp [laws_FnPermutationNext.j0] at h, fun _ _ _ r h => by simp [laws_FnPermutationNext.j1] at h, fun _ _ _ r h => by simp [laws_FnPermutationNext.l0] at h, fun _ _ _ _ _ _ r h => by simp [laws_FnPermutationNext.l1] at h⟩
  | k + 1 => by
    obtain ⟨ih0, ih1, ih2, ih3⟩ := laws_FnPermutationNext.mono_l k
    refine ⟨?_, ?_, ?_, ?_⟩
    · intro y0 y1 y2 y3
      unfold laws_FnPermutationNext.j0
      repeat' first
      | (with_reducible exact ih0 _ _ _ _)
      | (with_reducible exact ih1 _ _ _)
      | (with_reducible exact ih2 _ _ _)
      | (with_reducible exact ih3 _ _ _ _ _ _)
      | (with_reducible exact laws_ordered.mono _)
      | (with_reducible exact spec_IsLast.mono _ _)
      | (with_reducible exact spec_IsSorted.mono _ _)
      | (with_reducible exact spec_IsTurned.mono _ _ _)
      | (with_reducible exact spec_Less.mono _ _ _)
      | (with_reducible exact LeO.refl _)
      | (with_reducible exact LeO.none _)
      | (with_reducible refine LeO.ite ?_ ?_)
      | (with_reducible refine LeO.bind ?_ (fun _ => ?_))
      | exact ih0 _ _ _ _
      | exact ih1 _ _ _
      | exact ih2 _ _ _
      | exact ih3 _ _ _ _ _ _
      | exact laws_ordered.mono _
      | exact spec_IsLast.mono _ _
      | exact spec_IsSorted.mono _ _
      | exact spec_IsTurned.mono _ _ _
      | exact spec_Less.mono _ _ _
      | exact LeO.none _
      | refine LeO.ite ?_ ?_
      | refine LeO.bind ?_ (fun _ => ?_)
    · intro y0 y1 y2
      unfold laws_FnPermutationNext.j1
      repeat' first
      | (with_reducible exact ih0 _ _ _ _)
      | (with_reducible exact ih1 _ _ _)
      | (with_reducible exact ih2 _ _ _)
      | (with_reducible exact ih3 _ _ _ _ _ _)
      | (with_reducible exact laws_ordered.mono _)
      | (with_reducible exact spec_IsLast.mono _ _)
      | (with_reducible exact spec_IsSorted.mono _ _)
      | (with_reducible exact spec_IsTurned.mono _ _ _)
      | (with_reducible exact spec_Less.mono _ _ _)
      | (with_reducible exact LeO.refl _)
      | (with_reducible exact LeO.none _)
      | (with_reducible refine LeO.ite ?_ ?_)
      | (with_reducible refine LeO.bind ?_ (fun _ => ?_))
      | exact ih0 _ _ _ _
      | exact ih1 _ _ _
      | exact ih2 _ _ _
      | exact ih3 _ _ _ _ _ _
      | exact laws_ordered.mono _
      | exact spec_IsLast.mono _ _
      | exact spec_IsSorted.mono _ _
      | exact spec_IsTurned.mono _ _ _
      | exact spec_Less.mono _ _ _
      | exact LeO.none _
      | refine LeO.ite ?_ ?_
      | refine LeO.bind ?_ (fun _ => ?_)
    · intro y0 y1 y2
      unfold laws_FnPermutationNext.l0
      repeat' first
      | (with_reducible exact ih0 _ _ _ _)
      | (with_reducible exact ih1 _ _ _)
      | (with_reducible exact ih2 _ _ _)
      | (with_reducible exact ih3 _ _ _ _ _ _)
      | (with_reducible exact laws_ordered.mono _)
      | (with_reducible exact spec_IsLast.mono _ _)
      | (with_reducible exact spec_IsSorted.mono _ _)
      | (with_reducible exact spec_IsTurned.mono _ _ _)
      | (with_reducible exact spec_Less.mono _ _ _)
      | (with_reducible exact LeO.refl _)
      | (with_reducible exact LeO.none _)
      | (with_reducible refine LeO.ite ?_ ?_)
      | (with_reducible refine LeO.bind ?_ (fun _ => ?_))
      | exact ih0 _ _ _ _
      | exact ih1 _ _ _
      | exact ih2 _ _ _
      | exact ih3 _ _ _ _ _ _
      | exact laws_ordered.mono _
      | exact spec_IsLast.mono _ _
      | exact spec_IsSorted.mono _ _
      | exact spec_IsTurned.mono _ _ _
      | exact spec_Less.mono _ _ _
      | exact LeO.none _
      | refine LeO.ite ?_ ?_
      | refine LeO.bind ?_ (fun _ => ?_)
    · intro y0 y1 y2 y3 y4 y5
      unfold laws_FnPermutationNext.l1
      repeat' first
      | (with_reducible exact ih0 _ _ _ _)
      | (with_reducible exact ih1 _ _ _)
      | (with_reducible exact ih2 _ _ _)
      | (with_reducible exact ih3 _ _ _ _ _ _)
      | (with_reducible exact laws_ordered.mono _)
      | (with_reducible exact spec_IsLast.mono _ _)
      | (with_reducible exact spec_IsSorted.mono _ _)
      | (with_reducible exact spec_IsTurned.mono _ _ _)
      | (with_reducible exact spec_Less.mono _ _ _)
      | (with_reducible exact LeO.refl _)
      | (with_reducible exact LeO.none _)
      | (with_reducible refine LeO.ite ?_ ?_)
      | (with_reducible refine LeO.bind ?_ (fun _ => ?_))
      | exact ih0 _ _ _ _
      | exact ih1 _ _ _
      | exact ih2 _ _ _
      | exact ih3 _ _ _ _ _ _
      | exact laws_ordered.mono _
      | exact spec_IsLast.mono _ _
      | exact spec_IsSorted.mono _ _
      | exact spec_IsTurned.mono _ _ _
      | exact spec_Less.mono _ _ _
      | exact LeO.none _
      | refine LeO.ite ?_ ?_
      | refine LeO.bind ?_ (fun _ => ?_)
theorem laws_FnPermutationNext.mono : ∀ a0 k, LeO (laws_FnPermutationNext.f k a0) (laws_FnPermutationNext.f (k + 1) a0) := by
  intro a0 k
  obtain ⟨ih0, ih1, ih2, ih3⟩ := laws_FnPermutationNext.mono_l k
  unfold laws_FnPermutationNext.f
  repeat' first
      | (with_reducible exact ih0 _ _ _ _)
      | (with_reducible exact ih1 _ _ _)
      | (with_reducible exact ih2 _ _ _)
      | (with_reducible exact ih3 _ _ _ _ _ _)
      | (with_reducible exact laws_ordered.mono _)
      | (with_reducible exact spec_IsLast.mono _ _)
      | (with_reducible exact spec_IsSorted.mono _ _)
      | (with_reducible exact spec_IsTurned.mono _ _ _)
      | (with_reducible exact spec_Less.mono _ _ _)
      | (with_reducible exact LeO.refl _)
      | (with_reducible exact LeO.none _)
      | (with_reducible refine LeO.ite ?_ ?_)
      | (with_reducible refine LeO.bind ?_ (fun _ => ?_))
      | exact ih0 _ _ _ _
      | exact ih1 _ _ _
      | exact ih2 _ _ _
      | exact ih3 _ _ _ _ _ _
      | exact laws_ordered.mono _
      | exact spec_IsLast.mono _ _
      | exact spec_IsSorted.mono _ _
      | exact spec_IsTurned.mono _ _ _
      | exact spec_Less.mono _ _ _
      | exact LeO.none _
      | refine LeO.ite ?_ ?_
      | refine LeO.bind ?_ (fun _ => ?_)
set_option maxHeartbeats 8000000 in
set_option maxRecDepth 100000 in
theorem laws_FnPermutationNext.calls (k : Nat) (A0 : Option Addr) (c0 : Nat) (l0 : List Int) (r : Bool) (w : World) (hr0 : Kd.C (Kd.int .i64) w A0 l0.length l0) (hc0 : l0.length ≤ c0) (h : laws_FnPermutationNext.f k l0 = some r) :
    Calls Try.prog 5 #[.slice A0 l0.length c0] w fun e w' => e = .returned (.bool r) ∧ Below w.heap.size w w' := by
  have HR0 := Aside0.mk hr0
  have HC0 := Aside0.mk hc0
  clear hr0 hc0
  have HB := Aside0.mk (Below.refl w.heap.size w)
  have H : (if (l0.length : Int) > 2147483647 then (some true) else (if (l0.length : Int) > 1000 then ((laws_ordered.f k).bind fun t181 => (some t181)) else ((impl_PermutationNext.f l0).bind fun bt182 => ((laws_ordered.f k).bind fun t186 => (if t186 = true then ((spec_IsLast.f k l0).bind fun t187 => (laws_FnPermutationNext.j0 k l0 bt182.1 bt182.2 (bt182.2 == t187))) else (laws_FnPermutationNext.j0 k l0 bt182.1 bt182.2 true)))))) = some r := h
  clear h
  by_cases c2 : (l0.length : Int) > 2147483647
  · rw [if_pos c2] at H
    have c2b0 : decide (2147483647 < (l0.length : Int)) = true := decide_eq_true c2
    have c2b1 : decide (2147483647 < l0.length) = true := decide_eq_true (by omega)
    clear c2
    obtain rfl := Option.some.inj H
    go_enter Try.func5, Try.ntmps5
    go_wp2
    repeat (go_quiet (fail); try go_wp2)
    go_ret
    exact ⟨by first | rfl | (simp [errW_none, errW_some] <;> rfl) | (simp [*, errW_none, errW_some] <;> rfl), by repeat (first | (with_reducible first | exact HB.out | apply below_alloc | apply pw_below_drewN | apply below_drew1) | exact HB.out)⟩
  · rw [if_neg c2] at H
    have c2b0 : decide (2147483647 < (l0.length : Int)) = false := decide_eq_false c2
    have c2b1 : decide (2147483647 < l0.length) = false := decide_eq_false (by omega)
    clear c2
    by_cases c3 : (l0.length : Int) > 1000
    · rw [if_pos c3] at H
      have c3b0 : decide (1000 < (l0.length : Int)) = true := decide_eq_true c3
      have c3b1 : decide (1000 < l0.length) = true := decide_eq_true (by omega)
      clear c3
      replace H := Option.bind_eq_some_iff.mp H
      obtain ⟨t181, A40, H⟩ := H
      replace H : (some t181) = some r := H
      have A4 := Aside0.mk A40
      clear A40
      obtain rfl := Option.some.inj H
      go_enter Try.func5, Try.ntmps5
      go_wp2_with (first | (go_at_call 6; (with_reducible refine (laws_ordered.calls k  t181 _ A4.out).mono ?_); rintro e w5 ⟨rfl, hb⟩; have n0_ := Aside0.mk (below_step (by repeat (first | (with_reducible first | exact HB.out | apply below_alloc | apply pw_below_drewN | apply below_drew1) | exact HB.out)) hb); clear HB; have HB := n0_; clear n0_; (try clear hb); (try clear hb2); (try clear hk); (try clear hi)))
      repeat (go_quiet (first | (go_at_call 6; (with_reducible refine (laws_ordered.calls k  t181 _ A4.out).mono ?_); rintro e w5 ⟨rfl, hb⟩; have n0_ := Aside0.mk (below_step (by repeat (first | (with_reducible first | exact HB.out | apply below_alloc | apply pw_below_drewN | apply below_drew1) | exact HB.out)) hb); clear HB; have HB := n0_; clear n0_; (try clear hb); (try clear hb2); (try clear hk); (try clear hi))); try go_wp2_with (first | (go_at_call 6; (with_reducible refine (laws_ordered.calls k  t181 _ A4.out).mono ?_); rintro e w5 ⟨rfl, hb⟩; have n0_ := Aside0.mk (below_step (by repeat (first | (with_reducible first | exact HB.out | apply below_alloc | apply pw_below_drewN | apply below_drew1) | exact HB.out)) hb); clear HB; have HB := n0_; clear n0_; (try clear hb); (try clear hb2); (try clear hk); (try clear hi))))
      go_ret
      exact ⟨by first | rfl | (simp [errW_none, errW_some] <;> rfl) | (simp [*, errW_none, errW_some] <;> rfl), by repeat (first | (with_reducible first | exact HB.out | apply below_alloc | apply pw_below_drewN | apply below_drew1) | exact HB.out)⟩
    · rw [if_neg c3] at H
      have c3b0 : decide (1000 < (l0.length : Int)) = false := decide_eq_false c3
      have c3b1 : decide (1000 < l0.length) = false := decide_eq_false (by omega)
      clear c3
      replace H := Option.bind_eq_some_iff.mp H
      obtain ⟨⟨t182, t183⟩, A60, H⟩ := H
      replace H : ((laws_ordered.f k).bind fun t186 => (if t186 = true then ((spec_IsLast.f k l0).bind fun t187 => (laws_FnPermutationNext.j0 k l0 t182 t183 (t183 == t187))) else (laws_FnPermutationNext.j0 k l0 t182 t183 true))) = some r := H
      have A6 := Aside0.mk A60
      clear A60
      have HC7 := Aside0.mk H
      clear H
      go_enter Try.func5, Try.ntmps5
      go_upto_region 6 with (first | (go_at_call 10; (with_reducible refine (impl_PermutationNext.calls _ _ l0 t182 t183 _ ?side1 ?side2 A6.out).mono ?_); (case side1 => repeat (first | exact HR0.out | (with_reducible refine Kd.C_alloc ?_ _) | (with_reducible refine Kd.C_drewN ?_ _) | (with_reducible refine Kd.C_drew ?_))); (case side2 => exact HC0.out); rintro e w8 ⟨v184, rfl, ho0, hb⟩; have n0_ := Aside0.mk (Kd.R_lower ho0 (below_size (by repeat (first | (with_reducible first | exact HB.out | apply below_alloc | apply pw_below_drewN | apply below_drew1) | exact HB.out)))); have n1_ := Aside0.mk (below_step (by repeat (first | (with_reducible first | exact HB.out | apply below_alloc | apply pw_below_drewN | apply below_drew1) | exact HB.out)) hb); clear HB; have HO185 := n0_; have HB := n1_; clear n0_ n1_; (try clear hb); (try clear hb2); (try clear hk); (try clear hi); (try clear ho0)))
      repeat (go_quiet (first | (go_at_call 10; (with_reducible refine (impl_PermutationNext.calls _ _ l0 t182 t183 _ ?side1 ?side2 A6.out).mono ?_); (case side1 => repeat (first | exact HR0.out | (with_reducible refine Kd.C_alloc ?_ _) | (with_reducible refine Kd.C_drewN ?_ _) | (with_reducible refine Kd.C_drew ?_))); (case side2 => exact HC0.out); rintro e w8 ⟨v184, rfl, ho0, hb⟩; have n0_ := Aside0.mk (Kd.R_lower ho0 (below_size (by repeat (first | (with_reducible first | exact HB.out | apply below_alloc | apply pw_below_drewN | apply below_drew1) | exact HB.out)))); have n1_ := Aside0.mk (below_step (by repeat (first | (with_reducible first | exact HB.out | apply below_alloc | apply pw_below_drewN | apply below_drew1) | exact HB.out)) hb); clear HB; have HO185 := n0_; have HB := n1_; clear n0_ n1_; (try clear hb); (try clear hb2); (try clear hk); (try clear hi); (try clear ho0))); go_upto_region 6 with (first | (go_at_call 10; (with_reducible refine (impl_PermutationNext.calls _ _ l0 t182 t183 _ ?side1 ?side2 A6.out).mono ?_); (case side1 => repeat (first | exact HR0.out | (with_reducible refine Kd.C_alloc ?_ _) | (with_reducible refine Kd.C_drewN ?_ _) | (with_reducible refine Kd.C_drew ?_))); (case side2 => exact HC0.out); rintro e w8 ⟨v184, rfl, ho0, hb⟩; have n0_ := Aside0.mk (Kd.R_lower ho0 (below_size (by repeat (first | (with_reducible first | exact HB.out | apply below_alloc | apply pw_below_drewN | apply below_drew1) | exact HB.out)))); have n1_ := Aside0.mk (below_step (by repeat (first | (with_reducible first | exact HB.out | apply below_alloc | apply pw_below_drewN | apply below_drew1) | exact HB.out)) hb); clear HB; have HO185 := n0_; have HB := n1_; clear n0_ n1_; (try clear hb); (try clear hb2); (try clear hk); (try clear hi); (try clear ho0))))
      (try simp only [Act.put, List.setIfInBounds_toArray, List.set_cons_zero, List.set_cons_succ])
      go_cut [27] (fun v27 wc => ∃ (kq : Nat) (x27_6 : Bool), v27 = .bool x27_6 ∧ Aside0 (laws_FnPermutationNext.j0 kq l0 t182 t183 x27_6 = some r) ∧ Aside0 (kq ≤ k) ∧ Aside0 (Kd.R (Kd.int .i64) 3 wc w.heap.size (fun _ => True) v184 t182) ∧ Aside0 (Below w.heap.size w wc))
      case first =>
        have H := HC7.out
        clear HC7
        replace H := Option.bind_eq_some_iff.mp H
        obtain ⟨t186, A90, H⟩ := H
        replace H : (if t186 = true then ((spec_IsLast.f k l0).bind fun t187 => (laws_FnPermutationNext.j0 k l0 t182 t183 (t183 == t187))) else (laws_FnPermutationNext.j0 k l0 t182 t183 true)) = some r := H
        have A9 := Aside0.mk A90
        clear A90
        by_cases c10 : t186 = true
        · subst c10
          have H1 : ((spec_IsLast.f k l0).bind fun t187 => (laws_FnPermutationNext.j0 k l0 t182 t183 (t183 == t187))) = some r := by rw [if_pos rfl] at H; exact H
          clear H
          have H := H1
          clear H1
          replace H := Option.bind_eq_some_iff.mp H
          obtain ⟨t187, A110, H⟩ := H
          replace H : (laws_FnPermutationNext.j0 k l0 t182 t183 (t183 == t187)) = some r := H
          have A11 := Aside0.mk A110
          clear A110
          have H' := Aside0.mk H
          clear H
          go_wp2_with (first | (go_at_call 6; (with_reducible refine (laws_ordered.calls k  true _ A9.out).mono ?_); rintro e w12 ⟨rfl, hb⟩; have n0_ := Aside0.mk (Kd.R_below (by (with_reducible repeat (first | apply Kd.R_alloc | apply Kd.R_drewN | apply Kd.R_drew)); exact HO185.out) hb); have n1_ := Aside0.mk (below_step (by repeat (first | (with_reducible first | exact HB.out | apply below_alloc | apply pw_below_drewN | apply below_drew1) | exact HB.out)) hb); clear HO185; clear HB; have HO185 := n0_; have HB := n1_; clear n0_ n1_; (try clear hb); (try clear hb2); (try clear hk); (try clear hi)) | (go_at_call 13; (with_reducible refine (spec_IsLast.calls k _ _ l0 t187 _ ?side1 ?side2 A11.out).mono ?_); (case side1 => repeat (first | exact (Kd.C_below HR0.out HB.out) | (with_reducible refine Kd.C_alloc ?_ _) | (with_reducible refine Kd.C_drewN ?_ _) | (with_reducible refine Kd.C_drew ?_))); (case side2 => exact HC0.out); rintro e w' ⟨rfl, ⟨nd, rfl⟩⟩; (try first | exact ⟨rfl, _, World.drewN_drewN _ _ _⟩ | exact ⟨rfl, _, Eq.trans (World.drewN_drewN _ _ _) (congrArg (World.drewN _) (Nat.add_assoc _ _ _))⟩)))
          repeat (go_quiet (first | (go_at_call 6; (with_reducible refine (laws_ordered.calls k  true _ A9.out).mono ?_); rintro e w12 ⟨rfl, hb⟩; have n0_ := Aside0.mk (Kd.R_below (by (with_reducible repeat (first | apply Kd.R_alloc | apply Kd.R_drewN | apply Kd.R_drew)); exact HO185.out) hb); have n1_ := Aside0.mk (below_step (by repeat (first | (with_reducible first | exact HB.out | apply below_alloc | apply pw_below_drewN | apply below_drew1) | exact HB.out)) hb); clear HO185; clear HB; have HO185 := n0_; have HB := n1_; clear n0_ n1_; (try clear hb); (try clear hb2); (try clear hk); (try clear hi)) | (go_at_call 13; (with_reducible refine (spec_IsLast.calls k _ _ l0 t187 _ ?side1 ?side2 A11.out).mono ?_); (case side1 => repeat (first | exact (Kd.C_below HR0.out HB.out) | (with_reducible refine Kd.C_alloc ?_ _) | (with_reducible refine Kd.C_drewN ?_ _) | (with_reducible refine Kd.C_drew ?_))); (case side2 => exact HC0.out); rintro e w' ⟨rfl, ⟨nd, rfl⟩⟩; (try first | exact ⟨rfl, _, World.drewN_drewN _ _ _⟩ | exact ⟨rfl, _, Eq.trans (World.drewN_drewN _ _ _) (congrArg (World.drewN _) (Nat.add_assoc _ _ _))⟩))); try go_wp2_with (first | (go_at_call 6; (with_reducible refine (laws_ordered.calls k  true _ A9.out).mono ?_); rintro e w12 ⟨rfl, hb⟩; have n0_ := Aside0.mk (Kd.R_below (by (with_reducible repeat (first | apply Kd.R_alloc | apply Kd.R_drewN | apply Kd.R_drew)); exact HO185.out) hb); have n1_ := Aside0.mk (below_step (by repeat (first | (with_reducible first | exact HB.out | apply below_alloc | apply pw_below_drewN | apply below_drew1) | exact HB.out)) hb); clear HO185; clear HB; have HO185 := n0_; have HB := n1_; clear n0_ n1_; (try clear hb); (try clear hb2); (try clear hk); (try clear hi)) | (go_at_call 13; (with_reducible refine (spec_IsLast.calls k _ _ l0 t187 _ ?side1 ?side2 A11.out).mono ?_); (case side1 => repeat (first | exact (Kd.C_below HR0.out HB.out) | (with_reducible refine Kd.C_alloc ?_ _) | (with_reducible refine Kd.C_drewN ?_ _) | (with_reducible refine Kd.C_drew ?_))); (case side2 => exact HC0.out); rintro e w' ⟨rfl, ⟨nd, rfl⟩⟩; (try first | exact ⟨rfl, _, World.drewN_drewN _ _ _⟩ | exact ⟨rfl, _, Eq.trans (World.drewN_drewN _ _ _) (congrArg (World.drewN _) (Nat.add_assoc _ _ _))⟩))))
          go_meet
          case rel => exact ⟨_, ((t183 == t187)), (by first | rfl | (simp; done) | (simp [*]; done)), H', ⟨by first | omega | exact Nat.le_refl _⟩, ⟨by (with_reducible repeat (first | apply Kd.R_alloc | apply Kd.R_drewN | apply Kd.R_drew)); exact HO185.out⟩, ⟨by repeat (first | (with_reducible first | exact HB.out | apply below_alloc | apply pw_below_drewN | apply below_drew1) | exact HB.out)⟩⟩
        · replace c10 := Bool.eq_false_iff.mpr c10
          subst c10
          have H1 : (laws_FnPermutationNext.j0 k l0 t182 t183 true) = some r := by rw [if_neg (show ¬ (false = true) by decide)] at H; exact H
          clear H
          have H := H1
          clear H1
          have H' := Aside0.mk H
          clear H
          go_wp2_with (first | (go_at_call 6; (with_reducible refine (laws_ordered.calls k  false _ A9.out).mono ?_); rintro e w13 ⟨rfl, hb⟩; have n0_ := Aside0.mk (Kd.R_below (by (with_reducible repeat (first | apply Kd.R_alloc | apply Kd.R_drewN | apply Kd.R_drew)); exact HO185.out) hb); have n1_ := Aside0.mk (below_step (by repeat (first | (with_reducible first | exact HB.out | apply below_alloc | apply pw_below_drewN | apply below_drew1) | exact HB.out)) hb); clear HO185; clear HB; have HO185 := n0_; have HB := n1_; clear n0_ n1_; (try clear hb); (try clear hb2); (try clear hk); (try clear hi)))
          repeat (go_quiet (first | (go_at_call 6; (with_reducible refine (laws_ordered.calls k  false _ A9.out).mono ?_); rintro e w13 ⟨rfl, hb⟩; have n0_ := Aside0.mk (Kd.R_below (by (with_reducible repeat (first | apply Kd.R_alloc | apply Kd.R_drewN | apply Kd.R_drew)); exact HO185.out) hb); have n1_ := Aside0.mk (below_step (by repeat (first | (with_reducible first | exact HB.out | apply below_alloc | apply pw_below_drewN | apply below_drew1) | exact HB.out)) hb); clear HO185; clear HB; have HO185 := n0_; have HB := n1_; clear n0_ n1_; (try clear hb); (try clear hb2); (try clear hk); (try clear hi))); try go_wp2_with (first | (go_at_call 6; (with_reducible refine (laws_ordered.calls k  false _ A9.out).mono ?_); rintro e w13 ⟨rfl, hb⟩; have n0_ := Aside0.mk (Kd.R_below (by (with_reducible repeat (first | apply Kd.R_alloc | apply Kd.R_drewN | apply Kd.R_drew)); exact HO185.out) hb); have n1_ := Aside0.mk (below_step (by repeat (first | (with_reducible first | exact HB.out | apply below_alloc | apply pw_below_drewN | apply below_drew1) | exact HB.out)) hb); clear HO185; clear HB; have HO185 := n0_; have HB := n1_; clear n0_ n1_; (try clear hb); (try clear hb2); (try clear hk); (try clear hi))))
          go_meet
          case rel => exact ⟨_, (true), (by first | rfl | (simp; done) | (simp [*]; done)), H', ⟨by first | omega | exact Nat.le_refl _⟩, ⟨by (with_reducible repeat (first | apply Kd.R_alloc | apply Kd.R_drewN | apply Kd.R_drew)); exact HO185.out⟩, ⟨by repeat (first | (with_reducible first | exact HB.out | apply below_alloc | apply pw_below_drewN | apply below_drew1) | exact HB.out)⟩⟩
      case rest =>
        clear HC7
        try clear c1
        try clear c2
        try clear c2b0
        try clear c2b1
        try clear p2
        try clear c3
        try clear c3b0
        try clear c3b1
        try clear c5
        try clear c10
        obtain ⟨kq, x27_6, rfl, HA, HJ6, HO_3, HB⟩ := hcut
        cases kq with
        | zero => exact absurd HA.out (by simp [laws_FnPermutationNext.j0])
        | succ kj6 =>
          have H := HA.out
          clear HA
          simp only [laws_FnPermutationNext.j0] at H
          by_cases c14 : x27_6 = true
          · subst c14
            have H1 : (some false) = some r := by rw [if_pos rfl] at H; exact H
            clear H
            have H := H1
            clear H1
            obtain rfl := Option.some.inj H
            go_wp2
            repeat (go_quiet (fail); try go_wp2)
            go_ret
            exact ⟨by first | rfl | (simp [errW_none, errW_some] <;> rfl) | (simp [*, errW_none, errW_some] <;> rfl), by repeat (first | (with_reducible first | exact HB.out | apply below_alloc | apply pw_below_drewN | apply below_drew1) | exact HB.out)⟩
          · replace c14 := Bool.eq_false_iff.mpr c14
            subst c14
            have H1 : (if t183 = true then ((spec_IsTurned.f kj6 t182 l0).bind fun t188 => (if t188 = true then ((spec_Less.f kj6 l0 t182).bind fun t189 => (laws_FnPermutationNext.j1 kj6 l0 t182 (!t189))) else (laws_FnPermutationNext.j1 kj6 l0 t182 true))) else (some true)) = some r := by rw [if_neg (show ¬ (false = true) by decide)] at H; exact H
            clear H
            have H := H1
            clear H1
            by_cases c15 : t183 = true
            · subst c15
              have H1 : ((spec_IsTurned.f kj6 t182 l0).bind fun t188 => (if t188 = true then ((spec_Less.f kj6 l0 t182).bind fun t189 => (laws_FnPermutationNext.j1 kj6 l0 t182 (!t189))) else (laws_FnPermutationNext.j1 kj6 l0 t182 true))) = some r := by rw [if_pos rfl] at H; exact H
              clear H
              have H := H1
              clear H1
              have HC16 := Aside0.mk H
              clear H
              go_upto_region 10 with (fail)
              repeat (go_quiet (fail); go_upto_region 10 with (fail))
              go_cut [39] (fun v39 wc => ∃ (kq : Nat) (x39_15 : Bool), v39 = .bool x39_15 ∧ Aside0 (laws_FnPermutationNext.j1 kq l0 t182 x39_15 = some r) ∧ Aside0 (kq ≤ kj6) ∧ Aside0 (Kd.R (Kd.int .i64) 3 wc w.heap.size (fun _ => True) v184 t182) ∧ Aside0 (Below w.heap.size w wc))
              case first =>
                have H := HC16.out
                clear HC16
                replace H := Option.bind_eq_some_iff.mp H
                obtain ⟨t188, A170, H⟩ := H
                replace H : (if t188 = true then ((spec_Less.f kj6 l0 t182).bind fun t189 => (laws_FnPermutationNext.j1 kj6 l0 t182 (!t189))) else (laws_FnPermutationNext.j1 kj6 l0 t182 true)) = some r := H
                have A17 := Aside0.mk A170
                clear A170
                by_cases c18 : t188 = true
                · subst c18
                  have H1 : ((spec_Less.f kj6 l0 t182).bind fun t189 => (laws_FnPermutationNext.j1 kj6 l0 t182 (!t189))) = some r := by rw [if_pos rfl] at H; exact H
                  clear H
                  have H := H1
                  clear H1
                  replace H := Option.bind_eq_some_iff.mp H
                  obtain ⟨t189, A190, H⟩ := H
                  replace H : (laws_FnPermutationNext.j1 kj6 l0 t182 (!t189)) = some r := H
                  have A19 := Aside0.mk A190
                  clear A190
                  have H' := Aside0.mk H
                  clear H
                  obtain ⟨Ao20, co20, eo20⟩ := Kd.R_slice HO_3.out
                  subst eo20
                  go_wp2_with (first | (go_at_call 12; (with_reducible refine (spec_IsTurned.calls kj6 _ _ t182 _ _ l0 true _ ?side1 ?side2 ?side3 ?side4 A17.out).mono ?_); (case side1 => repeat (first | exact (Kd.R_reads' HO_3.out).2.2 | (with_reducible refine Kd.C_alloc ?_ _) | (with_reducible refine Kd.C_drewN ?_ _) | (with_reducible refine Kd.C_drew ?_))); (case side2 => exact (Kd.R_reads' HO_3.out).2.1); (case side3 => repeat (first | exact (Kd.C_below HR0.out HB.out) | (with_reducible refine Kd.C_alloc ?_ _) | (with_reducible refine Kd.C_drewN ?_ _) | (with_reducible refine Kd.C_drew ?_))); (case side4 => exact HC0.out); rintro e w' ⟨rfl, ⟨nd, rfl⟩⟩; (try first | exact ⟨rfl, _, World.drewN_drewN _ _ _⟩ | exact ⟨rfl, _, Eq.trans (World.drewN_drewN _ _ _) (congrArg (World.drewN _) (Nat.add_assoc _ _ _))⟩)) | (go_at_call 14; (with_reducible refine (spec_Less.calls kj6 _ _ l0 _ _ t182 t189 _ ?side1 ?side2 ?side3 ?side4 A19.out).mono ?_); (case side1 => repeat (first | exact (Kd.C_below HR0.out (by repeat (first | (with_reducible first | exact HB.out | apply below_alloc | apply pw_below_drewN | apply below_drew1) | exact HB.out))) | (with_reducible refine Kd.C_alloc ?_ _) | (with_reducible refine Kd.C_drewN ?_ _) | (with_reducible refine Kd.C_drew ?_))); (case side2 => exact HC0.out); (case side3 => repeat (first | exact (Kd.R_reads' HO_3.out).2.2 | (with_reducible refine Kd.C_alloc ?_ _) | (with_reducible refine Kd.C_drewN ?_ _) | (with_reducible refine Kd.C_drew ?_))); (case side4 => exact (Kd.R_reads' HO_3.out).2.1); rintro e w' ⟨rfl, ⟨nd, rfl⟩⟩; (try first | exact ⟨rfl, _, World.drewN_drewN _ _ _⟩ | exact ⟨rfl, _, Eq.trans (World.drewN_drewN _ _ _) (congrArg (World.drewN _) (Nat.add_assoc _ _ _))⟩)))
                  repeat (go_quiet (first | (go_at_call 12; (with_reducible refine (spec_IsTurned.calls kj6 _ _ t182 _ _ l0 true _ ?side1 ?side2 ?side3 ?side4 A17.out).mono ?_); (case side1 => repeat (first | exact (Kd.R_reads' HO_3.out).2.2 | (with_reducible refine Kd.C_alloc ?_ _) | (with_reducible refine Kd.C_drewN ?_ _) | (with_reducible refine Kd.C_drew ?_))); (case side2 => exact (Kd.R_reads' HO_3.out).2.1); (case side3 => repeat (first | exact (Kd.C_below HR0.out HB.out) | (with_reducible refine Kd.C_alloc ?_ _) | (with_reducible refine Kd.C_drewN ?_ _) | (with_reducible refine Kd.C_drew ?_))); (case side4 => exact HC0.out); rintro e w' ⟨rfl, ⟨nd, rfl⟩⟩; (try first | exact ⟨rfl, _, World.drewN_drewN _ _ _⟩ | exact ⟨rfl, _, Eq.trans (World.drewN_drewN _ _ _) (congrArg (World.drewN _) (Nat.add_assoc _ _ _))⟩)) | (go_at_call 14; (with_reducible refine (spec_Less.calls kj6 _ _ l0 _ _ t182 t189 _ ?side1 ?side2 ?side3 ?side4 A19.out).mono ?_); (case side1 => repeat (first | exact (Kd.C_below HR0.out (by repeat (first | (with_reducible first | exact HB.out | apply below_alloc | apply pw_below_drewN | apply below_drew1) | exact HB.out))) | (with_reducible refine Kd.C_alloc ?_ _) | (with_reducible refine Kd.C_drewN ?_ _) | (with_reducible refine Kd.C_drew ?_))); (case side2 => exact HC0.out); (case side3 => repeat (first | exact (Kd.R_reads' HO_3.out).2.2 | (with_reducible refine Kd.C_alloc ?_ _) | (with_reducible refine Kd.C_drewN ?_ _) | (with_reducible refine Kd.C_drew ?_))); (case side4 => exact (Kd.R_reads' HO_3.out).2.1); rintro e w' ⟨rfl, ⟨nd, rfl⟩⟩; (try first | exact ⟨rfl, _, World.drewN_drewN _ _ _⟩ | exact ⟨rfl, _, Eq.trans (World.drewN_drewN _ _ _) (congrArg (World.drewN _) (Nat.add_assoc _ _ _))⟩))); try go_wp2_with (first | (go_at_call 12; (with_reducible refine (spec_IsTurned.calls kj6 _ _ t182 _ _ l0 true _ ?side1 ?side2 ?side3 ?side4 A17.out).mono ?_); (case side1 => repeat (first | exact (Kd.R_reads' HO_3.out).2.2 | (with_reducible refine Kd.C_alloc ?_ _) | (with_reducible refine Kd.C_drewN ?_ _) | (with_reducible refine Kd.C_drew ?_))); (case side2 => exact (Kd.R_reads' HO_3.out).2.1); (case side3 => repeat (first | exact (Kd.C_below HR0.out HB.out) | (with_reducible refine Kd.C_alloc ?_ _) | (with_reducible refine Kd.C_drewN ?_ _) | (with_reducible refine Kd.C_drew ?_))); (case side4 => exact HC0.out); rintro e w' ⟨rfl, ⟨nd, rfl⟩⟩; (try first | exact ⟨rfl, _, World.drewN_drewN _ _ _⟩ | exact ⟨rfl, _, Eq.trans (World.drewN_drewN _ _ _) (congrArg (World.drewN _) (Nat.add_assoc _ _ _))⟩)) | (go_at_call 14; (with_reducible refine (spec_Less.calls kj6 _ _ l0 _ _ t182 t189 _ ?side1 ?side2 ?side3 ?side4 A19.out).mono ?_); (case side1 => repeat (first | exact (Kd.C_below HR0.out (by repeat (first | (with_reducible first | exact HB.out | apply below_alloc | apply pw_below_drewN | apply below_drew1) | exact HB.out))) | (with_reducible refine Kd.C_alloc ?_ _) | (with_reducible refine Kd.C_drewN ?_ _) | (with_reducible refine Kd.C_drew ?_))); (case side2 => exact HC0.out); (case side3 => repeat (first | exact (Kd.R_reads' HO_3.out).2.2 | (with_reducible refine Kd.C_alloc ?_ _) | (with_reducible refine Kd.C_drewN ?_ _) | (with_reducible refine Kd.C_drew ?_))); (case side4 => exact (Kd.R_reads' HO_3.out).2.1); rintro e w' ⟨rfl, ⟨nd, rfl⟩⟩; (try first | exact ⟨rfl, _, World.drewN_drewN _ _ _⟩ | exact ⟨rfl, _, Eq.trans (World.drewN_drewN _ _ _) (congrArg (World.drewN _) (Nat.add_assoc _ _ _))⟩))))
                  go_meet
                  case rel => exact ⟨_, (!t189), (by first | rfl | (simp; done) | (simp [*]; done)), H', ⟨by have := HJ6.out; first | omega | exact Nat.le_refl _⟩, ⟨by (with_reducible repeat (first | apply Kd.R_alloc | apply Kd.R_drewN | apply Kd.R_drew)); exact HO_3.out⟩, ⟨by repeat (first | (with_reducible first | exact HB.out | apply below_alloc | apply pw_below_drewN | apply below_drew1) | exact HB.out)⟩⟩
                · replace c18 := Bool.eq_false_iff.mpr c18
                  subst c18
                  have H1 : (laws_FnPermutationNext.j1 kj6 l0 t182 true) = some r := by rw [if_neg (show ¬ (false = true) by decide)] at H; exact H
                  clear H
                  have H := H1
                  clear H1
                  have H' := Aside0.mk H
                  clear H
                  obtain ⟨Ao21, co21, eo21⟩ := Kd.R_slice HO_3.out
                  subst eo21
                  go_wp2_with (first | (go_at_call 12; (with_reducible refine (spec_IsTurned.calls kj6 _ _ t182 _ _ l0 false _ ?side1 ?side2 ?side3 ?side4 A17.out).mono ?_); (case side1 => repeat (first | exact (Kd.R_reads' HO_3.out).2.2 | (with_reducible refine Kd.C_alloc ?_ _) | (with_reducible refine Kd.C_drewN ?_ _) | (with_reducible refine Kd.C_drew ?_))); (case side2 => exact (Kd.R_reads' HO_3.out).2.1); (case side3 => repeat (first | exact (Kd.C_below HR0.out HB.out) | (with_reducible refine Kd.C_alloc ?_ _) | (with_reducible refine Kd.C_drewN ?_ _) | (with_reducible refine Kd.C_drew ?_))); (case side4 => exact HC0.out); rintro e w' ⟨rfl, ⟨nd, rfl⟩⟩; (try first | exact ⟨rfl, _, World.drewN_drewN _ _ _⟩ | exact ⟨rfl, _, Eq.trans (World.drewN_drewN _ _ _) (congrArg (World.drewN _) (Nat.add_assoc _ _ _))⟩)))
                  repeat (go_quiet (first | (go_at_call 12; (with_reducible refine (spec_IsTurned.calls kj6 _ _ t182 _ _ l0 false _ ?side1 ?side2 ?side3 ?side4 A17.out).mono ?_); (case side1 => repeat (first | exact (Kd.R_reads' HO_3.out).2.2 | (with_reducible refine Kd.C_alloc ?_ _) | (with_reducible refine Kd.C_drewN ?_ _) | (with_reducible refine Kd.C_drew ?_))); (case side2 => exact (Kd.R_reads' HO_3.out).2.1); (case side3 => repeat (first | exact (Kd.C_below HR0.out HB.out) | (with_reducible refine Kd.C_alloc ?_ _) | (with_reducible refine Kd.C_drewN ?_ _) | (with_reducible refine Kd.C_drew ?_))); (case side4 => exact HC0.out); rintro e w' ⟨rfl, ⟨nd, rfl⟩⟩; (try first | exact ⟨rfl, _, World.drewN_drewN _ _ _⟩ | exact ⟨rfl, _, Eq.trans (World.drewN_drewN _ _ _) (congrArg (World.drewN _) (Nat.add_assoc _ _ _))⟩))); try go_wp2_with (first | (go_at_call 12; (with_reducible refine (spec_IsTurned.calls kj6 _ _ t182 _ _ l0 false _ ?side1 ?side2 ?side3 ?side4 A17.out).mono ?_); (case side1 => repeat (first | exact (Kd.R_reads' HO_3.out).2.2 | (with_reducible refine Kd.C_alloc ?_ _) | (with_reducible refine Kd.C_drewN ?_ _) | (with_reducible refine Kd.C_drew ?_))); (case side2 => exact (Kd.R_reads' HO_3.out).2.1); (case side3 => repeat (first | exact (Kd.C_below HR0.out HB.out) | (with_reducible refine Kd.C_alloc ?_ _) | (with_reducible refine Kd.C_drewN ?_ _) | (with_reducible refine Kd.C_drew ?_))); (case side4 => exact HC0.out); rintro e w' ⟨rfl, ⟨nd, rfl⟩⟩; (try first | exact ⟨rfl, _, World.drewN_drewN _ _ _⟩ | exact ⟨rfl, _, Eq.trans (World.drewN_drewN _ _ _) (congrArg (World.drewN _) (Nat.add_assoc _ _ _))⟩))))
                  go_meet
                  case rel => exact ⟨_, (true), (by first | rfl | (simp; done) | (simp [*]; done)), H', ⟨by have := HJ6.out; first | omega | exact Nat.le_refl _⟩, ⟨by (with_reducible repeat (first | apply Kd.R_alloc | apply Kd.R_drewN | apply Kd.R_drew)); exact HO_3.out⟩, ⟨by repeat (first | (with_reducible first | exact HB.out | apply below_alloc | apply pw_below_drewN | apply below_drew1) | exact HB.out)⟩⟩
              case rest =>
                clear HC16
                try clear c1
                try clear c2
                try clear c2b0
                try clear c2b1
                try clear p2
                try clear c3
                try clear c3b0
                try clear c3b1
                try clear c5
                try clear c10
                try clear c14
                try clear c15
                try clear c18
                try clear p2
                obtain ⟨kq, x39_15, rfl, HA, HJ15, HO_3, HB⟩ := hcut
                cases kq with
                | zero => exact absurd HA.out (by simp [laws_FnPermutationNext.j1])
                | succ kj15 =>
                  have H := HA.out
                  clear HA
                  simp only [laws_FnPermutationNext.j1] at H
                  by_cases c22 : x39_15 = true
                  · subst c22
                    have H1 : (some false) = some r := by rw [if_pos rfl] at H; exact H
                    clear H
                    have H := H1
                    clear H1
                    obtain rfl := Option.some.inj H
                    go_wp2
                    repeat (go_quiet (fail); try go_wp2)
                    go_ret
                    exact ⟨by first | rfl | (simp [errW_none, errW_some] <;> rfl) | (simp [*, errW_none, errW_some] <;> rfl), by repeat (first | (with_reducible first | exact HB.out | apply below_alloc | apply pw_below_drewN | apply below_drew1) | exact HB.out)⟩
                  · replace c22 := Bool.eq_false_iff.mpr c22
                    subst c22
                    have H1 : (laws_FnPermutationNext.l0 kj15 l0 t182 0) = some r := by rw [if_neg (show ¬ (false = true) by decide)] at H; exact H
                    clear H
                    have H := H1
                    clear H1
                    have H' := Aside0.mk H
                    clear H
                    go_wp2
                    repeat (go_quiet (fail); try go_wp2)
                    go_loopg [5] kj15 (fun kq v5 w' => ∃ (x5_3 : Int), v5 = .int .i64 x5_3 ∧ Aside0 (laws_FnPermutationNext.l0 kq l0 t182 x5_3 = some r) ∧ Aside0 (kq ≤ kj15) ∧ Aside0 (Kd.R (Kd.int .i64) 3 w' w.heap.size (fun _ => True) v184 t182) ∧ Aside0 (Below w.heap.size w w'))
                    case atStart => exact ⟨(0), (by first | rfl | (simp; done) | (simp [*]; done)), H', ⟨Nat.le_refl _⟩, ⟨by (with_reducible repeat (first | apply Kd.R_alloc | apply Kd.R_drewN | apply Kd.R_drew)); exact HO_3.out⟩, ⟨by repeat (first | (with_reducible first | exact HB.out | apply below_alloc | apply pw_below_drewN | apply below_drew1) | exact HB.out)⟩⟩
                    case round =>
                      clear H'
                      try clear c1
                      try clear c2
                      try clear c2b0
                      try clear c2b1
                      try clear p2
                      try clear c3
                      try clear c3b0
                      try clear c3b1
                      try clear c5
                      try clear c10
                      try clear c14
                      try clear c15
                      try clear c18
                      try clear c22
                      try clear p2
                      obtain ⟨x5_3, rfl, HA, HK3, HO_3, HB⟩ := hrel
                      cases gk with
                      | zero => exact absurd HA.out (by simp [laws_FnPermutationNext.l0])
                      | succ k3 =>
                        have H := HA.out
                        clear HA
                        simp only [laws_FnPermutationNext.l0] at H
                        by_cases c23 : 0 ≤ x5_3
                        · rw [if_pos c23] at H
                          have c23b0 : decide (0 ≤ x5_3) = true := decide_eq_true c23
                          clear c23
                          by_cases c24 : x5_3 < (l0.length : Int)
                          · rw [if_pos c24] at H
                            have c24b0 : decide (x5_3 < (l0.length : Int)) = true := decide_eq_true c24
                            clear c24
                            by_cases c25 : x5_3 < (t182.length : Int)
                            · rw [if_pos c25] at H
                              have c25b0 : decide (x5_3 < (t182.length : Int)) = true := decide_eq_true c25
                              clear c25
                              by_cases c26 : (rd l0 x5_3) = (rd t182 x5_3)
                              · rw [if_pos c26] at H
                                have c26b0 : ((rd l0 x5_3) == (rd t182 x5_3)) = true := beq_iff_eq.mpr c26
                                have c26b1 : ((rd l0 x5_3) != (rd t182 x5_3)) = false := bne_eq_false_iff_eq.mpr c26
                                clear c26
                                have H' := Aside0.mk H
                                clear H
                                have p190 : 0 ≤ (x5_3 : Int) := of_decide_eq_true (by first | (with_reducible assumption) | assumption)
                                have q190 : x5_3 < (l0.length : Int) := of_decide_eq_true (by first | (with_reducible assumption) | assumption)
                                obtain ⟨ad190, e190, hx190_0⟩ := Kd.at_int HR0.out x5_3 p190 q190
                                cases e190
                                replace hx190_0 := (HB.out.cell (World.block_lt_of_cell? w _ hx190_0)).trans hx190_0
                                replace p190 := eq_true p190
                                replace q190 := eq_true q190
                                obtain ⟨Ao27, co27, eo27⟩ := Kd.R_slice HO_3.out
                                subst eo27
                                have p191 : 0 ≤ (x5_3 : Int) := of_decide_eq_true (by first | (with_reducible assumption) | assumption)
                                have q191 : x5_3 < (t182.length : Int) := of_decide_eq_true (by first | (with_reducible assumption) | assumption)
                                obtain ⟨ad191, e191, hx191_0⟩ := Kd.at_int (Kd.R_reads' HO_3.out).2.2 x5_3 p191 q191
                                cases e191
                                replace p191 := eq_true p191
                                replace q191 := eq_true q191
                                go_wp2
                                repeat (go_quiet (fail); try go_wp2)
                                go_roundg k3
                                case measure => have := HJ6.out; have := HJ15.out; have := HK3.out; omega
                                case rel => exact ⟨(wrap64 (x5_3 + 1)), (by first | rfl | (simp; done) | (simp [*]; done)), H', ⟨by have := HJ6.out; have := HJ15.out; have := HK3.out; omega⟩, ⟨by (with_reducible repeat (first | apply Kd.R_alloc | apply Kd.R_drewN | apply Kd.R_drew)); exact HO_3.out⟩, ⟨by repeat (first | (with_reducible first | exact HB.out | apply below_alloc | apply pw_below_drewN | apply below_drew1) | exact HB.out)⟩⟩
                              · rw [if_neg c26] at H
                                have c26b0 : ((rd l0 x5_3) == (rd t182 x5_3)) = false := beq_eq_false_iff_ne.mpr c26
                                have c26b1 : ((rd l0 x5_3) != (rd t182 x5_3)) = true := bne_iff_ne.mpr c26
                                obtain ⟨ji28, hji28⟩ : ∃ j_ : Int, (wrap64 (x5_3 + 1)) = j_ := ⟨_, rfl⟩
                                replace H : (if 0 ≤ (ji28) then (if (ji28) ≤ (l0.length : Int) then (laws_FnPermutationNext.l1 k3 l0 t182 x5_3 (l0.drop ((ji28) : Int).toNat) ((l0.drop ((ji28) : Int).toNat).length : Int) 0) else (none)) else (none)) = some r := by first | (rw [hji28] at H; exact H) | (simp only [hji28] at H ⊢; exact H)
                                have hji28w : (IntKind.i64.wrap (x5_3 + 1)) = ji28 := (i64_w _).trans hji28
                                by_cases c29 : 0 ≤ (ji28)
                                · rw [if_pos c29] at H
                                  have c29b0 := eq_true c29
                                  have c29b1 : decide (0 ≤ (ji28)) = true := decide_eq_true c29
                                  clear c29
                                  by_cases c30 : (ji28) ≤ (l0.length : Int)
                                  · rw [if_pos c30] at H
                                    have c30b0 := eq_true c30
                                    have c30b1 : decide ((ji28) ≤ (l0.length : Int)) = true := decide_eq_true c30
                                    clear c30
                                    have H' := Aside0.mk H
                                    clear H
                                    have p190 : 0 ≤ (x5_3 : Int) := of_decide_eq_true (by first | (with_reducible assumption) | assumption)
                                    have q190 : x5_3 < (l0.length : Int) := of_decide_eq_true (by first | (with_reducible assumption) | assumption)
                                    obtain ⟨ad190, e190, hx190_0⟩ := Kd.at_int HR0.out x5_3 p190 q190
                                    cases e190
                                    replace hx190_0 := (HB.out.cell (World.block_lt_of_cell? w _ hx190_0)).trans hx190_0
                                    replace p190 := eq_true p190
                                    replace q190 := eq_true q190
                                    obtain ⟨Ao31, co31, eo31⟩ := Kd.R_slice HO_3.out
                                    subst eo31
                                    have p191 : 0 ≤ (x5_3 : Int) := of_decide_eq_true (by first | (with_reducible assumption) | assumption)
                                    have q191 : x5_3 < (t182.length : Int) := of_decide_eq_true (by first | (with_reducible assumption) | assumption)
                                    obtain ⟨ad191, e191, hx191_0⟩ := Kd.at_int (Kd.R_reads' HO_3.out).2.2 x5_3 p191 q191
                                    cases e191
                                    replace p191 := eq_true p191
                                    replace q191 := eq_true q191
                                    obtain ⟨i032, hi032, _, hsz32, _⟩ := info_parts info3
                                    obtain ⟨A32, hcut32, hA32, hC32⟩ := print_drop_of (P := Try.prog) (Value.int .i64) 0 22 3 .i64 Try.underlying22 hi032 hsz32 (some ad190) c0 l0 (ji28) (of_decide_eq_true (by first | (with_reducible assumption) | assumption)) (of_decide_eq_true (by first | (with_reducible assumption) | assumption)) HC0.out
                                    have HR192 := Aside0.mk (Kd.C_of_reads (h1 := fun _ => rfl) (hA32 _ (Kd.reads_of_C HR0.out)))
                                    have HC192 := Aside0.mk hC32
                                    clear hA32 hC32 hi032 hsz32
                                    go_wp2
                                    repeat (go_quiet (fail); try go_wp2)
                                    go_loopg [56] k3 (fun kq v56 w' => ∃ (x56_4 : Int), v56 = .int .i64 x56_4 ∧ Aside0 (laws_FnPermutationNext.l1 kq l0 t182 x5_3 (l0.drop ((ji28) : Int).toNat) ((l0.drop ((ji28) : Int).toNat).length : Int) x56_4 = some r) ∧ Aside0 (kq ≤ k3) ∧ Aside0 (Kd.R (Kd.int .i64) 3 w' w.heap.size (fun _ => True) (.slice (some ad191) t182.length co31) t182) ∧ Aside0 (Below w.heap.size w w'))
                                    case atStart => exact ⟨(0), (by first | rfl | (simp; done) | (simp [*]; done)), H', ⟨Nat.le_refl _⟩, ⟨by (with_reducible repeat (first | apply Kd.R_alloc | apply Kd.R_drewN | apply Kd.R_drew)); exact HO_3.out⟩, ⟨by repeat (first | (with_reducible first | exact HB.out | apply below_alloc | apply pw_below_drewN | apply below_drew1) | exact HB.out)⟩⟩
                                    case round =>
                                      clear H'
                                      try clear c1
                                      try clear p1
                                      try clear q1
                                      try clear hx1
                                      try clear c2
                                      try clear c2b0
                                      try clear c2b1
                                      try clear p2
                                      try clear c3
                                      try clear c3b0
                                      try clear c3b1
                                      try clear c5
                                      try clear p6
                                      try clear c10
                                      try clear c14
                                      try clear c15
                                      try clear c18
                                      try clear p19
                                      try clear q19
                                      try clear hx19
                                      try clear c22
                                      try clear c23
                                      try clear c23b0
                                      try clear c24
                                      try clear c24b0
                                      try clear c25
                                      try clear c25b0
                                      try clear c26
                                      try clear c26b0
                                      try clear c26b1
                                      try clear c29
                                      try clear c29b0
                                      try clear c29b1
                                      try clear c30
                                      try clear c30b0
                                      try clear c30b1
                                      try clear hx190_0
                                      try clear hx191_0
                                      try clear p190
                                      try clear p191
                                      try clear p2
                                      try clear q190
                                      try clear q191
                                      obtain ⟨x56_4, rfl, HA, HK4, HO_3, HB⟩ := hrel
                                      cases gk with
                                      | zero => exact absurd HA.out (by simp [laws_FnPermutationNext.l1])
                                      | succ k4 =>
                                        have H := HA.out
                                        clear HA
                                        simp only [laws_FnPermutationNext.l1] at H
                                        by_cases c33 : x56_4 < ((l0.drop ((ji28) : Int).toNat).length : Int)
                                        · rw [if_pos c33] at H
                                          have c33b0 : decide (x56_4 < ((l0.drop ((ji28) : Int).toNat).length : Int)) = true := decide_eq_true c33
                                          have c33b9 : decide (x56_4 < ((l0.length - (ji28 : Int).toNat : Nat) : Int)) = true := by rw [← List.length_drop]; exact c33b0
                                          have c33q9 : (x56_4 < ((l0.length - (ji28 : Int).toNat : Nat) : Int)) = True := eq_true (of_decide_eq_true c33b9)
                                          clear c33
                                          by_cases c34 : 0 ≤ x56_4
                                          · rw [if_pos c34] at H
                                            have c34b0 : decide (0 ≤ x56_4) = true := decide_eq_true c34
                                            clear c34
                                            by_cases c35 : x56_4 < ((l0.drop ((ji28) : Int).toNat).length : Int)
                                            · rw [if_pos c35] at H
                                              have c35b0 : decide (x56_4 < ((l0.drop ((ji28) : Int).toNat).length : Int)) = true := decide_eq_true c35
                                              have c35b9 : decide (x56_4 < ((l0.length - (ji28 : Int).toNat : Nat) : Int)) = true := by rw [← List.length_drop]; exact c35b0
                                              have c35q9 : (x56_4 < ((l0.length - (ji28 : Int).toNat : Nat) : Int)) = True := eq_true (of_decide_eq_true c35b9)
                                              clear c35
                                              by_cases c36 : 0 ≤ x5_3
                                              · rw [if_pos c36] at H
                                                have c36b0 : decide (0 ≤ x5_3) = true := decide_eq_true c36
                                                clear c36
                                                by_cases c37 : x5_3 < (l0.length : Int)
                                                · rw [if_pos c37] at H
                                                  have c37b0 : decide (x5_3 < (l0.length : Int)) = true := decide_eq_true c37
                                                  clear c37
                                                  by_cases c38 : (rd (l0.drop ((ji28) : Int).toNat) x56_4) > (rd l0 x5_3)
                                                  · rw [if_pos c38] at H
                                                    have c38b0 : decide ((rd l0 x5_3) < (rd (l0.drop ((ji28) : Int).toNat) x56_4)) = true := decide_eq_true c38
                                                    clear c38
                                                    by_cases c39 : x5_3 < (t182.length : Int)
                                                    · rw [if_pos c39] at H
                                                      have c39b0 : decide (x5_3 < (t182.length : Int)) = true := decide_eq_true c39
                                                      clear c39
                                                      by_cases c40 : (rd (l0.drop ((ji28) : Int).toNat) x56_4) < (rd t182 x5_3)
                                                      · rw [if_pos c40] at H
                                                        have c40b0 : decide ((rd (l0.drop ((ji28) : Int).toNat) x56_4) < (rd t182 x5_3)) = true := decide_eq_true c40
                                                        clear c40
                                                        obtain rfl := Option.some.inj H
                                                        have p193 : 0 ≤ (x56_4 : Int) := of_decide_eq_true (by first | (with_reducible assumption) | assumption)
                                                        have q193 : x56_4 < ((l0.drop ((ji28) : Int).toNat).length : Int) := of_decide_eq_true (by first | (with_reducible assumption) | assumption)
                                                        obtain ⟨ad193, e193, hx193_0⟩ := Kd.at_int HR192.out x56_4 p193 q193
                                                        cases e193
                                                        replace hx193_0 := (HB.out.cell (World.block_lt_of_cell? w _ hx193_0)).trans hx193_0
                                                        replace p193 := eq_true p193
                                                        replace q193 := eq_true q193
                                                        have p194 : 0 ≤ (x5_3 : Int) := of_decide_eq_true (by first | (with_reducible assumption) | assumption)
                                                        have q194 : x5_3 < (l0.length : Int) := of_decide_eq_true (by first | (with_reducible assumption) | assumption)
                                                        obtain ⟨ad194, e194, hx194_0⟩ := Kd.at_int HR0.out x5_3 p194 q194
                                                        obtain rfl : ad190 = ad194 := (by injection e194)
                                                        replace hx194_0 := (HB.out.cell (World.block_lt_of_cell? w _ hx194_0)).trans hx194_0
                                                        replace p194 := eq_true p194
                                                        replace q194 := eq_true q194
                                                        have p195 : 0 ≤ (x5_3 : Int) := of_decide_eq_true (by first | (with_reducible assumption) | assumption)
                                                        have q195 : x5_3 < (t182.length : Int) := of_decide_eq_true (by first | (with_reducible assumption) | assumption)
                                                        obtain ⟨ad195, e195, hx195_0⟩ := Kd.at_int (Kd.R_reads' HO_3.out).2.2 x5_3 p195 q195
                                                        obtain rfl : ad191 = ad195 := (by injection e195)
                                                        replace p195 := eq_true p195
                                                        replace q195 := eq_true q195
                                                        go_wp2
                                                        repeat (go_quiet (fail); try go_wp2)
                                                        go_ret
                                                        exact ⟨by first | rfl | (simp [errW_none, errW_some] <;> rfl) | (simp only [← hji28]; first | rfl | (simp [errW_none, errW_some] <;> rfl)) | (simp [*, errW_none, errW_some] <;> rfl), by repeat (first | (with_reducible first | exact HB.out | apply below_alloc | apply pw_below_drewN | apply below_drew1) | exact HB.out)⟩
                                                      · rw [if_neg c40] at H
                                                        have c40b0 : decide ((rd (l0.drop ((ji28) : Int).toNat) x56_4) < (rd t182 x5_3)) = false := decide_eq_false c40
                                                        clear c40
                                                        have H' := Aside0.mk H
                                                        clear H
                                                        have p193 : 0 ≤ (x56_4 : Int) := of_decide_eq_true (by first | (with_reducible assumption) | assumption)
                                                        have q193 : x56_4 < ((l0.drop ((ji28) : Int).toNat).length : Int) := of_decide_eq_true (by first | (with_reducible assumption) | assumption)
                                                        obtain ⟨ad193, e193, hx193_0⟩ := Kd.at_int HR192.out x56_4 p193 q193
                                                        cases e193
                                                        replace hx193_0 := (HB.out.cell (World.block_lt_of_cell? w _ hx193_0)).trans hx193_0
                                                        replace p193 := eq_true p193
                                                        replace q193 := eq_true q193
                                                        have p194 : 0 ≤ (x5_3 : Int) := of_decide_eq_true (by first | (with_reducible assumption) | assumption)
                                                        have q194 : x5_3 < (l0.length : Int) := of_decide_eq_true (by first | (with_reducible assumption) | assumption)
                                                        obtain ⟨ad194, e194, hx194_0⟩ := Kd.at_int HR0.out x5_3 p194 q194
                                                        obtain rfl : ad190 = ad194 := (by injection e194)
                                                        replace hx194_0 := (HB.out.cell (World.block_lt_of_cell? w _ hx194_0)).trans hx194_0
                                                        replace p194 := eq_true p194
                                                        replace q194 := eq_true q194
                                                        have p195 : 0 ≤ (x5_3 : Int) := of_decide_eq_true (by first | (with_reducible assumption) | assumption)
                                                        have q195 : x5_3 < (t182.length : Int) := of_decide_eq_true (by first | (with_reducible assumption) | assumption)
                                                        obtain ⟨ad195, e195, hx195_0⟩ := Kd.at_int (Kd.R_reads' HO_3.out).2.2 x5_3 p195 q195
                                                        obtain rfl : ad191 = ad195 := (by injection e195)
                                                        replace p195 := eq_true p195
                                                        replace q195 := eq_true q195
                                                        go_wp2
                                                        repeat (go_quiet (fail); try go_wp2)
                                                        go_roundg k4
                                                        case measure => have := HJ6.out; have := HJ15.out; have := HK3.out; have := HK4.out; omega
                                                        case rel => exact ⟨(wrap64 (x56_4 + 1)), (by first | rfl | (simp; done) | (simp [*]; done)), H', ⟨by have := HJ6.out; have := HJ15.out; have := HK3.out; have := HK4.out; omega⟩, ⟨by (with_reducible repeat (first | apply Kd.R_alloc | apply Kd.R_drewN | apply Kd.R_drew)); exact HO_3.out⟩, ⟨by repeat (first | (with_reducible first | exact HB.out | apply below_alloc | apply pw_below_drewN | apply below_drew1) | exact HB.out)⟩⟩
                                                    · rw [if_neg c39] at H
                                                      exact absurd H (by simp)
                                                  · rw [if_neg c38] at H
                                                    have c38b0 : decide ((rd l0 x5_3) < (rd (l0.drop ((ji28) : Int).toNat) x56_4)) = false := decide_eq_false c38
                                                    clear c38
                                                    have H' := Aside0.mk H
                                                    clear H
                                                    have p193 : 0 ≤ (x56_4 : Int) := of_decide_eq_true (by first | (with_reducible assumption) | assumption)
                                                    have q193 : x56_4 < ((l0.drop ((ji28) : Int).toNat).length : Int) := of_decide_eq_true (by first | (with_reducible assumption) | assumption)
                                                    obtain ⟨ad193, e193, hx193_0⟩ := Kd.at_int HR192.out x56_4 p193 q193
                                                    cases e193
                                                    replace hx193_0 := (HB.out.cell (World.block_lt_of_cell? w _ hx193_0)).trans hx193_0
                                                    replace p193 := eq_true p193
                                                    replace q193 := eq_true q193
                                                    have p194 : 0 ≤ (x5_3 : Int) := of_decide_eq_true (by first | (with_reducible assumption) | assumption)
                                                    have q194 : x5_3 < (l0.length : Int) := of_decide_eq_true (by first | (with_reducible assumption) | assumption)
                                                    obtain ⟨ad194, e194, hx194_0⟩ := Kd.at_int HR0.out x5_3 p194 q194
                                                    obtain rfl : ad190 = ad194 := (by injection e194)
                                                    replace hx194_0 := (HB.out.cell (World.block_lt_of_cell? w _ hx194_0)).trans hx194_0
                                                    replace p194 := eq_true p194
                                                    replace q194 := eq_true q194
                                                    go_wp2
                                                    repeat (go_quiet (fail); try go_wp2)
                                                    go_roundg k4
                                                    case measure => have := HJ6.out; have := HJ15.out; have := HK3.out; have := HK4.out; omega
                                                    case rel => exact ⟨(wrap64 (x56_4 + 1)), (by first | rfl | (simp; done) | (simp [*]; done)), H', ⟨by have := HJ6.out; have := HJ15.out; have := HK3.out; have := HK4.out; omega⟩, ⟨by (with_reducible repeat (first | apply Kd.R_alloc | apply Kd.R_drewN | apply Kd.R_drew)); exact HO_3.out⟩, ⟨by repeat (first | (with_reducible first | exact HB.out | apply below_alloc | apply pw_below_drewN | apply below_drew1) | exact HB.out)⟩⟩
                                                · rw [if_neg c37] at H
                                                  exact absurd H (by simp)
                                              · rw [if_neg c36] at H
                                                exact absurd H (by simp)
                                            · rw [if_neg c35] at H
                                              exact absurd H (by simp)
                                          · rw [if_neg c34] at H
                                            exact absurd H (by simp)
                                        · rw [if_neg c33] at H
                                          have c33b0 : decide (x56_4 < ((l0.drop ((ji28) : Int).toNat).length : Int)) = false := decide_eq_false c33
                                          have c33b9 : decide (x56_4 < ((l0.length - (ji28 : Int).toNat : Nat) : Int)) = false := by rw [← List.length_drop]; exact c33b0
                                          have c33q9 : (x56_4 < ((l0.length - (ji28 : Int).toNat : Nat) : Int)) = False := eq_false (of_decide_eq_false c33b9)
                                          clear c33
                                          replace H : (if 0 ≤ (ji28) then (if (ji28) ≤ (l0.length : Int) then ((spec_IsLast.f k4 (l0.drop ((ji28) : Int).toNat)).bind fun t197 => (if t197 = true then (if (ji28) ≤ (t182.length : Int) then ((spec_IsSorted.f k4 (t182.drop ((ji28) : Int).toNat)).bind fun t202 => (some t202)) else (none)) else (some false))) else (none)) else (none)) = some r := by first | (rw [hji28] at H; exact H) | (simp only [hji28] at H ⊢; exact H)
                                          by_cases c42 : 0 ≤ (ji28)
                                          · rw [if_pos c42] at H
                                            have c42b0 := eq_true c42
                                            have c42b1 : decide (0 ≤ (ji28)) = true := decide_eq_true c42
                                            clear c42
                                            by_cases c43 : (ji28) ≤ (l0.length : Int)
                                            · rw [if_pos c43] at H
                                              have c43b0 := eq_true c43
                                              have c43b1 : decide ((ji28) ≤ (l0.length : Int)) = true := decide_eq_true c43
                                              clear c43
                                              replace H := Option.bind_eq_some_iff.mp H
                                              obtain ⟨t197, A440, H⟩ := H
                                              replace H : (if t197 = true then (if (ji28) ≤ (t182.length : Int) then ((spec_IsSorted.f k4 (t182.drop ((ji28) : Int).toNat)).bind fun t202 => (some t202)) else (none)) else (some false)) = some r := H
                                              have A44 := Aside0.mk A440
                                              clear A440
                                              by_cases c45 : t197 = true
                                              · subst c45
                                                have H1 : (if (ji28) ≤ (t182.length : Int) then ((spec_IsSorted.f k4 (t182.drop ((ji28) : Int).toNat)).bind fun t202 => (some t202)) else (none)) = some r := by rw [if_pos rfl] at H; exact H
                                                clear H
                                                have H := H1
                                                clear H1
                                                have c46b0 := eq_true (of_decide_eq_true (by first | (with_reducible assumption) | assumption) : 0 ≤ (ji28))
                                                by_cases c47 : (ji28) ≤ (t182.length : Int)
                                                · rw [if_pos c47] at H
                                                  have c47b0 := eq_true c47
                                                  have c47b1 : decide ((ji28) ≤ (t182.length : Int)) = true := decide_eq_true c47
                                                  clear c47
                                                  obtain ⟨y198, hy198⟩ : ∃ y_ : List Int, y_ = (t182.drop ((ji28) : Int).toNat) := ⟨_, rfl⟩
                                                  replace H : ((spec_IsSorted.f k4 y198).bind fun t202 => (some t202)) = some r := by first | (rw [hy198]; with_reducible exact H) | (have H2_ := (Option.bind_some _ _).symm.trans H; rw [hy198]; with_reducible exact H2_) | (have H2_ := (Option.bind_some _ _).symm.trans H; with_reducible exact H2_) | with_reducible exact H | (rw [hy198]; exact H) | exact H
                                                  have Ny198 := Aside0.mk hy198
                                                  clear hy198
                                                  replace H := Option.bind_eq_some_iff.mp H
                                                  obtain ⟨t202, A480, H⟩ := H
                                                  replace H : (some t202) = some r := H
                                                  have A48 := Aside0.mk A480
                                                  clear A480
                                                  obtain rfl := Option.some.inj H
                                                  obtain ⟨i049, hi049, _, hsz49, _⟩ := info_parts info3
                                                  obtain ⟨A49, hcut49, hA49, hC49⟩ := print_drop_of (P := Try.prog) (Value.int .i64) 0 22 3 .i64 Try.underlying22 hi049 hsz49 (some ad190) c0 l0 (ji28) (of_decide_eq_true (by first | (with_reducible assumption) | assumption)) (of_decide_eq_true (by first | (with_reducible assumption) | assumption)) HC0.out
                                                  have HR196 := Aside0.mk (Kd.C_of_reads (h1 := fun _ => rfl) (hA49 _ (Kd.reads_of_C HR0.out)))
                                                  have HC196 := Aside0.mk hC49
                                                  clear hA49 hC49 hi049 hsz49
                                                  go_wp2_with (first | (go_at_call 13; (with_reducible refine (last_drop k4 _ _ l0 ((ji28) : Int).toNat true _ ?side1 ?side2 A44.out).mono ?_); (case side1 => repeat (first | exact (Kd.C_below HR192.out HB.out) | (with_reducible refine Kd.C_alloc ?_ _) | (with_reducible refine Kd.C_drewN ?_ _) | (with_reducible refine Kd.C_drew ?_))); (case side2 => exact HC192.out); rintro e w' ⟨rfl, ⟨nd, rfl⟩⟩; (try first | exact ⟨rfl, _, World.drewN_drewN _ _ _⟩ | exact ⟨rfl, _, Eq.trans (World.drewN_drewN _ _ _) (congrArg (World.drewN _) (Nat.add_assoc _ _ _))⟩); have q50 : ((ji28) : Int) ≤ ((t182.length : Int) : Int) := of_decide_eq_true (by first | (with_reducible assumption) | assumption); obtain ⟨i050, hi050, _, hsz50, _⟩ := info_parts info3; have hroom50 : t182.length ≤ co31 := (Kd.R_reads' HO_3.out).2.1; have hC50 : Kd.C (Kd.int .i64) _ (some ad191) t182.length t182 := (Kd.R_reads' HO_3.out).2.2; have q050 : (0 : Int) ≤ ((ji28) : Int) := of_decide_eq_true (by first | (with_reducible assumption) | assumption); have hcut50 := cut_from (P := Try.prog) 22 3 .i64 Try.underlying22 hi050 1 hsz50 (some ad191) t182.length co31 (ji28) q050 q50; have hr50 := Kd.C_drop (m := ((ji28) : Int).toNat) (c := co31) hC50 (by omega) hroom50; obtain ⟨A50, hA50⟩ : ∃ A1, A1 = (if co31 = ((ji28) : Int).toNat then (some ad191) else ((some ad191) : Option Addr).map (·.add (((ji28) : Int).toNat * 1))) := ⟨_, rfl⟩; obtain ⟨c50, hc50⟩ : ∃ c1, c1 = co31 - ((ji28) : Int).toNat := ⟨_, rfl⟩; have hy50 : y198.length = t182.length - ((ji28) : Int).toNat := (by rw [Ny198.out, List.length_drop] <;> omega); rw [show (t182).drop ((ji28) : Int).toNat = y198 from Ny198.out.symm] at hr50; replace hr50 : Kd.C (Kd.int .i64) _ A50 y198.length y198 := (by rw [hA50]; exact hr50); rw [← hy50, ← hA50, ← hc50] at hcut50; have HR201 := Aside0.mk hr50; have HC201 := Aside0.mk (show y198.length ≤ c50 from by rw [hy50, hc50]; exact Nat.sub_le_sub_right hroom50 _); clear hr50 hC50 hroom50 hi050 hsz50 hc50; have KY50 := Aside0.mk hy50; have KA50 := Aside0.mk hA50; clear hy50 hA50; have KL50 := Aside0.mk (show ((ji28) : Int).toNat ≤ t182.length from by omega); replace q50 := eq_true q50) | (go_at_call 11; (with_reducible refine (spec_IsSorted.calls k4 _ _ y198 t202 _ ?side1 ?side2 A48.out).mono ?_); (case side1 => repeat (first | exact (by repeat (first | (with_reducible exact HR201.out) | (with_reducible refine Kd.C_alloc ?_ _) | (with_reducible refine Kd.C_drewN ?_ _) | (with_reducible refine Kd.C_drew ?_) | exact HR201.out)) | (with_reducible refine Kd.C_alloc ?_ _) | (with_reducible refine Kd.C_drewN ?_ _) | (with_reducible refine Kd.C_drew ?_))); (case side2 => exact HC201.out); rintro e w' ⟨rfl, ⟨nd, rfl⟩⟩; (try first | exact ⟨rfl, _, World.drewN_drewN _ _ _⟩ | exact ⟨rfl, _, Eq.trans (World.drewN_drewN _ _ _) (congrArg (World.drewN _) (Nat.add_assoc _ _ _))⟩)))
                                                  repeat (go_quiet (first | (go_at_call 13; (with_reducible refine (last_drop k4 _ _ l0 ((ji28) : Int).toNat true _ ?side1 ?side2 A44.out).mono ?_); (case side1 => repeat (first | exact (Kd.C_below HR192.out HB.out) | (with_reducible refine Kd.C_alloc ?_ _) | (with_reducible refine Kd.C_drewN ?_ _) | (with_reducible refine Kd.C_drew ?_))); (case side2 => exact HC192.out); rintro e w' ⟨rfl, ⟨nd, rfl⟩⟩; (try first | exact ⟨rfl, _, World.drewN_drewN _ _ _⟩ | exact ⟨rfl, _, Eq.trans (World.drewN_drewN _ _ _) (congrArg (World.drewN _) (Nat.add_assoc _ _ _))⟩); have q50 : ((ji28) : Int) ≤ ((t182.length : Int) : Int) := of_decide_eq_true (by first | (with_reducible assumption) | assumption); obtain ⟨i050, hi050, _, hsz50, _⟩ := info_parts info3; have hroom50 : t182.length ≤ co31 := (Kd.R_reads' HO_3.out).2.1; have hC50 : Kd.C (Kd.int .i64) _ (some ad191) t182.length t182 := (Kd.R_reads' HO_3.out).2.2; have q050 : (0 : Int) ≤ ((ji28) : Int) := of_decide_eq_true (by first | (with_reducible assumption) | assumption); have hcut50 := cut_from (P := Try.prog) 22 3 .i64 Try.underlying22 hi050 1 hsz50 (some ad191) t182.length co31 (ji28) q050 q50; have hr50 := Kd.C_drop (m := ((ji28) : Int).toNat) (c := co31) hC50 (by omega) hroom50; obtain ⟨A50, hA50⟩ : ∃ A1, A1 = (if co31 = ((ji28) : Int).toNat then (some ad191) else ((some ad191) : Option Addr).map (·.add (((ji28) : Int).toNat * 1))) := ⟨_, rfl⟩; obtain ⟨c50, hc50⟩ : ∃ c1, c1 = co31 - ((ji28) : Int).toNat := ⟨_, rfl⟩; have hy50 : y198.length = t182.length - ((ji28) : Int).toNat := (by rw [Ny198.out, List.length_drop] <;> omega); rw [show (t182).drop ((ji28) : Int).toNat = y198 from Ny198.out.symm] at hr50; replace hr50 : Kd.C (Kd.int .i64) _ A50 y198.length y198 := (by rw [hA50]; exact hr50); rw [← hy50, ← hA50, ← hc50] at hcut50; have HR201 := Aside0.mk hr50; have HC201 := Aside0.mk (show y198.length ≤ c50 from by rw [hy50, hc50]; exact Nat.sub_le_sub_right hroom50 _); clear hr50 hC50 hroom50 hi050 hsz50 hc50; have KY50 := Aside0.mk hy50; have KA50 := Aside0.mk hA50; clear hy50 hA50; have KL50 := Aside0.mk (show ((ji28) : Int).toNat ≤ t182.length from by omega); replace q50 := eq_true q50) | (go_at_call 11; (with_reducible refine (spec_IsSorted.calls k4 _ _ y198 t202 _ ?side1 ?side2 A48.out).mono ?_); (case side1 => repeat (first | exact (by repeat (first | (with_reducible exact HR201.out) | (with_reducible refine Kd.C_alloc ?_ _) | (with_reducible refine Kd.C_drewN ?_ _) | (with_reducible refine Kd.C_drew ?_) | exact HR201.out)) | (with_reducible refine Kd.C_alloc ?_ _) | (with_reducible refine Kd.C_drewN ?_ _) | (with_reducible refine Kd.C_drew ?_))); (case side2 => exact HC201.out); rintro e w' ⟨rfl, ⟨nd, rfl⟩⟩; (try first | exact ⟨rfl, _, World.drewN_drewN _ _ _⟩ | exact ⟨rfl, _, Eq.trans (World.drewN_drewN _ _ _) (congrArg (World.drewN _) (Nat.add_assoc _ _ _))⟩))); try go_wp2_with (first | (go_at_call 13; (with_reducible refine (last_drop k4 _ _ l0 ((ji28) : Int).toNat true _ ?side1 ?side2 A44.out).mono ?_); (case side1 => repeat (first | exact (Kd.C_below HR192.out HB.out) | (with_reducible refine Kd.C_alloc ?_ _) | (with_reducible refine Kd.C_drewN ?_ _) | (with_reducible refine Kd.C_drew ?_))); (case side2 => exact HC192.out); rintro e w' ⟨rfl, ⟨nd, rfl⟩⟩; (try first | exact ⟨rfl, _, World.drewN_drewN _ _ _⟩ | exact ⟨rfl, _, Eq.trans (World.drewN_drewN _ _ _) (congrArg (World.drewN _) (Nat.add_assoc _ _ _))⟩); have q50 : ((ji28) : Int) ≤ ((t182.length : Int) : Int) := of_decide_eq_true (by first | (with_reducible assumption) | assumption); obtain ⟨i050, hi050, _, hsz50, _⟩ := info_parts info3; have hroom50 : t182.length ≤ co31 := (Kd.R_reads' HO_3.out).2.1; have hC50 : Kd.C (Kd.int .i64) _ (some ad191) t182.length t182 := (Kd.R_reads' HO_3.out).2.2; have q050 : (0 : Int) ≤ ((ji28) : Int) := of_decide_eq_true (by first | (with_reducible assumption) | assumption); have hcut50 := cut_from (P := Try.prog) 22 3 .i64 Try.underlying22 hi050 1 hsz50 (some ad191) t182.length co31 (ji28) q050 q50; have hr50 := Kd.C_drop (m := ((ji28) : Int).toNat) (c := co31) hC50 (by omega) hroom50; obtain ⟨A50, hA50⟩ : ∃ A1, A1 = (if co31 = ((ji28) : Int).toNat then (some ad191) else ((some ad191) : Option Addr).map (·.add (((ji28) : Int).toNat * 1))) := ⟨_, rfl⟩; obtain ⟨c50, hc50⟩ : ∃ c1, c1 = co31 - ((ji28) : Int).toNat := ⟨_, rfl⟩; have hy50 : y198.length = t182.length - ((ji28) : Int).toNat := (by rw [Ny198.out, List.length_drop] <;> omega); rw [show (t182).drop ((ji28) : Int).toNat = y198 from Ny198.out.symm] at hr50; replace hr50 : Kd.C (Kd.int .i64) _ A50 y198.length y198 := (by rw [hA50]; exact hr50); rw [← hy50, ← hA50, ← hc50] at hcut50; have HR201 := Aside0.mk hr50; have HC201 := Aside0.mk (show y198.length ≤ c50 from by rw [hy50, hc50]; exact Nat.sub_le_sub_right hroom50 _); clear hr50 hC50 hroom50 hi050 hsz50 hc50; have KY50 := Aside0.mk hy50; have KA50 := Aside0.mk hA50; clear hy50 hA50; have KL50 := Aside0.mk (show ((ji28) : Int).toNat ≤ t182.length from by omega); replace q50 := eq_true q50) | (go_at_call 11; (with_reducible refine (spec_IsSorted.calls k4 _ _ y198 t202 _ ?side1 ?side2 A48.out).mono ?_); (case side1 => repeat (first | exact (by repeat (first | (with_reducible exact HR201.out) | (with_reducible refine Kd.C_alloc ?_ _) | (with_reducible refine Kd.C_drewN ?_ _) | (with_reducible refine Kd.C_drew ?_) | exact HR201.out)) | (with_reducible refine Kd.C_alloc ?_ _) | (with_reducible refine Kd.C_drewN ?_ _) | (with_reducible refine Kd.C_drew ?_))); (case side2 => exact HC201.out); rintro e w' ⟨rfl, ⟨nd, rfl⟩⟩; (try first | exact ⟨rfl, _, World.drewN_drewN _ _ _⟩ | exact ⟨rfl, _, Eq.trans (World.drewN_drewN _ _ _) (congrArg (World.drewN _) (Nat.add_assoc _ _ _))⟩))))
                                                  go_ret
                                                  exact ⟨by first | rfl | (simp [errW_none, errW_some] <;> rfl) | (simp only [← hji28, ← hji28]; first | rfl | (simp [errW_none, errW_some] <;> rfl)) | (simp [*, errW_none, errW_some] <;> rfl), by repeat (first | (with_reducible first | exact HB.out | apply below_alloc | apply pw_below_drewN | apply below_drew1) | exact HB.out)⟩
                                                · rw [if_neg c47] at H
                                                  exact absurd H (by simp)
                                              · replace c45 := Bool.eq_false_iff.mpr c45
                                                subst c45
                                                have H1 : (some false) = some r := by rw [if_neg (show ¬ (false = true) by decide)] at H; exact H
                                                clear H
                                                have H := H1
                                                clear H1
                                                obtain rfl := Option.some.inj H
                                                obtain ⟨i051, hi051, _, hsz51, _⟩ := info_parts info3
                                                obtain ⟨A51, hcut51, hA51, hC51⟩ := print_drop_of (P := Try.prog) (Value.int .i64) 0 22 3 .i64 Try.underlying22 hi051 hsz51 (some ad190) c0 l0 (ji28) (of_decide_eq_true (by first | (with_reducible assumption) | assumption)) (of_decide_eq_true (by first | (with_reducible assumption) | assumption)) HC0.out
                                                have HR196 := Aside0.mk (Kd.C_of_reads (h1 := fun _ => rfl) (hA51 _ (Kd.reads_of_C HR0.out)))
                                                have HC196 := Aside0.mk hC51
                                                clear hA51 hC51 hi051 hsz51
                                                go_wp2_with (first | (go_at_call 13; (with_reducible refine (last_drop k4 _ _ l0 ((ji28) : Int).toNat false _ ?side1 ?side2 A44.out).mono ?_); (case side1 => repeat (first | exact (Kd.C_below HR192.out HB.out) | (with_reducible refine Kd.C_alloc ?_ _) | (with_reducible refine Kd.C_drewN ?_ _) | (with_reducible refine Kd.C_drew ?_))); (case side2 => exact HC192.out); rintro e w' ⟨rfl, ⟨nd, rfl⟩⟩; (try first | exact ⟨rfl, _, World.drewN_drewN _ _ _⟩ | exact ⟨rfl, _, Eq.trans (World.drewN_drewN _ _ _) (congrArg (World.drewN _) (Nat.add_assoc _ _ _))⟩)))
                                                repeat (go_quiet (first | (go_at_call 13; (with_reducible refine (last_drop k4 _ _ l0 ((ji28) : Int).toNat false _ ?side1 ?side2 A44.out).mono ?_); (case side1 => repeat (first | exact (Kd.C_below HR192.out HB.out) | (with_reducible refine Kd.C_alloc ?_ _) | (with_reducible refine Kd.C_drewN ?_ _) | (with_reducible refine Kd.C_drew ?_))); (case side2 => exact HC192.out); rintro e w' ⟨rfl, ⟨nd, rfl⟩⟩; (try first | exact ⟨rfl, _, World.drewN_drewN _ _ _⟩ | exact ⟨rfl, _, Eq.trans (World.drewN_drewN _ _ _) (congrArg (World.drewN _) (Nat.add_assoc _ _ _))⟩))); try go_wp2_with (first | (go_at_call 13; (with_reducible refine (last_drop k4 _ _ l0 ((ji28) : Int).toNat false _ ?side1 ?side2 A44.out).mono ?_); (case side1 => repeat (first | exact (Kd.C_below HR192.out HB.out) | (with_reducible refine Kd.C_alloc ?_ _) | (with_reducible refine Kd.C_drewN ?_ _) | (with_reducible refine Kd.C_drew ?_))); (case side2 => exact HC192.out); rintro e w' ⟨rfl, ⟨nd, rfl⟩⟩; (try first | exact ⟨rfl, _, World.drewN_drewN _ _ _⟩ | exact ⟨rfl, _, Eq.trans (World.drewN_drewN _ _ _) (congrArg (World.drewN _) (Nat.add_assoc _ _ _))⟩))))
                                                go_ret
                                                exact ⟨by first | rfl | (simp [errW_none, errW_some] <;> rfl) | (simp only [← hji28, ← hji28]; first | rfl | (simp [errW_none, errW_some] <;> rfl)) | (simp [*, errW_none, errW_some] <;> rfl), by repeat (first | (with_reducible first | exact HB.out | apply below_alloc | apply pw_below_drewN | apply below_drew1) | exact HB.out)⟩
                                            · rw [if_neg c43] at H
                                              exact absurd H (by simp)
                                          · rw [if_neg c42] at H
                                            exact absurd H (by simp)
                                  · rw [if_neg c30] at H
                                    exact absurd H (by simp)
                                · rw [if_neg c29] at H
                                  exact absurd H (by simp)
                            · rw [if_neg c25] at H
                              exact absurd H (by simp)
                          · rw [if_neg c24] at H
                            exact absurd H (by simp)
                        · rw [if_neg c23] at H
                          exact absurd H (by simp)
            · replace c15 := Bool.eq_false_iff.mpr c15
              subst c15
              have H1 : (some true) = some r := by rw [if_neg (show ¬ (false = true) by decide)] at H; exact H
              clear H
              have H := H1
              clear H1
              obtain rfl := Option.some.inj H
              go_wp2
              repeat (go_quiet (fail); try go_wp2)
              go_ret
              exact ⟨by first | rfl | (simp [errW_none, errW_some] <;> rfl) | (simp [*, errW_none, errW_some] <;> rfl), by repeat (first | (with_reducible first | exact HB.out | apply below_alloc | apply pw_below_drewN | apply below_drew1) | exact HB.out)⟩

/-- THE ONE PURE STATEMENT of laws_FnPermutationNext: yours. -/
def laws_FnPermutationNext.Pure : Prop := ∀ (l0 : List Int), l0.length ≤ maxLen → l0.length * 8 ≤ 140737488351232 → (∀ x ∈ l0, (Lit.int .i64 x).wf = true) → ∃ k, laws_FnPermutationNext.f k l0 = some true
theorem laws_FnPermutationNext.walk (P : laws_FnPermutationNext.Pure) (a0 : Option Addr) (len0 cap0 : Nat) (z0 : List Int) (w : World) (w0 : (a0 = none ∧ len0 = 0 ∧ cap0 = 0 ∧ z0 = []) ∨ ∃ x, a0 = some x ∧ len0 ≤ cap0 ∧ cap0 ≤ maxLen ∧ z0.length = cap0 ∧ (∀ i, i < z0.length → w.cell? (x.add i) = some (.int .i64 (z0.getD i 0))) ∧ ∀ n ∈ z0, (Lit.int .i64 n).wf = true) (y0 : len0 * 8 ≤ 140737488351232) :
    Calls Try.prog 5 #[.slice a0 len0 cap0] w fun e w' => e = .returned (.bool true) ∧ Below w.heap.size w w' := by
  obtain ⟨l0, rfl, hr0, hm0, hw0, hc0⟩ := ReadsInt.ofRowC w0
  obtain ⟨k, h⟩ := P l0 hm0 y0 hw0
  refine (laws_FnPermutationNext.calls k _ _ l0 true w (Kd.C_of_reads (d := (0 : Int)) (h1 := fun _ => rfl) hr0) hc0 h).mono ?_
  rintro e w' ⟨rfl, hd⟩
  exact ⟨rfl, hd⟩

end Go.Proofs.Ytpelipdecjooeaa.PFnPermutationNext
