/- The functions that the law 'FnRol' reaches, each with its contract. -/
import Derived.Test.YtjfefhjnpokcbaaOFnRolx0
namespace Go.Proofs.Ytjfefhjnpokcbaa.PFnRol
open Go.RowKit Go.Proofs.YtjfefhjnpokcbaaW.PrintWords Go.Proofs.YtjfefhjnpokcbaaW.PrintLast Go.Proofs.YtjfefhjnpokcbaaW.PrintMore
attribute [local go_sem] max2_int min2_int max_two min_two max_three min_three max_four min_four   -- for this text's walks alone
set_option linter.unusedVariables false
set_option linter.unusedSimpArgs false

/-! ### mathutil_rol: function 46 -/
def mathutil_rol.f (a0 : Int) : Option (Int) := if (wrap64 (a0)) < 0 then (some (Go.bits .or .u64 (IntKind.u64.wrap (a0 * 2)) 1)) else (some (IntKind.u64.wrap (a0 * 2)))
set_option maxHeartbeats 8000000 in
set_option maxRecDepth 100000 in
theorem mathutil_rol.calls (a0 : Int) (r : Int) (w : World) (h : mathutil_rol.f a0 = some r) :
    Calls Try.prog 46 #[.int .u64 a0] w fun e w' => e = .returned (.int .u64 r) ∧ Drawn0 w w' := by
  have H : (if (wrap64 (a0)) < 0 then (some (Go.bits .or .u64 (IntKind.u64.wrap (a0 * 2)) 1)) else (some (IntKind.u64.wrap (a0 * 2)))) = some r := h
  clear h
  by_cases c2 : (wrap64 (a0)) < 0
  · rw [if_pos c2] at H
    have c2b0 : decide ((wrap64 (a0)) < 0) = true := decide_eq_true c2
    clear c2
    obtain rfl := Option.some.inj H
    go_enter Try.func46, Try.ntmps46
    go_wp2
    go_ret
    exact ⟨by first | rfl | (simp; done) | (simp [*]; done), by repeat (first | exact Drawn0.refl _ | apply Drawn0.step)⟩
  · rw [if_neg c2] at H
    have c2b0 : decide ((wrap64 (a0)) < 0) = false := decide_eq_false c2
    clear c2
    obtain rfl := Option.some.inj H
    go_enter Try.func46, Try.ntmps46
    go_wp2
    go_ret
    exact ⟨by first | rfl | (simp; done) | (simp [*]; done), by repeat (first | exact Drawn0.refl _ | apply Drawn0.step)⟩

/-! ### mathutil_ZZRol: function 40 -/
def mathutil_ZZRol.f (a0 : Int) : Option (Int) := (mathutil_rol.f a0).bind fun t101 => (some t101)
set_option maxHeartbeats 8000000 in
set_option maxRecDepth 100000 in
theorem mathutil_ZZRol.calls (a0 : Int) (r : Int) (w : World) (h : mathutil_ZZRol.f a0 = some r) :
    Calls Try.prog 40 #[.int .u64 a0] w fun e w' => e = .returned (.int .u64 r) ∧ Drawn0 w w' := by
  have H : ((mathutil_rol.f a0).bind fun t101 => (some t101)) = some r := h
  clear h
  replace H := Option.bind_eq_some_iff.mp H
  obtain ⟨t101, A20, H⟩ := H
  replace H : (some t101) = some r := H
  have A2 := Aside0.mk A20
  clear A20
  obtain rfl := Option.some.inj H
  go_enter Try.func40, Try.ntmps40
  go_wp2_with (first | ((with_reducible refine gate_callee (f := 46) rfl ?_); refine goesL_ (some 4) rfl rfl Try.func46 (by kernel_rfl) rfl #[.int .u64 a0] rfl (by (try simp only [List.map_toArray, List.map_cons, List.map_nil]); first | done | rfl | (simp only [List.length_drop, List.length_take]; rfl)) ?_; (with_reducible refine (mathutil_rol.calls a0 t101 _ A2.out).mono ?_); rintro e w' ⟨rfl, ⟨nd, rfl⟩⟩; refine ⟨_, rfl, ?_⟩))
  go_ret
  exact ⟨by first | rfl | (simp; done) | (simp [*]; done), by repeat (first | exact Drawn0.refl _ | apply Drawn0.step)⟩

/-! ### impl_Rol: function 26 -/
def impl_Rol.f (a0 : Int) : Option (Int) := (mathutil_ZZRol.f a0).bind fun t102 => (some t102)
set_option maxHeartbeats 8000000 in
set_option maxRecDepth 100000 in
theorem impl_Rol.calls (a0 : Int) (r : Int) (w : World) (h : impl_Rol.f a0 = some r) :
    Calls Try.prog 26 #[.int .u64 a0] w fun e w' => e = .returned (.int .u64 r) ∧ Drawn0 w w' := by
  have H : ((mathutil_ZZRol.f a0).bind fun t102 => (some t102)) = some r := h
  clear h
  replace H := Option.bind_eq_some_iff.mp H
  obtain ⟨t102, A20, H⟩ := H
  replace H : (some t102) = some r := H
  have A2 := Aside0.mk A20
  clear A20
  obtain rfl := Option.some.inj H
  go_enter Try.func26, Try.ntmps26
  go_wp2_with (first | ((with_reducible refine gate_callee (f := 40) rfl ?_); refine goesL_ (some 4) rfl rfl Try.func40 (by kernel_rfl) rfl #[.int .u64 a0] rfl (by (try simp only [List.map_toArray, List.map_cons, List.map_nil]); first | done | rfl | (simp only [List.length_drop, List.length_take]; rfl)) ?_; (with_reducible refine (mathutil_ZZRol.calls a0 t102 _ A2.out).mono ?_); rintro e w' ⟨rfl, ⟨nd, rfl⟩⟩; refine ⟨_, rfl, ?_⟩))
  go_ret
  exact ⟨by first | rfl | (simp; done) | (simp [*]; done), by repeat (first | exact Drawn0.refl _ | apply Drawn0.step)⟩

/-! ### spec_Ones: function 27 -/
def spec_Ones.l0 : Nat → Int → Int → Option (Int)
  | 0, _, _ => none
  | k + 1, x0, x3 => if x0 > 0 then (spec_Ones.l0 k (IntKind.u64.wrap (Int.tdiv x0 2)) (wrap64 (x3 + (wrap64 (Int.tmod x0 2))))) else (some x3)
def spec_Ones.f (k : Nat) (a0 : Int) : Option (Int) := spec_Ones.l0 k a0 0
theorem spec_Ones.mono_l : ∀ k, (∀ y0 y1, LeO (spec_Ones.l0 k y0 y1) (spec_Ones.l0 (k + 1) y0 y1))
  | 0 => fun _ _ r h => by simp [spec_Ones.l0] at h
  | k + 1 => by
    have ih0 := spec_Ones.mono_l k
    · intro y0 y1
      unfold spec_Ones.l0
      repeat' first
      | (with_reducible exact ih0 _ _)
      | (with_reducible exact LeO.refl _)
      | (with_reducible exact LeO.none _)
      | (with_reducible refine LeO.ite ?_ ?_)
      | (with_reducible refine LeO.bind ?_ (fun _ => ?_))
      | exact ih0 _ _
      | exact LeO.none _
      | refine LeO.ite ?_ ?_
      | refine LeO.bind ?_ (fun _ => ?_)
theorem spec_Ones.mono : ∀ a0 k, LeO (spec_Ones.f k a0) (spec_Ones.f (k + 1) a0) := by
  intro a0 k
  have ih0 := spec_Ones.mono_l k
  unfold spec_Ones.f
  repeat' first
      | (with_reducible exact ih0 _ _)
      | (with_reducible exact LeO.refl _)
      | (with_reducible exact LeO.none _)
      | (with_reducible refine LeO.ite ?_ ?_)
      | (with_reducible refine LeO.bind ?_ (fun _ => ?_))
      | exact ih0 _ _
      | exact LeO.none _
      | refine LeO.ite ?_ ?_
      | refine LeO.bind ?_ (fun _ => ?_)
set_option maxHeartbeats 8000000 in
set_option maxRecDepth 100000 in
theorem spec_Ones.calls (k : Nat) (a0 : Int) (r : Int) (w : World) (h : spec_Ones.f k a0 = some r) :
    Calls Try.prog 27 #[.int .u64 a0] w fun e w' => e = .returned (.int .i64 r) ∧ Drawn0 w w' := by
  have H : (spec_Ones.l0 k a0 0) = some r := h
  clear h
  have H' := Aside0.mk H
  clear H
  go_enter Try.func27, Try.ntmps27
  go_wp2
  go_loopg [0, 3] k (fun kq v0 v3 w' => ∃ (x0_1 : Int) (x3_1 : Int), v0 = .int .u64 x0_1 ∧ v3 = .int .i64 x3_1 ∧ Aside0 (spec_Ones.l0 kq x0_1 x3_1 = some r) ∧ Aside0 (kq ≤ k) ∧ Drawn0 w w')
  case atStart => exact ⟨(a0), (0), (by first | rfl | (simp; done) | (simp [*]; done)), (by first | rfl | (simp; done) | (simp [*]; done)), H', ⟨Nat.le_refl _⟩, by repeat (first | exact Drawn0.refl _ | apply Drawn0.step)⟩
  case round =>
    clear H'
    obtain ⟨x0_1, x3_1, rfl, rfl, HA, HK1, ⟨m1, rfl⟩⟩ := hrel
    cases gk with
    | zero => exact absurd HA.out (by simp [spec_Ones.l0])
    | succ k1 =>
      have H := HA.out
      clear HA
      simp only [spec_Ones.l0] at H
      by_cases c2 : x0_1 > 0
      · rw [if_pos c2] at H
        have c2b0 : decide (0 < x0_1) = true := decide_eq_true c2
        clear c2
        have H' := Aside0.mk H
        clear H
        go_wp2
        go_roundg k1
        case measure => have := HK1.out; omega
        case rel => exact ⟨(IntKind.u64.wrap (Int.tdiv x0_1 2)), (wrap64 (x3_1 + (wrap64 (Int.tmod x0_1 2)))), (by first | rfl | (simp; done) | (simp [*]; done)), (by first | rfl | (simp; done) | (simp [*]; done)), H', ⟨by have := HK1.out; omega⟩, by repeat (first | exact Drawn0.refl _ | apply Drawn0.step)⟩
      · rw [if_neg c2] at H
        have c2b0 : decide (0 < x0_1) = false := decide_eq_false c2
        clear c2
        obtain rfl := Option.some.inj H
        go_wp2
        go_ret
        exact ⟨by first | rfl | (simp; done) | (simp [*]; done), by repeat (first | exact Drawn0.refl _ | apply Drawn0.step)⟩

/-! ### laws_FnRol: function 8 -/
def laws_FnRol.l0 : Nat → Int → Int → Int → Int → Option (Bool)
  | 0, _, _, _, _ => none
  | k + 1, x0, x1, x5, x7 => if x7 < 64 then ((impl_Rol.f x5).bind fun t103 => (laws_FnRol.l0 k x0 x1 t103 (wrap64 (x7 + 1)))) else ((impl_Rol.f 1).bind fun t104 => (if t104 = 0 then (some false) else (if x5 = x0 then ((impl_Rol.f x0).bind fun t105 => ((spec_Ones.f k t105).bind fun t106 => ((spec_Ones.f k x0).bind fun t107 => (if t106 = t107 then ((impl_Rol.f (Go.bits .xor .u64 x0 x1)).bind fun t108 => ((impl_Rol.f x0).bind fun t109 => ((impl_Rol.f x1).bind fun t110 => (some (t108 == (Go.bits .xor .u64 t109 t110)))))) else (some false))))) else (some false))))
def laws_FnRol.f (k : Nat) (a0 : Int) (a1 : Int) : Option (Bool) := laws_FnRol.l0 k a0 a1 a0 0
theorem laws_FnRol.mono_l : ∀ k, (∀ y0 y1 y2 y3, LeO (laws_FnRol.l0 k y0 y1 y2 y3) (laws_FnRol.l0 (k + 1) y0 y1 y2 y3))
  | 0 => fun _ _ _ _ r h => by simp [laws_FnRol.l0] at h
  | k + 1 => by
    have ih0 := laws_FnRol.mono_l k
    · intro y0 y1 y2 y3
      unfold laws_FnRol.l0
      repeat' first
      | (with_reducible exact ih0 _ _ _ _)
      | (with_reducible exact spec_Ones.mono _ _)
      | (with_reducible exact LeO.refl _)
      | (with_reducible exact LeO.none _)
      | (with_reducible refine LeO.ite ?_ ?_)
      | (with_reducible refine LeO.bind ?_ (fun _ => ?_))
      | exact ih0 _ _ _ _
      | exact spec_Ones.mono _ _
      | exact LeO.none _
      | refine LeO.ite ?_ ?_
      | refine LeO.bind ?_ (fun _ => ?_)
theorem laws_FnRol.mono : ∀ a0 a1 k, LeO (laws_FnRol.f k a0 a1) (laws_FnRol.f (k + 1) a0 a1) := by
  intro a0 a1 k
  have ih0 := laws_FnRol.mono_l k
  unfold laws_FnRol.f
  repeat' first
      | (with_reducible exact ih0 _ _ _ _)
      | (with_reducible exact spec_Ones.mono _ _)
      | (with_reducible exact LeO.refl _)
      | (with_reducible exact LeO.none _)
      | (with_reducible refine LeO.ite ?_ ?_)
      | (with_reducible refine LeO.bind ?_ (fun _ => ?_))
      | exact ih0 _ _ _ _
      | exact spec_Ones.mono _ _
      | exact LeO.none _
      | refine LeO.ite ?_ ?_
      | refine LeO.bind ?_ (fun _ => ?_)
set_option maxHeartbeats 8000000 in
set_option maxRecDepth 100000 in
theorem laws_FnRol.calls (k : Nat) (a0 : Int) (a1 : Int) (r : Bool) (w : World) (h : laws_FnRol.f k a0 a1 = some r) :
    Calls Try.prog 8 #[.int .u64 a0, .int .u64 a1] w fun e w' => e = .returned (.bool r) ∧ Drawn0 w w' := by
  have H : (laws_FnRol.l0 k a0 a1 a0 0) = some r := h
  clear h
  have H' := Aside0.mk H
  clear H
  go_enter Try.func8, Try.ntmps8
  go_wp2
  go_loopg [5, 7] k (fun kq v5 v7 w' => ∃ (x5_1 : Int) (x7_1 : Int), v5 = .int .u64 x5_1 ∧ v7 = .int .i64 x7_1 ∧ Aside0 (laws_FnRol.l0 kq a0 a1 x5_1 x7_1 = some r) ∧ Aside0 (kq ≤ k) ∧ Drawn0 w w')
  case atStart => exact ⟨(a0), (0), (by first | rfl | (simp; done) | (simp [*]; done)), (by first | rfl | (simp; done) | (simp [*]; done)), H', ⟨Nat.le_refl _⟩, by repeat (first | exact Drawn0.refl _ | apply Drawn0.step)⟩
  case round =>
    clear H'
    try clear p2
    obtain ⟨x5_1, x7_1, rfl, rfl, HA, HK1, ⟨m1, rfl⟩⟩ := hrel
    cases gk with
    | zero => exact absurd HA.out (by simp [laws_FnRol.l0])
    | succ k1 =>
      have H := HA.out
      clear HA
      simp only [laws_FnRol.l0] at H
      by_cases c3 : x7_1 < 64
      · rw [if_pos c3] at H
        have c3b0 : decide (x7_1 < 64) = true := decide_eq_true c3
        clear c3
        replace H := Option.bind_eq_some_iff.mp H
        obtain ⟨t103, A40, H⟩ := H
        replace H : (laws_FnRol.l0 k1 a0 a1 t103 (wrap64 (x7_1 + 1))) = some r := H
        have A4 := Aside0.mk A40
        clear A40
        have H' := Aside0.mk H
        clear H
        go_wp2_with (first | ((with_reducible refine gate_callee (f := 26) rfl ?_); refine goesL_ (some 10) rfl rfl Try.func26 (by kernel_rfl) rfl #[.int .u64 x5_1] rfl (by (try simp only [List.map_toArray, List.map_cons, List.map_nil]); first | done | rfl | (simp only [List.length_drop, List.length_take]; rfl)) ?_; (with_reducible refine (impl_Rol.calls x5_1 t103 _ A4.out).mono ?_); rintro e w' ⟨rfl, ⟨nd, rfl⟩⟩; refine ⟨_, rfl, ?_⟩))
        go_roundg k1
        case measure => have := HK1.out; omega
        case rel => exact ⟨(t103), (wrap64 (x7_1 + 1)), (by first | rfl | (simp; done) | (simp [*]; done)), (by first | rfl | (simp; done) | (simp [*]; done)), H', ⟨by have := HK1.out; omega⟩, by repeat (first | exact Drawn0.refl _ | apply Drawn0.step)⟩
      · rw [if_neg c3] at H
        have c3b0 : decide (x7_1 < 64) = false := decide_eq_false c3
        clear c3
        replace H := Option.bind_eq_some_iff.mp H
        obtain ⟨t104, A50, H⟩ := H
        replace H : (if t104 = 0 then (some false) else (if x5_1 = a0 then ((impl_Rol.f a0).bind fun t105 => ((spec_Ones.f k1 t105).bind fun t106 => ((spec_Ones.f k1 a0).bind fun t107 => (if t106 = t107 then ((impl_Rol.f (Go.bits .xor .u64 a0 a1)).bind fun t108 => ((impl_Rol.f a0).bind fun t109 => ((impl_Rol.f a1).bind fun t110 => (some (t108 == (Go.bits .xor .u64 t109 t110)))))) else (some false))))) else (some false))) = some r := H
        have A5 := Aside0.mk A50
        clear A50
        by_cases c6 : t104 = 0
        · rw [if_pos c6] at H
          have c6b0 : (t104 == 0) = true := beq_iff_eq.mpr c6
          have c6b1 : (t104 != 0) = false := bne_eq_false_iff_eq.mpr c6
          clear c6
          obtain rfl := Option.some.inj H
          go_wp2_with (first | ((with_reducible refine gate_callee (f := 26) rfl ?_); refine goesL_ (some 12) rfl rfl Try.func26 (by kernel_rfl) rfl #[.int .u64 1] rfl (by (try simp only [List.map_toArray, List.map_cons, List.map_nil]); first | done | rfl | (simp only [List.length_drop, List.length_take]; rfl)) ?_; (with_reducible refine (impl_Rol.calls 1 t104 _ A5.out).mono ?_); rintro e w' ⟨rfl, ⟨nd, rfl⟩⟩; refine ⟨_, rfl, ?_⟩))
          go_ret
          exact ⟨by first | rfl | (simp; done) | (simp [*]; done), by repeat (first | exact Drawn0.refl _ | apply Drawn0.step)⟩
        · rw [if_neg c6] at H
          have c6b0 : (t104 == 0) = false := beq_eq_false_iff_ne.mpr c6
          have c6b1 : (t104 != 0) = true := bne_iff_ne.mpr c6
          by_cases c7 : x5_1 = a0
          · rw [if_pos c7] at H
            have c7b0 : (x5_1 == a0) = true := beq_iff_eq.mpr c7
            have c7b1 : (x5_1 != a0) = false := bne_eq_false_iff_eq.mpr c7
            clear c7
            replace H := Option.bind_eq_some_iff.mp H
            obtain ⟨t105, A80, H⟩ := H
            replace H : ((spec_Ones.f k1 t105).bind fun t106 => ((spec_Ones.f k1 a0).bind fun t107 => (if t106 = t107 then ((impl_Rol.f (Go.bits .xor .u64 a0 a1)).bind fun t108 => ((impl_Rol.f a0).bind fun t109 => ((impl_Rol.f a1).bind fun t110 => (some (t108 == (Go.bits .xor .u64 t109 t110)))))) else (some false)))) = some r := H
            have A8 := Aside0.mk A80
            clear A80
            replace H := Option.bind_eq_some_iff.mp H
            obtain ⟨t106, A90, H⟩ := H
            replace H : ((spec_Ones.f k1 a0).bind fun t107 => (if t106 = t107 then ((impl_Rol.f (Go.bits .xor .u64 a0 a1)).bind fun t108 => ((impl_Rol.f a0).bind fun t109 => ((impl_Rol.f a1).bind fun t110 => (some (t108 == (Go.bits .xor .u64 t109 t110)))))) else (some false))) = some r := H
            have A9 := Aside0.mk A90
            clear A90
            replace H := Option.bind_eq_some_iff.mp H
            obtain ⟨t107, A100, H⟩ := H
            replace H : (if t106 = t107 then ((impl_Rol.f (Go.bits .xor .u64 a0 a1)).bind fun t108 => ((impl_Rol.f a0).bind fun t109 => ((impl_Rol.f a1).bind fun t110 => (some (t108 == (Go.bits .xor .u64 t109 t110)))))) else (some false)) = some r := H
            have A10 := Aside0.mk A100
            clear A100
            by_cases c11 : t106 = t107
            · rw [if_pos c11] at H
              have c11b0 : (t106 == t107) = true := beq_iff_eq.mpr c11
              have c11b1 : (t106 != t107) = false := bne_eq_false_iff_eq.mpr c11
              clear c11
              replace H := Option.bind_eq_some_iff.mp H
              obtain ⟨t108, A120, H⟩ := H
              replace H : ((impl_Rol.f a0).bind fun t109 => ((impl_Rol.f a1).bind fun t110 => (some (t108 == (Go.bits .xor .u64 t109 t110))))) = some r := H
              have A12 := Aside0.mk A120
              clear A120
              replace H := Option.bind_eq_some_iff.mp H
              obtain ⟨t109, A130, H⟩ := H
              replace H : ((impl_Rol.f a1).bind fun t110 => (some (t108 == (Go.bits .xor .u64 t109 t110)))) = some r := H
              have A13 := Aside0.mk A130
              clear A130
              replace H := Option.bind_eq_some_iff.mp H
              obtain ⟨t110, A140, H⟩ := H
              replace H : (some (t108 == (Go.bits .xor .u64 t109 t110))) = some r := H
              have A14 := Aside0.mk A140
              clear A140
              obtain rfl := Option.some.inj H
              go_wp2_with (first | ((with_reducible refine gate_callee (f := 26) rfl ?_); refine goesL_ (some 12) rfl rfl Try.func26 (by kernel_rfl) rfl #[.int .u64 1] rfl (by (try simp only [List.map_toArray, List.map_cons, List.map_nil]); first | done | rfl | (simp only [List.length_drop, List.length_take]; rfl)) ?_; (with_reducible refine (impl_Rol.calls 1 t104 _ A5.out).mono ?_); rintro e w' ⟨rfl, ⟨nd, rfl⟩⟩; refine ⟨_, rfl, ?_⟩) | (go_at_call 26; (with_reducible refine (impl_Rol.calls a0 t105 _ A8.out).mono ?_); rintro e w' ⟨rfl, ⟨nd, rfl⟩⟩) | (go_at_call 27; (with_reducible refine (spec_Ones.calls k1 t105 t106 _ A9.out).mono ?_); rintro e w' ⟨rfl, ⟨nd, rfl⟩⟩) | (go_at_call 27; (with_reducible refine (spec_Ones.calls k1 a0 t107 _ A10.out).mono ?_); rintro e w' ⟨rfl, ⟨nd, rfl⟩⟩) | (go_at_call 26; (with_reducible refine (impl_Rol.calls (Go.bits .xor .u64 a0 a1) t108 _ A12.out).mono ?_); rintro e w' ⟨rfl, ⟨nd, rfl⟩⟩) | (go_at_call 26; (with_reducible refine (impl_Rol.calls a0 t109 _ A13.out).mono ?_); rintro e w' ⟨rfl, ⟨nd, rfl⟩⟩) | (go_at_call 26; (with_reducible refine (impl_Rol.calls a1 t110 _ A14.out).mono ?_); rintro e w' ⟨rfl, ⟨nd, rfl⟩⟩))
              go_ret
              exact ⟨by have e9 := Option.some.inj (A13.out.symm.trans A8.out); first | (subst e9; rfl) | (rw [e9]) | rfl | (simp; done) | (simp [*]; done), by repeat (first | exact Drawn0.refl _ | apply Drawn0.step)⟩
            · rw [if_neg c11] at H
              have c11b0 : (t106 == t107) = false := beq_eq_false_iff_ne.mpr c11
              have c11b1 : (t106 != t107) = true := bne_iff_ne.mpr c11
              obtain rfl := Option.some.inj H
              go_wp2_with (first | ((with_reducible refine gate_callee (f := 26) rfl ?_); refine goesL_ (some 12) rfl rfl Try.func26 (by kernel_rfl) rfl #[.int .u64 1] rfl (by (try simp only [List.map_toArray, List.map_cons, List.map_nil]); first | done | rfl | (simp only [List.length_drop, List.length_take]; rfl)) ?_; (with_reducible refine (impl_Rol.calls 1 t104 _ A5.out).mono ?_); rintro e w' ⟨rfl, ⟨nd, rfl⟩⟩; refine ⟨_, rfl, ?_⟩) | (go_at_call 26; (with_reducible refine (impl_Rol.calls a0 t105 _ A8.out).mono ?_); rintro e w' ⟨rfl, ⟨nd, rfl⟩⟩) | (go_at_call 27; (with_reducible refine (spec_Ones.calls k1 t105 t106 _ A9.out).mono ?_); rintro e w' ⟨rfl, ⟨nd, rfl⟩⟩) | (go_at_call 27; (with_reducible refine (spec_Ones.calls k1 a0 t107 _ A10.out).mono ?_); rintro e w' ⟨rfl, ⟨nd, rfl⟩⟩))
              go_ret
              exact ⟨by first | rfl | (simp; done) | (simp [*]; done), by repeat (first | exact Drawn0.refl _ | apply Drawn0.step)⟩
          · rw [if_neg c7] at H
            have c7b0 : (x5_1 == a0) = false := beq_eq_false_iff_ne.mpr c7
            have c7b1 : (x5_1 != a0) = true := bne_iff_ne.mpr c7
            obtain rfl := Option.some.inj H
            go_wp2_with (first | ((with_reducible refine gate_callee (f := 26) rfl ?_); refine goesL_ (some 12) rfl rfl Try.func26 (by kernel_rfl) rfl #[.int .u64 1] rfl (by (try simp only [List.map_toArray, List.map_cons, List.map_nil]); first | done | rfl | (simp only [List.length_drop, List.length_take]; rfl)) ?_; (with_reducible refine (impl_Rol.calls 1 t104 _ A5.out).mono ?_); rintro e w' ⟨rfl, ⟨nd, rfl⟩⟩; refine ⟨_, rfl, ?_⟩))
            go_ret
            exact ⟨by first | rfl | (simp; done) | (simp [*]; done), by repeat (first | exact Drawn0.refl _ | apply Drawn0.step)⟩

/-- THE ONE PURE STATEMENT of laws_FnRol: yours. -/
def laws_FnRol.Pure : Prop := ∀ (a0 : Int) (a1 : Int), (Lit.int .u64 a0).wf = true → (Lit.int .u64 a1).wf = true → ∃ k, laws_FnRol.f k a0 a1 = some true
theorem laws_FnRol.walk (P : laws_FnRol.Pure) (a0 : Int) (a1 : Int) (w : World) (w0 : (Lit.int .u64 a0).wf = true) (w1 : (Lit.int .u64 a1).wf = true) :
    Calls Try.prog 8 #[.int .u64 a0, .int .u64 a1] w fun e w' => e = .returned (.bool true) ∧ Below w.heap.size w w' := by
  obtain ⟨k, h⟩ := P a0 a1 w0 w1
  refine (laws_FnRol.calls k a0 a1 true w h).mono ?_
  rintro e w' ⟨rfl, hd⟩
  exact ⟨rfl, hd.below⟩

end Go.Proofs.Ytjfefhjnpokcbaa.PFnRol
