/- The functions that the law 'FnPopCount' reaches, each with its contract. -/
import Derived.Test.YtfoifemajoebpaaDoorOFnPopCountx0
namespace Go.Proofs.YtfoifemajoebpaaDoor.PFnPopCount
open Go.RowKit Go.Proofs.YtfoifemajoebpaaDoorW.PrintWords Go.Proofs.YtfoifemajoebpaaDoorW.PrintLast Go.Proofs.YtfoifemajoebpaaDoorW.PrintMore
attribute [local go_sem] max2_int min2_int max_two min_two max_three min_three max_four min_four   -- for this text's walks alone
set_option linter.unusedVariables false
set_option linter.unusedSimpArgs false

/-! ### spec_IsWidth: function 8 -/
def spec_IsWidth.f (a0 : Int) : Option (Bool) := if a0 = 8 then (some true) else (if a0 = 16 then (some true) else (if a0 = 32 then (some true) else (some (a0 == 64))))
set_option maxHeartbeats 8000000 in
set_option maxRecDepth 100000 in
theorem spec_IsWidth.calls (a0 : Int) (r : Bool) (w : World) (h : spec_IsWidth.f a0 = some r) :
    Calls Tryd.prog 8 #[.int .i64 a0] w fun e w' => e = .returned (.bool r) ∧ Drawn0 w w' := by
  have H : (if a0 = 8 then (some true) else (if a0 = 16 then (some true) else (if a0 = 32 then (some true) else (some (a0 == 64))))) = some r := h
  clear h
  by_cases c2 : a0 = 8
  · rw [if_pos c2] at H
    have c2b0 : (a0 == 8) = true := beq_iff_eq.mpr c2
    have c2b1 : (a0 != 8) = false := bne_eq_false_iff_eq.mpr c2
    clear c2
    obtain rfl := Option.some.inj H
    go_enter Tryd.func8, Tryd.ntmps8
    go_wp2
    go_ret
    exact ⟨by first | rfl | (simp; done) | (simp [*]; done), by repeat (first | exact Drawn0.refl _ | apply Drawn0.step)⟩
  · rw [if_neg c2] at H
    have c2b0 : (a0 == 8) = false := beq_eq_false_iff_ne.mpr c2
    have c2b1 : (a0 != 8) = true := bne_iff_ne.mpr c2
    by_cases c3 : a0 = 16
    · rw [if_pos c3] at H
      have c3b0 : (a0 == 16) = true := beq_iff_eq.mpr c3
      have c3b1 : (a0 != 16) = false := bne_eq_false_iff_eq.mpr c3
      clear c3
      obtain rfl := Option.some.inj H
      go_enter Tryd.func8, Tryd.ntmps8
      go_wp2
      go_ret
      exact ⟨by first | rfl | (simp; done) | (simp [*]; done), by repeat (first | exact Drawn0.refl _ | apply Drawn0.step)⟩
    · rw [if_neg c3] at H
      have c3b0 : (a0 == 16) = false := beq_eq_false_iff_ne.mpr c3
      have c3b1 : (a0 != 16) = true := bne_iff_ne.mpr c3
      by_cases c4 : a0 = 32
      · rw [if_pos c4] at H
        have c4b0 : (a0 == 32) = true := beq_iff_eq.mpr c4
        have c4b1 : (a0 != 32) = false := bne_eq_false_iff_eq.mpr c4
        clear c4
        obtain rfl := Option.some.inj H
        go_enter Tryd.func8, Tryd.ntmps8
        go_wp2
        go_ret
        exact ⟨by first | rfl | (simp; done) | (simp [*]; done), by repeat (first | exact Drawn0.refl _ | apply Drawn0.step)⟩
      · rw [if_neg c4] at H
        have c4b0 : (a0 == 32) = false := beq_eq_false_iff_ne.mpr c4
        have c4b1 : (a0 != 32) = true := bne_iff_ne.mpr c4
        obtain rfl := Option.some.inj H
        go_enter Tryd.func8, Tryd.ntmps8
        go_wp2
        go_ret
        exact ⟨by first | rfl | (simp; done) | (simp [*]; done), by repeat (first | exact Drawn0.refl _ | apply Drawn0.step)⟩

/-! ### spec_Low: function 9 -/
def spec_Low.f (a0 : Int) (a1 : Int) : Option (Int) := if 0 ≤ (wrap64 (64 - a0)) then (some (shr .u64 (shl .u64 a1 (wrap64 (64 - a0))) (wrap64 (64 - a0)))) else (none)
set_option maxHeartbeats 8000000 in
set_option maxRecDepth 100000 in
theorem spec_Low.calls (a0 : Int) (a1 : Int) (r : Int) (w : World) (h : spec_Low.f a0 a1 = some r) :
    Calls Tryd.prog 9 #[.int .i64 a0, .int .u64 a1] w fun e w' => e = .returned (.int .u64 r) ∧ Drawn0 w w' := by
  have H : (if 0 ≤ (wrap64 (64 - a0)) then (some (shr .u64 (shl .u64 a1 (wrap64 (64 - a0))) (wrap64 (64 - a0)))) else (none)) = some r := h
  clear h
  obtain ⟨ji3, hji3⟩ : ∃ j_ : Int, (wrap64 (64 - a0)) = j_ := ⟨_, rfl⟩
  replace H : (if 0 ≤ (ji3) then (some (shr .u64 (shl .u64 a1 (ji3)) (ji3))) else (none)) = some r := by first | (rw [hji3] at H; exact H) | (simp only [hji3] at H ⊢; exact H)
  have hji3w : (IntKind.i64.wrap (64 - a0)) = ji3 := (i64_w _).trans hji3
  by_cases c4 : 0 ≤ (ji3)
  · rw [if_pos c4] at H
    have c4b0 := eq_true c4
    have c4b1 : decide (0 ≤ (ji3)) = true := decide_eq_true c4
    clear c4
    obtain ⟨ji5, hji5⟩ : ∃ j_ : Int, (shl .u64 a1 (ji3)) = j_ := ⟨_, rfl⟩
    replace H : (some (shr .u64 (ji5) (ji3))) = some r := by first | (rw [hji5] at H; exact H) | (simp only [hji5] at H ⊢; exact H)
    have hji5_ : (IntKind.u64.wrap (a1 * 2 ^ min (ji3).toNat 64)) = ji5 := hji5
    have hji5z : (ji3) ≤ 64 → (IntKind.u64.wrap (a1 * 2 ^ (ji3).toNat)) = ji5 := shl_small hji5
    have c6b0 := eq_true (of_decide_eq_true (by first | (with_reducible assumption) | assumption) : 0 ≤ (ji3))
    obtain ⟨ji7, hji7⟩ : ∃ j_ : Int, (shr .u64 (ji5) (ji3)) = j_ := ⟨_, rfl⟩
    replace H : (some ji7) = some r := by first | (rw [hji7] at H; exact H) | (simp only [hji7] at H ⊢; exact H)
    have hji7_ : ((ji5) / 2 ^ min (ji3).toNat 64) = ji7 := hji7
    have hji7z : (ji3) ≤ 64 → ((ji5) / 2 ^ (ji3).toNat) = ji7 := shr_small hji7
    obtain rfl := Option.some.inj H
    go_enter Tryd.func9, Tryd.ntmps9
    go_wp2
    go_ret
    exact ⟨by first | rfl | (simp; done) | (simp only [← hji3, ← hji5, ← hji7] <;> (first | rfl | simp)) | (simp [*]; done), by repeat (first | exact Drawn0.refl _ | apply Drawn0.step)⟩
  · rw [if_neg c4] at H
    exact absurd H (by simp)

-- NOT PRINTED: function 21 (mathutil_BitLenUint64)

-- NOT PRINTED: function 15 (mathutil_BitLen)

-- NOT PRINTED: function 16 (mathutil_BitLenUint)

-- NOT PRINTED: function 17 (mathutil_BitLenUintptr)

-- NOT PRINTED: function 18 (mathutil_BitLenByte)

-- NOT PRINTED: function 19 (mathutil_BitLenUint16)

-- NOT PRINTED: function 20 (mathutil_BitLenUint32)

-- NOT PRINTED: function 11 (impl_BitLen)

-- NOT PRINTED: function 22 (mathutil_Log2Byte)

-- NOT PRINTED: function 23 (mathutil_Log2Uint16)

-- NOT PRINTED: function 24 (mathutil_Log2Uint32)

-- NOT PRINTED: function 25 (mathutil_Log2Uint64)

-- NOT PRINTED: function 12 (impl_Log2)

-- NOT PRINTED: function 31 (mathutil_PopCountUint32)

-- NOT PRINTED: function 32 (mathutil_PopCountUint64)

-- NOT PRINTED: function 26 (mathutil_PopCount)

-- NOT PRINTED: function 27 (mathutil_PopCountUint)

-- NOT PRINTED: function 28 (mathutil_PopCountUintptr)

-- NOT PRINTED: function 29 (mathutil_PopCountByte)

-- NOT PRINTED: function 30 (mathutil_PopCountUint16)

-- NOT PRINTED: function 14 (impl_PopCount)

-- NOT PRINTED: function 10 (laws_counts)

/-! ### spec_Ones: function 13 -/
def spec_Ones.l0 : Nat → Int → Int → Option (Int)
  | 0, _, _ => none
  | k + 1, x0, x3 => if x0 > 0 then (spec_Ones.l0 k (IntKind.u64.wrap (Int.tdiv x0 2)) (wrap64 (x3 + (wrap64 (Int.tmod x0 2))))) else (some x3)
def spec_Ones.f (k : Nat) (a0 : Int) : Option (Int) := spec_Ones.l0 k a0 0
theorem spec_Ones.mono_l : ∀ k, (∀ y0 y1, LeO (spec_Ones.l0 k y0 y1) (spec_Ones.l0 (k + 1) y0 y1))
  | 0 => fun _ _ r h => by simp [spec_Ones.l0] at h
  | k + 1 => by
    have ih0 := spec_Ones.mono_l k
    · intro y0 y1
      unfold spec_Ones.l0
      repeat' first
      | (with_reducible exact ih0 _ _)
      | (with_reducible exact LeO.refl _)
      | (with_reducible exact LeO.none _)
      | (with_reducible refine LeO.ite ?_ ?_)
      | (with_reducible refine LeO.bind ?_ (fun _ => ?_))
      | exact ih0 _ _
      | exact LeO.none _
      | refine LeO.ite ?_ ?_
      | refine LeO.bind ?_ (fun _ => ?_)
theorem spec_Ones.mono : ∀ a0 k, LeO (spec_Ones.f k a0) (spec_Ones.f (k + 1) a0) := by
  intro a0 k
  have ih0 := spec_Ones.mono_l k
  unfold spec_Ones.f
  repeat' first
      | (with_reducible exact ih0 _ _)
      | (with_reducible exact LeO.refl _)
      | (with_reducible exact LeO.none _)
      | (with_reducible refine LeO.ite ?_ ?_)
      | (with_reducible refine LeO.bind ?_ (fun _ => ?_))
      | exact ih0 _ _
      | exact LeO.none _
      | refine LeO.ite ?_ ?_
      | refine LeO.bind ?_ (fun _ => ?_)
set_option maxHeartbeats 8000000 in
set_option maxRecDepth 100000 in
theorem spec_Ones.calls (k : Nat) (a0 : Int) (r : Int) (w : World) (h : spec_Ones.f k a0 = some r) :
    Calls Tryd.prog 13 #[.int .u64 a0] w fun e w' => e = .returned (.int .i64 r) ∧ Drawn0 w w' := by
  have H : (spec_Ones.l0 k a0 0) = some r := h
  clear h
  have H' := Aside0.mk H
  clear H
  go_enter Tryd.func13, Tryd.ntmps13
  go_wp2
  go_loopg [0, 3] k (fun kq v0 v3 w' => ∃ (x0_1 : Int) (x3_1 : Int), v0 = .int .u64 x0_1 ∧ v3 = .int .i64 x3_1 ∧ Aside0 (spec_Ones.l0 kq x0_1 x3_1 = some r) ∧ Aside0 (kq ≤ k) ∧ Drawn0 w w')
  case atStart => exact ⟨(a0), (0), (by first | rfl | (simp; done) | (simp [*]; done)), (by first | rfl | (simp; done) | (simp [*]; done)), H', ⟨Nat.le_refl _⟩, by repeat (first | exact Drawn0.refl _ | apply Drawn0.step)⟩
  case round =>
    clear H'
    try clear c1
    obtain ⟨x0_1, x3_1, rfl, rfl, HA, HK1, ⟨m1, rfl⟩⟩ := hrel
    cases gk with
    | zero => exact absurd HA.out (by simp [spec_Ones.l0])
    | succ k1 =>
      have H := HA.out
      clear HA
      simp only [spec_Ones.l0] at H
      by_cases c2 : x0_1 > 0
      · rw [if_pos c2] at H
        have c2b0 : decide (0 < x0_1) = true := decide_eq_true c2
        clear c2
        have H' := Aside0.mk H
        clear H
        go_wp2
        go_roundg k1
        case measure => have := HK1.out; omega
        case rel => exact ⟨(IntKind.u64.wrap (Int.tdiv x0_1 2)), (wrap64 (x3_1 + (wrap64 (Int.tmod x0_1 2)))), (by first | rfl | (simp; done) | (simp [*]; done)), (by first | rfl | (simp; done) | (simp [*]; done)), H', ⟨by have := HK1.out; omega⟩, by repeat (first | exact Drawn0.refl _ | apply Drawn0.step)⟩
      · rw [if_neg c2] at H
        have c2b0 : decide (0 < x0_1) = false := decide_eq_false c2
        clear c2
        obtain rfl := Option.some.inj H
        go_wp2
        go_ret
        exact ⟨by first | rfl | (simp; done) | (simp [*]; done), by repeat (first | exact Drawn0.refl _ | apply Drawn0.step)⟩

-- NOT PRINTED: function 5 (laws_FnPopCount)

end Go.Proofs.YtfoifemajoebpaaDoor.PFnPopCount
