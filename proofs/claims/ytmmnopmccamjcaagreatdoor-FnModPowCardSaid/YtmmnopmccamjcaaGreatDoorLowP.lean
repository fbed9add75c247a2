/- The width test and the lowest bits (printed), and what they compute. -/
import Derived.Test.YtmmnopmccamjcaaGreatDoorOMp
import Derived.Test.YtmmnopmccamjcaaGreatDoorCom
namespace Go.Proofs.YtmmnopmccamjcaaGreatDoor.PLow
open Go Go.RowKit Go.Proofs.YtmmnopmccamjcaaGreatDoorW.PrintWords Go.Proofs.YtmmnopmccamjcaaGreatDoorW.PrintLast Go.Proofs.YtmmnopmccamjcaaGreatDoorW.PrintMore
attribute [local go_sem] max2_int min2_int max_two min_two max_three min_three max_four min_four   -- for this text's walks alone
set_option linter.unusedVariables false
set_option linter.unusedSimpArgs false

/-! ### spec_IsWidth: function 4 -/
def spec_IsWidth.f (a0 : Int) : Option (Bool) := if a0 = 8 then (some true) else (if a0 = 16 then (some true) else (if a0 = 32 then (some true) else (some (a0 == 64))))
set_option maxHeartbeats 8000000 in
set_option maxRecDepth 100000 in
theorem spec_IsWidth.calls (a0 : Int) (r : Bool) (w : World) (h : spec_IsWidth.f a0 = some r) :
    Calls Tryz.prog 4 #[.int .i64 a0] w fun e w' => e = .returned (.bool r) ∧ Drawn0 w w' := by
  have H : (if a0 = 8 then (some true) else (if a0 = 16 then (some true) else (if a0 = 32 then (some true) else (some (a0 == 64))))) = some r := h
  clear h
  by_cases c2 : a0 = 8
  · rw [if_pos c2] at H
    have c2b0 : (a0 == 8) = true := beq_iff_eq.mpr c2
    have c2b1 : (a0 != 8) = false := bne_eq_false_iff_eq.mpr c2
    clear c2
    obtain rfl := Option.some.inj H
    go_enter Tryz.func4, Tryz.ntmps4
    go_wp2
    go_ret
    exact ⟨by first | rfl | (simp; done) | (simp [*]; done), by repeat (first | exact Drawn0.refl _ | apply Drawn0.step)⟩
  · rw [if_neg c2] at H
    have c2b0 : (a0 == 8) = false := beq_eq_false_iff_ne.mpr c2
    have c2b1 : (a0 != 8) = true := bne_iff_ne.mpr c2
    by_cases c3 : a0 = 16
    · rw [if_pos c3] at H
      have c3b0 : (a0 == 16) = true := beq_iff_eq.mpr c3
      have c3b1 : (a0 != 16) = false := bne_eq_false_iff_eq.mpr c3
      clear c3
      obtain rfl := Option.some.inj H
      go_enter Tryz.func4, Tryz.ntmps4
      go_wp2
      go_ret
      exact ⟨by first | rfl | (simp; done) | (simp [*]; done), by repeat (first | exact Drawn0.refl _ | apply Drawn0.step)⟩
    · rw [if_neg c3] at H
      have c3b0 : (a0 == 16) = false := beq_eq_false_iff_ne.mpr c3
      have c3b1 : (a0 != 16) = true := bne_iff_ne.mpr c3
      by_cases c4 : a0 = 32
      · rw [if_pos c4] at H
        have c4b0 : (a0 == 32) = true := beq_iff_eq.mpr c4
        have c4b1 : (a0 != 32) = false := bne_eq_false_iff_eq.mpr c4
        clear c4
        obtain rfl := Option.some.inj H
        go_enter Tryz.func4, Tryz.ntmps4
        go_wp2
        go_ret
        exact ⟨by first | rfl | (simp; done) | (simp [*]; done), by repeat (first | exact Drawn0.refl _ | apply Drawn0.step)⟩
      · rw [if_neg c4] at H
        have c4b0 : (a0 == 32) = false := beq_eq_false_iff_ne.mpr c4
        have c4b1 : (a0 != 32) = true := bne_iff_ne.mpr c4
        obtain rfl := Option.some.inj H
        go_enter Tryz.func4, Tryz.ntmps4
        go_wp2
        go_ret
        exact ⟨by first | rfl | (simp; done) | (simp [*]; done), by repeat (first | exact Drawn0.refl _ | apply Drawn0.step)⟩

/-! ### spec_Low: function 6 -/
def spec_Low.f (a0 : Int) (a1 : Int) : Option (Int) := if 0 ≤ (wrap64 (64 - a0)) then (some (shr .u64 (shl .u64 a1 (wrap64 (64 - a0))) (wrap64 (64 - a0)))) else (none)
set_option maxHeartbeats 8000000 in
set_option maxRecDepth 100000 in
theorem spec_Low.calls (a0 : Int) (a1 : Int) (r : Int) (w : World) (h : spec_Low.f a0 a1 = some r) :
    Calls Tryz.prog 6 #[.int .i64 a0, .int .u64 a1] w fun e w' => e = .returned (.int .u64 r) ∧ Drawn0 w w' := by
  have H : (if 0 ≤ (wrap64 (64 - a0)) then (some (shr .u64 (shl .u64 a1 (wrap64 (64 - a0))) (wrap64 (64 - a0)))) else (none)) = some r := h
  clear h
  obtain ⟨ji3, hji3⟩ : ∃ j_ : Int, (wrap64 (64 - a0)) = j_ := ⟨_, rfl⟩
  replace H : (if 0 ≤ (ji3) then (some (shr .u64 (shl .u64 a1 (ji3)) (ji3))) else (none)) = some r := by first | (rw [hji3] at H; exact H) | (simp only [hji3] at H ⊢; exact H)
  have hji3w : (IntKind.i64.wrap (64 - a0)) = ji3 := (i64_w _).trans hji3
  by_cases c4 : 0 ≤ (ji3)
  · rw [if_pos c4] at H
    have c4b0 := eq_true c4
    have c4b1 : decide (0 ≤ (ji3)) = true := decide_eq_true c4
    clear c4
    obtain ⟨ji5, hji5⟩ : ∃ j_ : Int, (shl .u64 a1 (ji3)) = j_ := ⟨_, rfl⟩
    replace H : (some (shr .u64 (ji5) (ji3))) = some r := by first | (rw [hji5] at H; exact H) | (simp only [hji5] at H ⊢; exact H)
    have hji5_ : (IntKind.u64.wrap (a1 * 2 ^ min (ji3).toNat 64)) = ji5 := hji5
    have hji5z : (ji3) ≤ 64 → (IntKind.u64.wrap (a1 * 2 ^ (ji3).toNat)) = ji5 := shl_small hji5
    have c6b0 := eq_true (of_decide_eq_true (by first | (with_reducible assumption) | assumption) : 0 ≤ (ji3))
    obtain ⟨ji7, hji7⟩ : ∃ j_ : Int, (shr .u64 (ji5) (ji3)) = j_ := ⟨_, rfl⟩
    replace H : (some ji7) = some r := by first | (rw [hji7] at H; exact H) | (simp only [hji7] at H ⊢; exact H)
    have hji7_ : ((ji5) / 2 ^ min (ji3).toNat 64) = ji7 := hji7
    have hji7z : (ji3) ≤ 64 → ((ji5) / 2 ^ (ji3).toNat) = ji7 := shr_small hji7
    obtain rfl := Option.some.inj H
    go_enter Tryz.func6, Tryz.ntmps6
    go_wp2
    go_ret
    exact ⟨by first | rfl | (simp; done) | (simp only [← hji3, ← hji5, ← hji7] <;> (first | rfl | simp)) | (simp [*]; done), by repeat (first | exact Drawn0.refl _ | apply Drawn0.step)⟩
  · rw [if_neg c4] at H
    exact absurd H (by simp)

theorem width (j : Int) (h : j = 8 ∨ j = 16 ∨ j = 32 ∨ j = 64) : spec_IsWidth.f j = some true := by
  rcases h with rfl | rfl | rfl | rfl <;> rfl
theorem no_width (j : Int) (h : ¬ (j = 8 ∨ j = 16 ∨ j = 32 ∨ j = 64)) : spec_IsWidth.f j = some false := by
  unfold spec_IsWidth.f
  rw [if_neg (by omega), if_neg (by omega), if_neg (by omega), beq_eq_false_iff_ne.mpr (by omega)]
theorem low8 (b : Nat) : spec_Low.f 8 (b : Int) = some ((b % 256 : Nat) : Int) := by
  have e1 : wrap64 (64 - 8) = 56 := by rw [Go.Com.w64]; omega
  have e2 : min ((56 : Int)).toNat IntKind.u64.bits = 56 := by decide
  unfold spec_Low.f
  rw [e1, if_pos (by decide)]
  unfold shl shr
  rw [e2, IntKind.wrap_u64]; congr 1; omega
theorem low16 (b : Nat) : spec_Low.f 16 (b : Int) = some ((b % 65536 : Nat) : Int) := by
  have e1 : wrap64 (64 - 16) = 48 := by rw [Go.Com.w64]; omega
  have e2 : min ((48 : Int)).toNat IntKind.u64.bits = 48 := by decide
  unfold spec_Low.f
  rw [e1, if_pos (by decide)]
  unfold shl shr
  rw [e2, IntKind.wrap_u64]; congr 1; omega
theorem low32 (b : Nat) : spec_Low.f 32 (b : Int) = some ((b % 4294967296 : Nat) : Int) := by
  have e1 : wrap64 (64 - 32) = 32 := by rw [Go.Com.w64]; omega
  have e2 : min ((32 : Int)).toNat IntKind.u64.bits = 32 := by decide
  unfold spec_Low.f
  rw [e1, if_pos (by decide)]
  unfold shl shr
  rw [e2, IntKind.wrap_u64]; congr 1; omega
theorem low64 (b : Nat) (h : b < 18446744073709551616) : spec_Low.f 64 (b : Int) = some (b : Int) := by
  have e1 : wrap64 (64 - 64) = 0 := by rw [Go.Com.w64]; omega
  have e2 : min ((0 : Int)).toNat IntKind.u64.bits = 0 := by decide
  unfold spec_Low.f
  rw [e1, if_pos (by decide)]
  unfold shl shr
  rw [e2, IntKind.wrap_u64]; congr 1; omega
end Go.Proofs.YtmmnopmccamjcaaGreatDoor.PLow
