/- The reference's counts, each with the plain number that it comes to. -/
import Derived.Test.YtfoifemajoebpaaDoorOFnBitLenx1
import Derived.Test.YtfoifemajoebpaaDoorOFnPopCountx1
import Derived.Test.YtfoifemajoebpaaDoorImpl
namespace Go.Proofs.YtfoifemajoebpaaDoor.SpecT
open Go Go.RowKit Go.Proofs.YtfoifemajoebpaaDoor.Tab Go.Proofs.YtfoifemajoebpaaDoor.BlN Go.Proofs.YtfoifemajoebpaaDoorW.PrintWords
set_option linter.unusedVariables false

theorem w64in (n : Int) (h : -9223372036854775808 ≤ n ∧ n ≤ 9223372036854775807) : wrap64 n = n := by unfold wrap64; omega
theorem half (n : Nat) (h : n < 18446744073709551616) : IntKind.u64.wrap (Int.tdiv (n : Int) 2) = ((n / 2 : Nat) : Int) := by
  rw [IntKind.wrap_u64, show Int.tdiv (n : Int) 2 = ((n / 2 : Nat) : Int) from rfl]; omega

theorem length_l : ∀ (k n : Nat) (acc : Int), n < 2 ^ k → n < 18446744073709551616 → 0 ≤ acc → acc + k ≤ 64 → PFnBitLen.spec_Length.l0 (k + 1) (n : Int) acc = some (acc + (blen n : Int)) := by
  intro k
  induction k with
  | zero =>
    intro n acc h hn h0 h1
    obtain rfl : n = 0 := by simp at h; exact h
    simp [PFnBitLen.spec_Length.l0, blen_zero]
  | succ k ih =>
    intro n acc h hn h0 h1
    rw [PFnBitLen.spec_Length.l0]
    by_cases hz : n = 0
    · subst hz; simp [blen_zero]
    · rw [if_pos (by omega), half n hn, w64in _ (by omega), ih (n / 2) (acc + 1) (by rw [Nat.pow_succ] at h; omega) (by omega) (by omega) (by omega), blen_two n (by omega)]
      congr 1; omega
theorem ones_l : ∀ (k n : Nat) (acc : Int), n < 2 ^ k → n < 18446744073709551616 → 0 ≤ acc → acc + k ≤ 64 → PFnPopCount.spec_Ones.l0 (k + 1) (n : Int) acc = some (acc + (onesN k n : Int)) := by
  intro k
  induction k with
  | zero =>
    intro n acc h hn h0 h1
    obtain rfl : n = 0 := by simp at h; exact h
    simp [PFnPopCount.spec_Ones.l0, onesN]
  | succ k ih =>
    intro n acc h hn h0 h1
    rw [PFnPopCount.spec_Ones.l0]
    by_cases hz : n = 0
    · subst hz; simp [ones_zero]
    · rw [if_pos (by omega), half n hn, show Int.tmod (n : Int) 2 = ((n % 2 : Nat) : Int) from rfl, w64in ((n % 2 : Nat) : Int) (by omega), w64in _ (by omega), ih (n / 2) _ (by rw [Nat.pow_succ] at h; omega) (by omega) (by omega) (by omega), onesN]
      congr 1; omega
theorem low_8 (n : Int) (h0 : 0 ≤ n) (h1 : n < 18446744073709551616) : PFnBitLen.spec_Low.f 8 n = some (n % 256) := by
  show (if 0 ≤ wrap64 (64 - 8) then some (IntKind.u64.wrap (n * 2 ^ min (wrap64 (64 - 8)).toNat 64) / 2 ^ min (wrap64 (64 - 8)).toNat 64) else none) = _
  rw [show wrap64 (64 - 8) = 56 by unfold wrap64; omega, IntKind.wrap_u64]
  simp; omega
theorem low_16 (n : Int) (h0 : 0 ≤ n) (h1 : n < 18446744073709551616) : PFnBitLen.spec_Low.f 16 n = some (n % 65536) := by
  show (if 0 ≤ wrap64 (64 - 16) then some (IntKind.u64.wrap (n * 2 ^ min (wrap64 (64 - 16)).toNat 64) / 2 ^ min (wrap64 (64 - 16)).toNat 64) else none) = _
  rw [show wrap64 (64 - 16) = 48 by unfold wrap64; omega, IntKind.wrap_u64]
  simp; omega
theorem low_32 (n : Int) (h0 : 0 ≤ n) (h1 : n < 18446744073709551616) : PFnBitLen.spec_Low.f 32 n = some (n % 4294967296) := by
  show (if 0 ≤ wrap64 (64 - 32) then some (IntKind.u64.wrap (n * 2 ^ min (wrap64 (64 - 32)).toNat 64) / 2 ^ min (wrap64 (64 - 32)).toNat 64) else none) = _
  rw [show wrap64 (64 - 32) = 32 by unfold wrap64; omega, IntKind.wrap_u64]
  simp; omega
theorem low_64 (n : Int) (h0 : 0 ≤ n) (h1 : n < 18446744073709551616) : PFnBitLen.spec_Low.f 64 n = some n := by
  show (if 0 ≤ wrap64 (64 - 64) then some (IntKind.u64.wrap (n * 2 ^ min (wrap64 (64 - 64)).toNat 64) / 2 ^ min (wrap64 (64 - 64)).toNat 64) else none) = _
  rw [show wrap64 (64 - 64) = 0 by unfold wrap64; omega, IntKind.wrap_u64]
  simp; omega

theorem sLength (n : Int) (h0 : 0 ≤ n) (h1 : n < 18446744073709551616) (w : World) : Calls Tryd.prog 7 #[.int .u64 n] w fun e w' => e = .returned (.int .i64 (blen n.toNat : Int)) ∧ ∃ m, w' = w.drewN m := by
  have h := length_l 64 n.toNat 0 (by omega) (by omega) (by omega) (by omega)
  rw [show ((n.toNat : Nat) : Int) = n by omega, Int.zero_add] at h
  exact (PFnBitLen.spec_Length.calls 65 n _ w h).mono fun _ _ ⟨h, d⟩ => ⟨h, d.out⟩
theorem sOnes (n : Int) (h0 : 0 ≤ n) (h1 : n < 18446744073709551616) (w : World) : Calls Tryd.prog 13 #[.int .u64 n] w fun e w' => e = .returned (.int .i64 (onesN 64 n.toNat : Int)) ∧ ∃ m, w' = w.drewN m := by
  have h := ones_l 64 n.toNat 0 (by omega) (by omega) (by omega) (by omega)
  rw [show ((n.toNat : Nat) : Int) = n by omega, Int.zero_add] at h
  exact (PFnPopCount.spec_Ones.calls 65 n _ w h).mono fun _ _ ⟨h, d⟩ => ⟨h, d.out⟩
theorem sLow (wd n r : Int) (h : PFnBitLen.spec_Low.f wd n = some r) (w : World) : Calls Tryd.prog 9 #[.int .i64 wd, .int .u64 n] w fun e w' => e = .returned (.int .u64 r) ∧ ∃ m, w' = w.drewN m :=
  (PFnBitLen.spec_Low.calls wd n r w h).mono fun _ _ ⟨h, d⟩ => ⟨h, d.out⟩
theorem sWidth (wd : Int) (h : wd = 8 ∨ wd = 16 ∨ wd = 32 ∨ wd = 64) (w : World) : Calls Tryd.prog 8 #[.int .i64 wd] w fun e w' => e = .returned (.bool true) ∧ ∃ m, w' = w.drewN m :=
  (PFnBitLen.spec_IsWidth.calls wd true w (by rcases h with rfl | rfl | rfl | rfl <;> rfl)).mono fun _ _ ⟨h, d⟩ => ⟨h, d.out⟩
theorem sNot (wd : Int) (h : ¬ (wd = 8 ∨ wd = 16 ∨ wd = 32 ∨ wd = 64)) (w : World) : Calls Tryd.prog 8 #[.int .i64 wd] w fun e w' => e = .returned (.bool false) ∧ ∃ m, w' = w.drewN m :=
  (PFnBitLen.spec_IsWidth.calls wd false w (by unfold PFnBitLen.spec_IsWidth.f; rw [if_neg (by omega), if_neg (by omega), if_neg (by omega)]; simp; omega)).mono fun _ _ ⟨h, d⟩ => ⟨h, d.out⟩
end Go.Proofs.YtfoifemajoebpaaDoor.SpecT
