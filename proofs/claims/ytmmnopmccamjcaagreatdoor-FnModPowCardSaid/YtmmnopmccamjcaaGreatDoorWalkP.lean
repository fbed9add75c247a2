/- The thin package's power, by all widths, and the small power that the laws ask. -/
import Derived.Test.YtmmnopmccamjcaaGreatDoorMemQ
import Derived.Test.YtmmnopmccamjcaaGreatDoorMpN
namespace Go.Proofs.YtmmnopmccamjcaaGreatDoor.WalkP
open Go Go.Proofs Go.RowKit Go.Proofs.YtmmnopmccamjcaaGreatDoor.PMp Go.Proofs.YtmmnopmccamjcaaGreatDoorW.PrintWords Go.Proofs.YtmmnopmccamjcaaGreatDoorW.PrintMore Go.Proofs.YtmmnopmccamjcaaGreatDoor.MemQ
set_option linter.unusedVariables false
set_option linter.unusedSimpArgs false
theorem below_trans {a b c : World} (h : Below a.heap.size a b) (k : Below b.heap.size b c) : Below a.heap.size a c :=
  ⟨k.os.trans h.os, k.tape.trans h.tape, k.output.trans h.output, Nat.le_trans h.size k.size, fun i hi => (k.block i (Nat.lt_of_lt_of_le hi h.size)).trans (h.block i hi)⟩
theorem below_drewN (w : World) (m : Nat) : Below w.heap.size w (w.drewN m) := ⟨rfl, rfl, rfl, Nat.le_refl _, fun _ _ => rfl⟩
theorem mask {B j : Nat} (hB : 2 ^ j = B) (hj : j ≤ 64) (b : Nat) (hb : b < B) : Go.bits .and .u64 (b : Int) (((B - 1 : Nat)) : Int) = (b : Int) := by
  subst hB
  have h2 : (2 : Nat) ^ j ≤ 2 ^ 64 := Nat.pow_le_pow_right (by decide) hj
  have h0 : 0 < (2 : Nat) ^ j := Nat.pow_pos (by decide)
  have h := (bits_nat .u64 64 (by decide) Go.Com.wraps_u64 b (2 ^ j - 1) (by omega) (by omega)).1
  rw [h, Nat.and_two_pow_sub_one_eq_mod, Nat.mod_eq_of_lt hb]

set_option maxHeartbeats 4000000 in
set_option maxRecDepth 100000 in
theorem impl8 {b e m : Nat} (hb : b < 256) (he : e < 256) (hm : 1 ≤ m ∧ m < 256) (hbe : ¬ (b = 0 ∧ e = 0)) (w : World) :
    Calls Tryz.prog 7 #[.int .i64 8, .int .u64 b, .int .u64 e, .int .u64 m] w fun ee w' => ee = .returned (.tuple #[.int .u64 ((b ^ e % m : Nat) : Int), .bool true]) ∧ Below w.heap.size w w' := by
  have hc := fun w => (mathutil_ModPowByte.calls 50 b e m _ w (MpN.ModPowByte_is b e m hbe hb hm.1 hm.2 he 50 (by omega)))
  have kb : Go.bits .and .u64 (b : Int) 255 = (b : Int) := mask (B := 256) (j := 8) (by decide) (by decide) b hb
  have ke : Go.bits .and .u64 (e : Int) 255 = (e : Int) := mask (B := 256) (j := 8) (by decide) (by decide) e he
  have km : Go.bits .and .u64 (m : Int) 255 = (m : Int) := mask (B := 256) (j := 8) (by decide) (by decide) m hm.2
  have ks : (18446744073709551615 : Int) / 2 ^ 56 = 255 := by decide
  have wb : (b : Int) % 256 = b := by omega
  have we : (e : Int) % 256 = e := by omega
  have wm : (m : Int) % 256 = m := by omega
  have hm0 : ((m : Int) == 0) = false := beq_eq_false_iff_ne.mpr (by omega)
  have hol : b ^ e % m < 18446744073709551616 := by have := Nat.mod_lt (b ^ e) (show 0 < m by omega); omega
  generalize b ^ e % m = out at *
  have wo : IntKind.u64.wrap (out : Int) = out := by rw [IntKind.wrap_u64]; omega
  have hguard : (((b : Int) == 0) = false) ∨ (((b : Int) == 0) = true ∧ ((e : Int) == 0) = false) := by
    by_cases h0 : b = 0
    · exact .inr ⟨beq_iff_eq.mpr (by omega), beq_eq_false_iff_ne.mpr (by omega)⟩
    · exact .inl (beq_eq_false_iff_ne.mpr (by omega))
  have HC := Aside0.mk hc
  clear hc hb he hm hbe hol
  rcases hguard with hb | ⟨hb0, hb⟩
  all_goals go_enter Tryz.func7, Tryz.ntmps7
  all_goals go_wp2_with (go_at_call 9; refine (HC.out _).mono ?_; rintro ee w1 ⟨rfl, hB⟩; have KB := Aside0.mk hB; clear hB)
  all_goals go_ret2
  all_goals exact ⟨by first | rfl | rw [wo] | simp [wo], KB.out.below⟩

set_option maxHeartbeats 4000000 in
set_option maxRecDepth 100000 in
theorem impl16 {b e m : Nat} (hb : b < 65536) (he : e < 65536) (hm : 1 ≤ m ∧ m < 65536) (hbe : ¬ (b = 0 ∧ e = 0)) (w : World) :
    Calls Tryz.prog 7 #[.int .i64 16, .int .u64 b, .int .u64 e, .int .u64 m] w fun ee w' => ee = .returned (.tuple #[.int .u64 ((b ^ e % m : Nat) : Int), .bool true]) ∧ Below w.heap.size w w' := by
  have hc := fun w => (mathutil_ModPowUint16.calls 50 b e m _ w (MpN.ModPowUint16_is b e m hbe hb hm.1 hm.2 he 50 (by omega)))
  have kb : Go.bits .and .u64 (b : Int) 65535 = (b : Int) := mask (B := 65536) (j := 16) (by decide) (by decide) b hb
  have ke : Go.bits .and .u64 (e : Int) 65535 = (e : Int) := mask (B := 65536) (j := 16) (by decide) (by decide) e he
  have km : Go.bits .and .u64 (m : Int) 65535 = (m : Int) := mask (B := 65536) (j := 16) (by decide) (by decide) m hm.2
  have ks : (18446744073709551615 : Int) / 2 ^ 48 = 65535 := by decide
  have wb : IntKind.u16.wrap (b : Int) = b := by rw [IntKind.wrap_u16]; omega
  have we : IntKind.u16.wrap (e : Int) = e := by rw [IntKind.wrap_u16]; omega
  have wm : IntKind.u16.wrap (m : Int) = m := by rw [IntKind.wrap_u16]; omega
  have hm0 : ((m : Int) == 0) = false := beq_eq_false_iff_ne.mpr (by omega)
  have hol : b ^ e % m < 18446744073709551616 := by have := Nat.mod_lt (b ^ e) (show 0 < m by omega); omega
  generalize b ^ e % m = out at *
  have wo : IntKind.u64.wrap (out : Int) = out := by rw [IntKind.wrap_u64]; omega
  have hguard : (((b : Int) == 0) = false) ∨ (((b : Int) == 0) = true ∧ ((e : Int) == 0) = false) := by
    by_cases h0 : b = 0
    · exact .inr ⟨beq_iff_eq.mpr (by omega), beq_eq_false_iff_ne.mpr (by omega)⟩
    · exact .inl (beq_eq_false_iff_ne.mpr (by omega))
  have HC := Aside0.mk hc
  clear hc hb he hm hbe hol
  rcases hguard with hb | ⟨hb0, hb⟩
  all_goals go_enter Tryz.func7, Tryz.ntmps7
  all_goals go_wp2_with (go_at_call 10; refine (HC.out _).mono ?_; rintro ee w1 ⟨rfl, hB⟩; have KB := Aside0.mk hB; clear hB)
  all_goals go_ret2
  all_goals exact ⟨by first | rfl | rw [wo] | simp [wo], KB.out.below⟩

set_option maxHeartbeats 4000000 in
set_option maxRecDepth 100000 in
theorem impl32 {b e m : Nat} (hb : b < 4294967296) (he : e < 4294967296) (hm : 1 ≤ m ∧ m < 4294967296) (hbe : ¬ (b = 0 ∧ e = 0)) (w : World) :
    Calls Tryz.prog 7 #[.int .i64 32, .int .u64 b, .int .u64 e, .int .u64 m] w fun ee w' => ee = .returned (.tuple #[.int .u64 ((b ^ e % m : Nat) : Int), .bool true]) ∧ Below w.heap.size w w' := by
  have hc := fun w => (mathutil_ModPowUint32.calls 50 b e m _ w (MpN.ModPowUint32_is b e m hbe hb hm.1 hm.2 he 50 (by omega)))
  have kb : Go.bits .and .u64 (b : Int) 4294967295 = (b : Int) := mask (B := 4294967296) (j := 32) (by decide) (by decide) b hb
  have ke : Go.bits .and .u64 (e : Int) 4294967295 = (e : Int) := mask (B := 4294967296) (j := 32) (by decide) (by decide) e he
  have km : Go.bits .and .u64 (m : Int) 4294967295 = (m : Int) := mask (B := 4294967296) (j := 32) (by decide) (by decide) m hm.2
  have ks : (18446744073709551615 : Int) / 2 ^ 32 = 4294967295 := by decide
  have wb : (b : Int) % 4294967296 = b := by omega
  have we : (e : Int) % 4294967296 = e := by omega
  have wm : (m : Int) % 4294967296 = m := by omega
  have hm0 : ((m : Int) == 0) = false := beq_eq_false_iff_ne.mpr (by omega)
  have hol : b ^ e % m < 18446744073709551616 := by have := Nat.mod_lt (b ^ e) (show 0 < m by omega); omega
  generalize b ^ e % m = out at *
  have wo : IntKind.u64.wrap (out : Int) = out := by rw [IntKind.wrap_u64]; omega
  have hguard : (((b : Int) == 0) = false) ∨ (((b : Int) == 0) = true ∧ ((e : Int) == 0) = false) := by
    by_cases h0 : b = 0
    · exact .inr ⟨beq_iff_eq.mpr (by omega), beq_eq_false_iff_ne.mpr (by omega)⟩
    · exact .inl (beq_eq_false_iff_ne.mpr (by omega))
  have HC := Aside0.mk hc
  clear hc hb he hm hbe hol
  rcases hguard with hb | ⟨hb0, hb⟩
  all_goals go_enter Tryz.func7, Tryz.ntmps7
  all_goals go_wp2_with (go_at_call 11; refine (HC.out _).mono ?_; rintro ee w1 ⟨rfl, hB⟩; have KB := Aside0.mk hB; clear hB)
  all_goals go_ret2
  all_goals exact ⟨by first | rfl | rw [wo] | simp [wo], KB.out.below⟩

set_option maxHeartbeats 4000000 in
set_option maxRecDepth 100000 in
theorem impl64 {b e m : Nat} (hb : b < 18446744073709551616) (he : e < 18446744073709551616) (hm : 1 ≤ m ∧ m < 18446744073709551616) (hbe : ¬ (b = 0 ∧ e = 0)) (w : World) :
    Calls Tryz.prog 7 #[.int .i64 64, .int .u64 b, .int .u64 e, .int .u64 m] w fun ee w' => ee = .returned (.tuple #[.int .u64 ((b ^ e % m : Nat) : Int), .bool true]) ∧ Below w.heap.size w w' := by
  have hc := fun w => modPow64 hb he hm hbe w
  have kb : Go.bits .and .u64 (b : Int) 18446744073709551615 = (b : Int) := mask (B := 18446744073709551616) (j := 64) (by decide) (by decide) b hb
  have ke : Go.bits .and .u64 (e : Int) 18446744073709551615 = (e : Int) := mask (B := 18446744073709551616) (j := 64) (by decide) (by decide) e he
  have km : Go.bits .and .u64 (m : Int) 18446744073709551615 = (m : Int) := mask (B := 18446744073709551616) (j := 64) (by decide) (by decide) m hm.2
  have ks : (18446744073709551615 : Int) / 2 ^ 0 = 18446744073709551615 := by decide
  have wb : (b : Int) = b := rfl
  have we : (e : Int) = e := rfl
  have wm : (m : Int) = m := rfl
  have hm0 : ((m : Int) == 0) = false := beq_eq_false_iff_ne.mpr (by omega)
  have hol : b ^ e % m < 18446744073709551616 := by have := Nat.mod_lt (b ^ e) (show 0 < m by omega); omega
  generalize b ^ e % m = out at *
  have wo : IntKind.u64.wrap (out : Int) = out := by rw [IntKind.wrap_u64]; omega
  have hguard : (((b : Int) == 0) = false) ∨ (((b : Int) == 0) = true ∧ ((e : Int) == 0) = false) := by
    by_cases h0 : b = 0
    · exact .inr ⟨beq_iff_eq.mpr (by omega), beq_eq_false_iff_ne.mpr (by omega)⟩
    · exact .inl (beq_eq_false_iff_ne.mpr (by omega))
  have HC := Aside0.mk hc
  clear hc hb he hm hbe hol
  rcases hguard with hb | ⟨hb0, hb⟩
  all_goals go_enter Tryz.func7, Tryz.ntmps7
  all_goals go_wp2_with (go_at_call 12; refine (HC.out _).mono ?_; rintro ee w1 ⟨rfl, hB⟩; have KB := Aside0.mk hB; clear hB)
  all_goals go_ret2
  all_goals exact ⟨by first | rfl | rw [wo] | simp [wo], KB.out⟩

set_option maxHeartbeats 4000000 in
theorem powers (w : World) : Calls Tryz.prog 5 #[] w fun e w' => e = .returned (.bool true) ∧ Below w.heap.size w w' := by
  have h := fun w => impl8 (b := 3) (e := 4) (m := 7) (by decide) (by decide) (by decide) (by decide) w
  go_enter Tryz.func5, Tryz.ntmps5
  go_wp2_with (go_at_call 7; refine (h _).mono ?_; rintro e w1 ⟨rfl, hB⟩; have KB := Aside0.mk hB; clear hB)
  go_ret
  exact ⟨rfl, KB.out⟩
end Go.Proofs.YtmmnopmccamjcaaGreatDoor.WalkP
