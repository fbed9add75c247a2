/- Proved: the package restricts numbers of 8, 16, 32 or 64 bits with a sign, and ints, between two others, the first one not greater than the second one. Conditions: an int as the width and three numbers of 64 bits with a sign; no others. -/
import Derived.Test.YtfoifemajoebpaaPFnClampx1
import Derived.Test.YtfoifemajoebpaaCom
namespace Go.Proofs.Ytfoifemajoebpaa.Pure
open Go Go.RowKit Go.Proofs.Ytfoifemajoebpaa.PFnClamp Go.Proofs.YtfoifemajoebpaaW.PrintWords Go.Proofs.YtfoifemajoebpaaW.PrintLast Go.Com

theorem i8_in {x : Int} (h : -128 ≤ x ∧ x < 128) : IntKind.i8.wrap x = x := IntWalk.i8_in x (by omega)
theorem i16_in {x : Int} (h : -32768 ≤ x ∧ x < 32768) : IntKind.i16.wrap x = x := IntWalk.i16_in x (by omega)
theorem i32_in {x : Int} (h : -2147483648 ≤ x ∧ x < 2147483648) : wrap32 x = x := IntWalk.wrap32_in x (by omega)
theorem i64_in {x : Int} (h : -9223372036854775808 ≤ x ∧ x < 9223372036854775808) : wrap64 x = x := IntWalk.wrap64_in x (by omega)

theorem mid_bd {v lo hi a b : Int} (hv : a ≤ v ∧ v < b) (hl : a ≤ lo ∧ lo < b) (hh : a ≤ hi ∧ hi < b) : a ≤ mn (mx v lo) hi ∧ mn (mx v lo) hi < b := by
  unfold mn mx; split <;> split <;> omega

theorem core (v lo hi : Int) : ((if v > lo then some v else some lo).bind fun t => ((if t < hi then some t else some hi).bind fun u => some u)) = some (mn (mx v lo) hi) := by
  unfold mn mx
  have e : (if v > lo then some v else some lo) = some (if v < lo then lo else v) := by
    by_cases h : v > lo
    · rw [if_pos h, if_neg (by omega)]
    · rw [if_neg h]; congr 1; split <;> omega
  rw [e, Option.bind_some]
  generalize (if v < lo then lo else v) = x
  by_cases h : x < hi
  · rw [if_pos h, if_neg (by omega), Option.bind_some]
  · rw [if_neg h, Option.bind_some]; congr 1; split <;> omega

theorem impl8 {v lo hi : Int} (hv : -128 ≤ v ∧ v < 128) (hl : -128 ≤ lo ∧ lo < 128) (hh : -128 ≤ hi ∧ hi < 128) : impl_Clamp.f 8 v lo hi = some (mn (mx v lo) hi) := by
  have := mid_bd hv hl hh
  simp only [impl_Clamp.f, i8_in hv, i8_in hl, i8_in hh]
  rw [if_neg (by decide), if_pos trivial]
  rw [show mathutil_ClampInt8.f v lo hi = some (mn (mx v lo) hi) from core v lo hi, Option.bind_some, i64_in (by omega)]
theorem impl16 {v lo hi : Int} (hv : -32768 ≤ v ∧ v < 32768) (hl : -32768 ≤ lo ∧ lo < 32768) (hh : -32768 ≤ hi ∧ hi < 32768) : impl_Clamp.f 16 v lo hi = some (mn (mx v lo) hi) := by
  have := mid_bd hv hl hh
  simp only [impl_Clamp.f, i16_in hv, i16_in hl, i16_in hh]
  rw [if_neg (by decide), if_neg (by decide), if_pos trivial]
  rw [show mathutil_ClampInt16.f v lo hi = some (mn (mx v lo) hi) from core v lo hi, Option.bind_some, i64_in (by omega)]
theorem impl32 {v lo hi : Int} (hv : -2147483648 ≤ v ∧ v < 2147483648) (hl : -2147483648 ≤ lo ∧ lo < 2147483648) (hh : -2147483648 ≤ hi ∧ hi < 2147483648) : impl_Clamp.f 32 v lo hi = some (mn (mx v lo) hi) := by
  have := mid_bd hv hl hh
  simp only [impl_Clamp.f, i32_in hv, i32_in hl, i32_in hh]
  rw [if_neg (by decide), if_neg (by decide), if_neg (by decide), if_pos trivial]
  rw [show mathutil_ClampInt32.f v lo hi = some (mn (mx v lo) hi) from core v lo hi, Option.bind_some, i64_in (by omega)]
theorem impl64 (v lo hi : Int) : impl_Clamp.f 64 v lo hi = some (mn (mx v lo) hi) := by
  simp only [impl_Clamp.f]
  rw [if_neg (by decide), if_neg (by decide), if_neg (by decide), if_neg (by decide)]
  rw [show mathutil_ClampInt64.f v lo hi = some (mn (mx v lo) hi) from core v lo hi, Option.bind_some]
theorem impl1 (v lo hi : Int) : impl_Clamp.f 1 v lo hi = some (mn (mx v lo) hi) := by
  simp only [impl_Clamp.f]
  rw [if_pos trivial]
  rw [show mathutil_Clamp.f v lo hi = some (mn (mx v lo) hi) from core v lo hi, Option.bind_some]

theorem s8 (x : Int) : ∃ y, spec_Signed.f 8 x = some y ∧ -128 ≤ y ∧ y < 128 := by
  have e : wrap64 (64 - 8) = 56 := by rw [w64]; omega
  have e2 : min (56 : Int).toNat (IntKind.bits .i64) = 56 := by decide
  refine ⟨IntKind.i64.wrap (x * 2 ^ 56) / 2 ^ 56, ?_, ?_⟩
  · simp only [spec_Signed.f, e, shr, shl, e2]; rw [if_pos (by omega)]
  · rw [IntKind.wrap_i64]; omega
theorem s16 (x : Int) : ∃ y, spec_Signed.f 16 x = some y ∧ -32768 ≤ y ∧ y < 32768 := by
  have e : wrap64 (64 - 16) = 48 := by rw [w64]; omega
  have e2 : min (48 : Int).toNat (IntKind.bits .i64) = 48 := by decide
  refine ⟨IntKind.i64.wrap (x * 2 ^ 48) / 2 ^ 48, ?_, ?_⟩
  · simp only [spec_Signed.f, e, shr, shl, e2]; rw [if_pos (by omega)]
  · rw [IntKind.wrap_i64]; omega
theorem s32 (x : Int) : ∃ y, spec_Signed.f 32 x = some y ∧ -2147483648 ≤ y ∧ y < 2147483648 := by
  have e : wrap64 (64 - 32) = 32 := by rw [w64]; omega
  have e2 : min (32 : Int).toNat (IntKind.bits .i64) = 32 := by decide
  refine ⟨IntKind.i64.wrap (x * 2 ^ 32) / 2 ^ 32, ?_, ?_⟩
  · simp only [spec_Signed.f, e, shr, shl, e2]; rw [if_pos (by omega)]
  · rw [IntKind.wrap_i64]; omega
theorem s64 (x : Int) : ∃ y, spec_Signed.f 64 x = some y := by
  have e : wrap64 (64 - 64) = 0 := by rw [w64]; omega
  simp only [spec_Signed.f, e]; rw [if_pos (by omega)]; exact ⟨_, rfl⟩

theorem FnClamp : laws_FnClamp.Pure := by
  intro w v lo hi _ _ _ _
  refine ⟨1, ?_⟩
  have h3 : impl_Clamp.f 8 5 1 3 = some 3 := by rw [impl8 (by omega) (by omega) (by omega)]; decide
  have hr : ((3 : Int) == 3) = true := rfl
  simp only [laws_FnClamp.f, h3, Option.bind_some, laws_FnClamp.j0, laws_clamped.f, hr]
  have end64 (wv : Int) (himp : ∀ v lo hi, impl_Clamp.f wv v lo hi = some (mn (mx v lo) hi)) : ((spec_IsWidth.f 64).bind fun t117 => if t117 = true then ((spec_Signed.f 64 v).bind fun t118 => (spec_Signed.f 64 lo).bind fun t119 => (spec_Signed.f 64 hi).bind fun t120 => if true = true then (if t119 > t120 then some true else ((impl_Clamp.f wv t118 t119 t120).bind fun t121 => some (t121 == mn (mx t118 t119) t120))) else some false) else some true) = some true := by
    obtain ⟨y1, e1⟩ := s64 v
    obtain ⟨y2, e2⟩ := s64 lo
    obtain ⟨y3, e3⟩ := s64 hi
    simp [spec_IsWidth.f, e1, e2, e3, himp]
  by_cases h1 : w = 1
  · subst h1
    rw [if_pos rfl]
    exact end64 1 impl1
  · rw [if_neg h1]
    by_cases h8 : w = 8
    · subst h8
      obtain ⟨y1, e1, b1⟩ := s8 v
      obtain ⟨y2, e2, b2⟩ := s8 lo
      obtain ⟨y3, e3, b3⟩ := s8 hi
      simp [spec_IsWidth.f, e1, e2, e3, impl8 b1 b2 b3]
    · by_cases h16 : w = 16
      · subst h16
        obtain ⟨y1, e1, b1⟩ := s16 v
        obtain ⟨y2, e2, b2⟩ := s16 lo
        obtain ⟨y3, e3, b3⟩ := s16 hi
        simp [spec_IsWidth.f, e1, e2, e3, impl16 b1 b2 b3]
      · by_cases h32 : w = 32
        · subst h32
          obtain ⟨y1, e1, b1⟩ := s32 v
          obtain ⟨y2, e2, b2⟩ := s32 lo
          obtain ⟨y3, e3, b3⟩ := s32 hi
          simp [spec_IsWidth.f, e1, e2, e3, impl32 b1 b2 b3]
        · by_cases h64 : w = 64
          · subst h64; exact end64 64 impl64
          · simp [spec_IsWidth.f, h8, h16, h32, h64]

end Go.Proofs.Ytfoifemajoebpaa.Pure
