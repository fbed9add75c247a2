/- Proved: the package restricts numbers of 8, 16, 32 or 64 bits without a sign, and uints, between two others, the first one not greater than the second one. Conditions: an int as the width and three numbers of 64 bits without a sign; no others. -/
import Derived.Test.YtfoifemajoebpaaPFnUClampx1
import Derived.Test.YtfoifemajoebpaaCom
namespace Go.Proofs.Ytfoifemajoebpaa.Pure
open Go Go.RowKit Go.Proofs.Ytfoifemajoebpaa.PFnUClamp Go.Proofs.YtfoifemajoebpaaW.PrintWords Go.Proofs.YtfoifemajoebpaaW.PrintLast Go.Com

theorem u8_in {x : Int} (h : 0 ≤ x ∧ x < 256) : x % 256 = x := by omega
theorem u16_in {x : Int} (h : 0 ≤ x ∧ x < 65536) : IntKind.u16.wrap x = x := IntWalk.u16_in x (by omega)
theorem u32_in {x : Int} (h : 0 ≤ x ∧ x < 4294967296) : x % 4294967296 = x := by omega
theorem u64_in {x : Int} (h : 0 ≤ x ∧ x < 18446744073709551616) : IntKind.u64.wrap x = x := IntWalk.u64_in x (by omega)

theorem mid_bd {v lo hi a b : Int} (hv : a ≤ v ∧ v < b) (hl : a ≤ lo ∧ lo < b) (hh : a ≤ hi ∧ hi < b) : a ≤ mn (mx v lo) hi ∧ mn (mx v lo) hi < b := by
  unfold mn mx; split <;> split <;> omega

theorem core (v lo hi : Int) : ((if v > lo then some v else some lo).bind fun t => ((if t < hi then some t else some hi).bind fun u => some u)) = some (mn (mx v lo) hi) := by
  unfold mn mx
  have e : (if v > lo then some v else some lo) = some (if v < lo then lo else v) := by
    by_cases h : v > lo
    · rw [if_pos h, if_neg (by omega)]
    · rw [if_neg h]; congr 1; split <;> omega
  rw [e, Option.bind_some]
  generalize (if v < lo then lo else v) = x
  by_cases h : x < hi
  · rw [if_pos h, if_neg (by omega), Option.bind_some]
  · rw [if_neg h, Option.bind_some]; congr 1; split <;> omega

theorem impl8 {v lo hi : Int} (hv : 0 ≤ v ∧ v < 256) (hl : 0 ≤ lo ∧ lo < 256) (hh : 0 ≤ hi ∧ hi < 256) : impl_UClamp.f 8 v lo hi = some (mn (mx v lo) hi) := by
  have := mid_bd hv hl hh
  simp only [impl_UClamp.f, u8_in hv, u8_in hl, u8_in hh]
  rw [if_neg (by decide), if_pos trivial]
  rw [show mathutil_ClampByte.f v lo hi = some (mn (mx v lo) hi) from core v lo hi, Option.bind_some, u64_in (by omega)]
theorem impl16 {v lo hi : Int} (hv : 0 ≤ v ∧ v < 65536) (hl : 0 ≤ lo ∧ lo < 65536) (hh : 0 ≤ hi ∧ hi < 65536) : impl_UClamp.f 16 v lo hi = some (mn (mx v lo) hi) := by
  have := mid_bd hv hl hh
  simp only [impl_UClamp.f, u16_in hv, u16_in hl, u16_in hh]
  rw [if_neg (by decide), if_neg (by decide), if_pos trivial]
  rw [show mathutil_ClampUint16.f v lo hi = some (mn (mx v lo) hi) from core v lo hi, Option.bind_some, u64_in (by omega)]
theorem impl32 {v lo hi : Int} (hv : 0 ≤ v ∧ v < 4294967296) (hl : 0 ≤ lo ∧ lo < 4294967296) (hh : 0 ≤ hi ∧ hi < 4294967296) : impl_UClamp.f 32 v lo hi = some (mn (mx v lo) hi) := by
  have := mid_bd hv hl hh
  simp only [impl_UClamp.f, u32_in hv, u32_in hl, u32_in hh]
  rw [if_neg (by decide), if_neg (by decide), if_neg (by decide), if_pos trivial]
  rw [show mathutil_ClampUint32.f v lo hi = some (mn (mx v lo) hi) from core v lo hi, Option.bind_some, u64_in (by omega)]
theorem impl64 (v lo hi : Int) : impl_UClamp.f 64 v lo hi = some (mn (mx v lo) hi) := by
  simp only [impl_UClamp.f]
  rw [if_neg (by decide), if_neg (by decide), if_neg (by decide), if_neg (by decide)]
  rw [show mathutil_ClampUint64.f v lo hi = some (mn (mx v lo) hi) from core v lo hi, Option.bind_some]
theorem impl1 (v lo hi : Int) : impl_UClamp.f 1 v lo hi = some (mn (mx v lo) hi) := by
  simp only [impl_UClamp.f]
  rw [if_pos trivial]
  rw [show mathutil_UClamp.f v lo hi = some (mn (mx v lo) hi) from core v lo hi, Option.bind_some]

theorem s8 (x : Int) : ∃ y, spec_Low.f 8 x = some y ∧ 0 ≤ y ∧ y < 256 := by
  have e : wrap64 (64 - 8) = 56 := by rw [w64]; omega
  have e2 : min (56 : Int).toNat (IntKind.bits .u64) = 56 := by decide
  refine ⟨IntKind.u64.wrap (x * 2 ^ 56) / 2 ^ 56, ?_, ?_⟩
  · simp only [spec_Low.f, e, shr, shl, e2]; rw [if_pos (by omega)]
  · rw [IntKind.wrap_u64]; omega
theorem s16 (x : Int) : ∃ y, spec_Low.f 16 x = some y ∧ 0 ≤ y ∧ y < 65536 := by
  have e : wrap64 (64 - 16) = 48 := by rw [w64]; omega
  have e2 : min (48 : Int).toNat (IntKind.bits .u64) = 48 := by decide
  refine ⟨IntKind.u64.wrap (x * 2 ^ 48) / 2 ^ 48, ?_, ?_⟩
  · simp only [spec_Low.f, e, shr, shl, e2]; rw [if_pos (by omega)]
  · rw [IntKind.wrap_u64]; omega
theorem s32 (x : Int) : ∃ y, spec_Low.f 32 x = some y ∧ 0 ≤ y ∧ y < 4294967296 := by
  have e : wrap64 (64 - 32) = 32 := by rw [w64]; omega
  have e2 : min (32 : Int).toNat (IntKind.bits .u64) = 32 := by decide
  refine ⟨IntKind.u64.wrap (x * 2 ^ 32) / 2 ^ 32, ?_, ?_⟩
  · simp only [spec_Low.f, e, shr, shl, e2]; rw [if_pos (by omega)]
  · rw [IntKind.wrap_u64]; omega
theorem s64 (x : Int) : ∃ y, spec_Low.f 64 x = some y := by
  have e : wrap64 (64 - 64) = 0 := by rw [w64]; omega
  simp only [spec_Low.f, e]; rw [if_pos (by omega)]; exact ⟨_, rfl⟩

theorem FnUClamp : laws_FnUClamp.Pure := by
  intro w v lo hi _ _ _ _
  refine ⟨1, ?_⟩
  have h3 : impl_UClamp.f 8 5 1 3 = some 3 := by rw [impl8 (by omega) (by omega) (by omega)]; decide
  have hr : ((3 : Int) == 3) = true := rfl
  simp only [laws_FnUClamp.f, h3, Option.bind_some, laws_FnUClamp.j0, hr]
  have end64 (wv : Int) (himp : ∀ v lo hi, impl_UClamp.f wv v lo hi = some (mn (mx v lo) hi)) : ((spec_IsWidth.f 64).bind fun t117 => if t117 = true then ((spec_Low.f 64 v).bind fun t118 => (spec_Low.f 64 lo).bind fun t119 => (spec_Low.f 64 hi).bind fun t120 => if true = true then (if t119 > t120 then some true else ((impl_UClamp.f wv t118 t119 t120).bind fun t121 => some (t121 == mn (mx t118 t119) t120))) else some false) else some true) = some true := by
    obtain ⟨y1, e1⟩ := s64 v
    obtain ⟨y2, e2⟩ := s64 lo
    obtain ⟨y3, e3⟩ := s64 hi
    simp [spec_IsWidth.f, e1, e2, e3, himp]
  by_cases h1 : w = 1
  · subst h1
    rw [if_pos rfl]
    exact end64 1 impl1
  · rw [if_neg h1]
    by_cases h8 : w = 8
    · subst h8
      obtain ⟨y1, e1, b1⟩ := s8 v
      obtain ⟨y2, e2, b2⟩ := s8 lo
      obtain ⟨y3, e3, b3⟩ := s8 hi
      simp [spec_IsWidth.f, e1, e2, e3, impl8 b1 b2 b3]
    · by_cases h16 : w = 16
      · subst h16
        obtain ⟨y1, e1, b1⟩ := s16 v
        obtain ⟨y2, e2, b2⟩ := s16 lo
        obtain ⟨y3, e3, b3⟩ := s16 hi
        simp [spec_IsWidth.f, e1, e2, e3, impl16 b1 b2 b3]
      · by_cases h32 : w = 32
        · subst h32
          obtain ⟨y1, e1, b1⟩ := s32 v
          obtain ⟨y2, e2, b2⟩ := s32 lo
          obtain ⟨y3, e3, b3⟩ := s32 hi
          simp [spec_IsWidth.f, e1, e2, e3, impl32 b1 b2 b3]
        · by_cases h64 : w = 64
          · subst h64; exact end64 64 impl64
          · simp [spec_IsWidth.f, h8, h16, h32, h64]

end Go.Proofs.Ytfoifemajoebpaa.Pure
