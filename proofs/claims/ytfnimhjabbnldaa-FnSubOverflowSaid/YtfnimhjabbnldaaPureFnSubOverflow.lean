/- Proved: the package tells of a difference of numbers of 8, 16, 32 or 64 bits that it has no room just where it has none, and it is right otherwise. Conditions: an int as the width and two numbers of 64 bits with a sign; no others. -/
import Derived.Test.YtfnimhjabbnldaaOFnSubOverflowx5
import Derived.Test.YtfnimhjabbnldaaCom
import Derived.Test.YtfnimhjabbnldaaWide
namespace Go.Proofs.Ytfnimhjabbnldaa.Pure
open Go Go.RowKit Go.Proofs.Ytfnimhjabbnldaa.PFnSubOverflow Go.Proofs.YtfnimhjabbnldaaW.PrintWords Go.Proofs.YtfnimhjabbnldaaW.PrintLast Go.Com

theorem i8_is (x : Int) : IntKind.i8.wrap x = (x + 128) % 256 - 128 := by simp [IntKind.wrap, IntKind.bits, IntKind.signed]; split <;> omega
theorem i16_is (x : Int) : IntKind.i16.wrap x = (x + 32768) % 65536 - 32768 := by simp [IntKind.wrap, IntKind.bits, IntKind.signed]; split <;> omega
theorem i32_is (x : Int) : wrap32 x = (x + 2147483648) % 4294967296 - 2147483648 := by unfold wrap32; rfl

theorem s8 (x : Int) : spec_Signed.f 8 x = some (IntKind.i8.wrap x) := by
  have e : wrap64 (64 - 8) = 56 := by rw [w64]; omega
  have e2 : min (56 : Int).toNat (IntKind.bits .i64) = 56 := by decide
  simp only [spec_Signed.f, e, shr, shl, e2]; rw [if_pos (by omega), IntKind.wrap_i64, i8_is]; congr 1; omega
theorem s16 (x : Int) : spec_Signed.f 16 x = some (IntKind.i16.wrap x) := by
  have e : wrap64 (64 - 16) = 48 := by rw [w64]; omega
  have e2 : min (48 : Int).toNat (IntKind.bits .i64) = 48 := by decide
  simp only [spec_Signed.f, e, shr, shl, e2]; rw [if_pos (by omega), IntKind.wrap_i64, i16_is]; congr 1; omega
theorem s32 (x : Int) : spec_Signed.f 32 x = some (wrap32 x) := by
  have e : wrap64 (64 - 32) = 32 := by rw [w64]; omega
  have e2 : min (32 : Int).toNat (IntKind.bits .i64) = 32 := by decide
  simp only [spec_Signed.f, e, shr, shl, e2]; rw [if_pos (by omega), IntKind.wrap_i64, i32_is]; congr 1; omega
theorem s64 (x : Int) : spec_Signed.f 64 x = some (wrap64 x) := by
  have e : wrap64 (64 - 64) = 0 := by rw [w64]; omega
  have e2 : min (0 : Int).toNat (IntKind.bits .i64) = 0 := by decide
  simp only [spec_Signed.f, e, shr, shl, e2]; rw [if_pos (by omega), IntKind.wrap_i64, w64]; congr 1; omega

theorem pair {x x' : Int} {z z' : Bool} (h1 : x = x') (h2 : z = z') : some (x, z) = some (x', z') := by rw [h1, h2]
theorem dec {p q : Prop} [Decidable p] [Decidable q] (h : p ↔ q) : decide p = decide q := by rw [decide_eq_decide]; exact h

/-- a number of 128 bits has room in a width -/
theorem fits_any (w v B : Int) (sg : Int → Int) (hs : ∀ x, spec_Signed.f w x = some (sg x)) (hB : B ≤ 9223372036854775808)
    (hsg : ∀ x, -9223372036854775808 ≤ x → x < 9223372036854775808 → (sg x = x ↔ -B ≤ x ∧ x < B)) :
    spec_Fits.f w (v / 18446744073709551616) (v % 18446744073709551616) = some (decide (-B ≤ v ∧ v < B)) := by
  simp only [spec_Fits.f, spec_WideOf.f, hs, Option.bind_some]
  have e2 : (IntKind.u64.wrap (wrap64 (v % 18446744073709551616))) = v % 18446744073709551616 := by rw [IntKind.wrap_u64, w64]; omega
  rw [e2]
  by_cases hf : -9223372036854775808 ≤ v ∧ v < 9223372036854775808
  · have e3 : wrap64 (v % 18446744073709551616) = v := by rw [w64]; omega
    have e4 : v / 18446744073709551616 = v / 9223372036854775808 := by omega
    rw [e3, ← e4]
    simp only [beq_self_eq_true, Bool.and_self, if_true]
    congr 1
    rw [Bool.eq_iff_iff, beq_iff_eq, decide_eq_true_eq]
    exact hsg v hf.1 hf.2
  · have e3 : ¬ v / 18446744073709551616 = wrap64 (v % 18446744073709551616) / 9223372036854775808 := by rw [w64]; omega
    rw [decide_eq_false (by omega)]
    simp [e3]
theorem fits8 (v : Int) : spec_Fits.f 8 (v / 18446744073709551616) (v % 18446744073709551616) = some (decide (-128 ≤ v ∧ v < 128)) :=
  fits_any 8 v 128 _ s8 (by omega) (by intro x _ _; rw [i8_is]; omega)
theorem fits16 (v : Int) : spec_Fits.f 16 (v / 18446744073709551616) (v % 18446744073709551616) = some (decide (-32768 ≤ v ∧ v < 32768)) :=
  fits_any 16 v 32768 _ s16 (by omega) (by intro x _ _; rw [i16_is]; omega)
theorem fits32 (v : Int) : spec_Fits.f 32 (v / 18446744073709551616) (v % 18446744073709551616) = some (decide (-2147483648 ≤ v ∧ v < 2147483648)) :=
  fits_any 32 v 2147483648 _ s32 (by omega) (by intro x _ _; rw [i32_is]; omega)
theorem fits64 (v : Int) : spec_Fits.f 64 (v / 18446744073709551616) (v % 18446744073709551616) = some (decide (-9223372036854775808 ≤ v ∧ v < 9223372036854775808)) :=
  fits_any 64 v 9223372036854775808 _ s64 (by omega) (by intro x _ _; rw [w64]; omega)

/-- sums of numbers of 128 bits, by their values -/
theorem sum_v (u v : Int) (h : -170141183460469231731687303715884105728 ≤ u + v ∧ u + v < 170141183460469231731687303715884105728) :
    ∃ o, spec_Sum.f (u / 18446744073709551616) (u % 18446744073709551616) (v / 18446744073709551616) (v % 18446744073709551616) = some ((u + v) / 18446744073709551616, (u + v) % 18446744073709551616, o) := by
  have t3 {x x' y y' : Int} {z : Bool} (h1 : x = x') (h2 : y = y') : ∃ o, some (x, y, z) = some (x', y', o) := ⟨z, by rw [h1, h2]⟩
  simp only [spec_Sum.f, IntKind.wrap_u64, w64]
  split
  · split
    · exact t3 (by omega) (by omega)
    · exact t3 (by omega) (by omega)
  · split
    · exact t3 (by omega) (by omega)
    · exact t3 (by omega) (by omega)

theorem neg_v (v : Int) (h : -170141183460469231731687303715884105728 < v ∧ v < 170141183460469231731687303715884105728) :
    spec_Negative.f (v / 18446744073709551616) (v % 18446744073709551616) = some ((-v) / 18446744073709551616, (-v) % 18446744073709551616) := by
  simp only [spec_Negative.f]
  rw [Wide.xor_i64 _ (by omega) (by omega), Wide.xor_u64 _ (by omega) (by omega)]
  obtain ⟨o, hs⟩ := sum_v (-1 - v) 1 (by omega)
  rw [show (-1 - v) / 18446744073709551616 = -1 - v / 18446744073709551616 by omega, show (-1 - v) % 18446744073709551616 = 18446744073709551615 - v % 18446744073709551616 by omega] at hs
  rw [show (1 : Int) / 18446744073709551616 = 0 by omega, show (1 : Int) % 18446744073709551616 = 1 by omega] at hs
  rw [hs]
  simp only [Option.bind_some]
  rw [show -1 - v + 1 = -v by omega]

/-- what the ways of a sum, a difference tell -/
theorem three {p : Prop} [Decidable p] {g : Option (Int × Bool)} {f1 f2 : Option (Int × Bool)} (h1 : p → f1 = g) (h2 : ¬ p → f2 = g) : (if p then f1 else f2) = g := by
  by_cases h : p
  · rw [if_pos h]; exact h1 h
  · rw [if_neg h]; exact h2 h
theorem add8 (k : Nat) (x y : Int) (hx : -128 ≤ x ∧ x < 128) (hy : -128 ≤ y ∧ y < 128) :
    mathutil_AddOverflowInt8.f (k + 1) x y = some (IntKind.i8.wrap (x + y), !decide (-128 ≤ x + y ∧ x + y < 128)) := by
  rw [← decide_not]
  simp only [mathutil_AddOverflowInt8.f, mathutil_AddOverflowInt8.j0, decide_eq_true_eq, Bool.false_eq_true, if_false]
  have e := i8_is (x + y)
  generalize IntKind.i8.wrap (x + y) = z at *
  refine three (fun h1 => three (fun h2 => pair rfl (dec (by omega))) (fun h2 => three (fun h3 => three (fun h4 => pair rfl (dec (by omega))) (fun h4 => pair rfl (decide_eq_false (by omega)).symm)) (fun h3 => pair rfl (decide_eq_false (by omega)).symm))) (fun h1 => three (fun h3 => three (fun h4 => pair rfl (dec (by omega))) (fun h4 => pair rfl (decide_eq_false (by omega)).symm)) (fun h3 => pair rfl (decide_eq_false (by omega)).symm))
theorem add16 (k : Nat) (x y : Int) (hx : -32768 ≤ x ∧ x < 32768) (hy : -32768 ≤ y ∧ y < 32768) :
    mathutil_AddOverflowInt16.f (k + 1) x y = some (IntKind.i16.wrap (x + y), !decide (-32768 ≤ x + y ∧ x + y < 32768)) := by
  rw [← decide_not]
  simp only [mathutil_AddOverflowInt16.f, mathutil_AddOverflowInt16.j0, IntKind.wrap_u16, decide_eq_true_eq, Bool.false_eq_true, if_false]
  have e := i16_is (x + y)
  generalize IntKind.i16.wrap (x + y) = z at *
  refine three (fun h1 => three (fun h2 => pair rfl (dec (by omega))) (fun h2 => three (fun h3 => three (fun h4 => pair rfl (dec (by omega))) (fun h4 => pair rfl (decide_eq_false (by omega)).symm)) (fun h3 => pair rfl (decide_eq_false (by omega)).symm))) (fun h1 => three (fun h3 => three (fun h4 => pair rfl (dec (by omega))) (fun h4 => pair rfl (decide_eq_false (by omega)).symm)) (fun h3 => pair rfl (decide_eq_false (by omega)).symm))
theorem add32 (k : Nat) (x y : Int) (hx : -2147483648 ≤ x ∧ x < 2147483648) (hy : -2147483648 ≤ y ∧ y < 2147483648) :
    mathutil_AddOverflowInt32.f (k + 1) x y = some (wrap32 (x + y), !decide (-2147483648 ≤ x + y ∧ x + y < 2147483648)) := by
  rw [← decide_not]
  simp only [mathutil_AddOverflowInt32.f, mathutil_AddOverflowInt32.j0, decide_eq_true_eq, Bool.false_eq_true, if_false]
  have e := i32_is (x + y)
  generalize wrap32 (x + y) = z at *
  refine three (fun h1 => three (fun h2 => pair rfl (dec (by omega))) (fun h2 => three (fun h3 => three (fun h4 => pair rfl (dec (by omega))) (fun h4 => pair rfl (decide_eq_false (by omega)).symm)) (fun h3 => pair rfl (decide_eq_false (by omega)).symm))) (fun h1 => three (fun h3 => three (fun h4 => pair rfl (dec (by omega))) (fun h4 => pair rfl (decide_eq_false (by omega)).symm)) (fun h3 => pair rfl (decide_eq_false (by omega)).symm))
theorem add64 (k : Nat) (x y : Int) (hx : -9223372036854775808 ≤ x ∧ x < 9223372036854775808) (hy : -9223372036854775808 ≤ y ∧ y < 9223372036854775808) :
    mathutil_AddOverflowInt64.f (k + 1) x y = some (wrap64 (x + y), !decide (-9223372036854775808 ≤ x + y ∧ x + y < 9223372036854775808)) := by
  rw [← decide_not]
  simp only [mathutil_AddOverflowInt64.f, mathutil_AddOverflowInt64.j0, IntKind.wrap_u64, decide_eq_true_eq, Bool.false_eq_true, if_false]
  have e := w64 (x + y)
  generalize wrap64 (x + y) = z at *
  refine three (fun h1 => three (fun h2 => pair rfl (dec (by omega))) (fun h2 => three (fun h3 => three (fun h4 => pair rfl (dec (by omega))) (fun h4 => pair rfl (decide_eq_false (by omega)).symm)) (fun h3 => pair rfl (decide_eq_false (by omega)).symm))) (fun h1 => three (fun h3 => three (fun h4 => pair rfl (dec (by omega))) (fun h4 => pair rfl (decide_eq_false (by omega)).symm)) (fun h3 => pair rfl (decide_eq_false (by omega)).symm))
theorem sub8 (k : Nat) (x y : Int) (hx : -128 ≤ x ∧ x < 128) (hy : -128 ≤ y ∧ y < 128) :
    mathutil_SubOverflowInt8.f (k + 1) x y = some (IntKind.i8.wrap (x - y), !decide (-128 ≤ x - y ∧ x - y < 128)) := by
  rw [← decide_not]
  simp only [mathutil_SubOverflowInt8.f, mathutil_SubOverflowInt8.j0, decide_eq_true_eq, Bool.false_eq_true, if_false]
  have e := i8_is (x - y)
  generalize IntKind.i8.wrap (x - y) = z at *
  refine three (fun h1 => three (fun h2 => pair rfl (dec (by omega))) (fun h2 => three (fun h3 => three (fun h4 => pair rfl (dec (by omega))) (fun h4 => pair rfl (decide_eq_false (by omega)).symm)) (fun h3 => pair rfl (decide_eq_false (by omega)).symm))) (fun h1 => three (fun h3 => three (fun h4 => pair rfl (dec (by omega))) (fun h4 => pair rfl (decide_eq_false (by omega)).symm)) (fun h3 => pair rfl (decide_eq_false (by omega)).symm))
theorem sub16 (k : Nat) (x y : Int) (hx : -32768 ≤ x ∧ x < 32768) (hy : -32768 ≤ y ∧ y < 32768) :
    mathutil_SubOverflowInt16.f (k + 1) x y = some (IntKind.i16.wrap (x - y), !decide (-32768 ≤ x - y ∧ x - y < 32768)) := by
  rw [← decide_not]
  simp only [mathutil_SubOverflowInt16.f, mathutil_SubOverflowInt16.j0, IntKind.wrap_u16, decide_eq_true_eq, Bool.false_eq_true, if_false]
  have e := i16_is (x - y)
  generalize IntKind.i16.wrap (x - y) = z at *
  refine three (fun h1 => three (fun h2 => pair rfl (dec (by omega))) (fun h2 => three (fun h3 => three (fun h4 => pair rfl (dec (by omega))) (fun h4 => pair rfl (decide_eq_false (by omega)).symm)) (fun h3 => pair rfl (decide_eq_false (by omega)).symm))) (fun h1 => three (fun h3 => three (fun h4 => pair rfl (dec (by omega))) (fun h4 => pair rfl (decide_eq_false (by omega)).symm)) (fun h3 => pair rfl (decide_eq_false (by omega)).symm))
theorem sub32 (k : Nat) (x y : Int) (hx : -2147483648 ≤ x ∧ x < 2147483648) (hy : -2147483648 ≤ y ∧ y < 2147483648) :
    mathutil_SubOverflowInt32.f (k + 1) x y = some (wrap32 (x - y), !decide (-2147483648 ≤ x - y ∧ x - y < 2147483648)) := by
  rw [← decide_not]
  simp only [mathutil_SubOverflowInt32.f, mathutil_SubOverflowInt32.j0, decide_eq_true_eq, Bool.false_eq_true, if_false]
  have e := i32_is (x - y)
  generalize wrap32 (x - y) = z at *
  refine three (fun h1 => three (fun h2 => pair rfl (dec (by omega))) (fun h2 => three (fun h3 => three (fun h4 => pair rfl (dec (by omega))) (fun h4 => pair rfl (decide_eq_false (by omega)).symm)) (fun h3 => pair rfl (decide_eq_false (by omega)).symm))) (fun h1 => three (fun h3 => three (fun h4 => pair rfl (dec (by omega))) (fun h4 => pair rfl (decide_eq_false (by omega)).symm)) (fun h3 => pair rfl (decide_eq_false (by omega)).symm))
theorem sub64 (k : Nat) (x y : Int) (hx : -9223372036854775808 ≤ x ∧ x < 9223372036854775808) (hy : -9223372036854775808 ≤ y ∧ y < 9223372036854775808) :
    mathutil_SubOverflowInt64.f (k + 1) x y = some (wrap64 (x - y), !decide (-9223372036854775808 ≤ x - y ∧ x - y < 9223372036854775808)) := by
  rw [← decide_not]
  simp only [mathutil_SubOverflowInt64.f, mathutil_SubOverflowInt64.j0, IntKind.wrap_u64, decide_eq_true_eq, Bool.false_eq_true, if_false]
  have e := w64 (x - y)
  generalize wrap64 (x - y) = z at *
  refine three (fun h1 => three (fun h2 => pair rfl (dec (by omega))) (fun h2 => three (fun h3 => three (fun h4 => pair rfl (dec (by omega))) (fun h4 => pair rfl (decide_eq_false (by omega)).symm)) (fun h3 => pair rfl (decide_eq_false (by omega)).symm))) (fun h1 => three (fun h3 => three (fun h4 => pair rfl (dec (by omega))) (fun h4 => pair rfl (decide_eq_false (by omega)).symm)) (fun h3 => pair rfl (decide_eq_false (by omega)).symm))

theorem mul_small : impl_MulOverflow.f 1 8 3 4 = some (12, false) := by
  have e1 : IntKind.i8.wrap 3 = 3 := by rw [i8_is]; omega
  have e2 : IntKind.i8.wrap 4 = 4 := by rw [i8_is]; omega
  have e3 : IntKind.i16.wrap 3 = 3 := by rw [i16_is]; omega
  have e4 : IntKind.i16.wrap 4 = 4 := by rw [i16_is]; omega
  have e5 : IntKind.i16.wrap 12 = 12 := by rw [i16_is]; omega
  have e6 : IntKind.i8.wrap 12 = 12 := by rw [i8_is]; omega
  have e7 : wrap64 12 = 12 := by rw [w64]; omega
  simp [impl_MulOverflow.f, mathutil_MulOverflowInt8.f, e1, e2, e3, e4, e5, e6, e7]
theorem impl_add8 (x y : Int) (hx : -128 ≤ x ∧ x < 128) (hy : -128 ≤ y ∧ y < 128) : impl_AddOverflow.f 1 8 x y = some (IntKind.i8.wrap (x + y), !decide (-128 ≤ x + y ∧ x + y < 128)) := by
  have ex : IntKind.i8.wrap x = x := by rw [i8_is]; omega
  have ey : IntKind.i8.wrap y = y := by rw [i8_is]; omega
  have ez : wrap64 (IntKind.i8.wrap (x + y)) = IntKind.i8.wrap (x + y) := by rw [i8_is, w64]; omega
  simp only [impl_AddOverflow.f, ex, ey]
  rw [if_pos trivial, add8 0 x y hx hy]; simp only [Option.bind_some, ez]
theorem impl_add16 (x y : Int) (hx : -32768 ≤ x ∧ x < 32768) (hy : -32768 ≤ y ∧ y < 32768) : impl_AddOverflow.f 1 16 x y = some (IntKind.i16.wrap (x + y), !decide (-32768 ≤ x + y ∧ x + y < 32768)) := by
  have ex : IntKind.i16.wrap x = x := by rw [i16_is]; omega
  have ey : IntKind.i16.wrap y = y := by rw [i16_is]; omega
  have ez : wrap64 (IntKind.i16.wrap (x + y)) = IntKind.i16.wrap (x + y) := by rw [i16_is, w64]; omega
  simp only [impl_AddOverflow.f, ex, ey]
  rw [if_neg (show ¬ ((16 : Int) = 8) by decide), if_pos trivial, add16 0 x y hx hy]; simp only [Option.bind_some, ez]
theorem impl_add32 (x y : Int) (hx : -2147483648 ≤ x ∧ x < 2147483648) (hy : -2147483648 ≤ y ∧ y < 2147483648) : impl_AddOverflow.f 1 32 x y = some (wrap32 (x + y), !decide (-2147483648 ≤ x + y ∧ x + y < 2147483648)) := by
  have ex : wrap32 x = x := by rw [i32_is]; omega
  have ey : wrap32 y = y := by rw [i32_is]; omega
  have ez : wrap64 (wrap32 (x + y)) = wrap32 (x + y) := by rw [i32_is, w64]; omega
  simp only [impl_AddOverflow.f, ex, ey]
  rw [if_neg (show ¬ ((32 : Int) = 8) by decide), if_neg (show ¬ ((32 : Int) = 16) by decide), if_pos trivial, add32 0 x y hx hy]; simp only [Option.bind_some, ez]
theorem impl_add64 (x y : Int) (hx : -9223372036854775808 ≤ x ∧ x < 9223372036854775808) (hy : -9223372036854775808 ≤ y ∧ y < 9223372036854775808) : impl_AddOverflow.f 1 64 x y = some (wrap64 (x + y), !decide (-9223372036854775808 ≤ x + y ∧ x + y < 9223372036854775808)) := by
  simp only [impl_AddOverflow.f]
  rw [if_neg (show ¬ ((64 : Int) = 8) by decide), if_neg (show ¬ ((64 : Int) = 16) by decide), if_neg (show ¬ ((64 : Int) = 32) by decide), if_pos trivial, add64 0 x y hx hy]; simp only [Option.bind_some]
theorem impl_sub8 (x y : Int) (hx : -128 ≤ x ∧ x < 128) (hy : -128 ≤ y ∧ y < 128) : impl_SubOverflow.f 1 8 x y = some (IntKind.i8.wrap (x - y), !decide (-128 ≤ x - y ∧ x - y < 128)) := by
  have ex : IntKind.i8.wrap x = x := by rw [i8_is]; omega
  have ey : IntKind.i8.wrap y = y := by rw [i8_is]; omega
  have ez : wrap64 (IntKind.i8.wrap (x - y)) = IntKind.i8.wrap (x - y) := by rw [i8_is, w64]; omega
  simp only [impl_SubOverflow.f, ex, ey]
  rw [if_pos trivial, sub8 0 x y hx hy]; simp only [Option.bind_some, ez]
theorem impl_sub16 (x y : Int) (hx : -32768 ≤ x ∧ x < 32768) (hy : -32768 ≤ y ∧ y < 32768) : impl_SubOverflow.f 1 16 x y = some (IntKind.i16.wrap (x - y), !decide (-32768 ≤ x - y ∧ x - y < 32768)) := by
  have ex : IntKind.i16.wrap x = x := by rw [i16_is]; omega
  have ey : IntKind.i16.wrap y = y := by rw [i16_is]; omega
  have ez : wrap64 (IntKind.i16.wrap (x - y)) = IntKind.i16.wrap (x - y) := by rw [i16_is, w64]; omega
  simp only [impl_SubOverflow.f, ex, ey]
  rw [if_neg (show ¬ ((16 : Int) = 8) by decide), if_pos trivial, sub16 0 x y hx hy]; simp only [Option.bind_some, ez]
theorem impl_sub32 (x y : Int) (hx : -2147483648 ≤ x ∧ x < 2147483648) (hy : -2147483648 ≤ y ∧ y < 2147483648) : impl_SubOverflow.f 1 32 x y = some (wrap32 (x - y), !decide (-2147483648 ≤ x - y ∧ x - y < 2147483648)) := by
  have ex : wrap32 x = x := by rw [i32_is]; omega
  have ey : wrap32 y = y := by rw [i32_is]; omega
  have ez : wrap64 (wrap32 (x - y)) = wrap32 (x - y) := by rw [i32_is, w64]; omega
  simp only [impl_SubOverflow.f, ex, ey]
  rw [if_neg (show ¬ ((32 : Int) = 8) by decide), if_neg (show ¬ ((32 : Int) = 16) by decide), if_pos trivial, sub32 0 x y hx hy]; simp only [Option.bind_some, ez]
theorem impl_sub64 (x y : Int) (hx : -9223372036854775808 ≤ x ∧ x < 9223372036854775808) (hy : -9223372036854775808 ≤ y ∧ y < 9223372036854775808) : impl_SubOverflow.f 1 64 x y = some (wrap64 (x - y), !decide (-9223372036854775808 ≤ x - y ∧ x - y < 9223372036854775808)) := by
  simp only [impl_SubOverflow.f]
  rw [if_neg (show ¬ ((64 : Int) = 8) by decide), if_neg (show ¬ ((64 : Int) = 16) by decide), if_neg (show ¬ ((64 : Int) = 32) by decide), if_pos trivial, sub64 0 x y hx hy]; simp only [Option.bind_some]

theorem adds_is : laws_adds.f 1 = some true := by
  have e1 : IntKind.i8.wrap (3 + 4) = 7 := by rw [i8_is]; omega
  have e2 : IntKind.i8.wrap (9 - 4) = 5 := by rw [i8_is]; omega
  simp only [laws_adds.f, impl_add8 3 4 (by omega) (by omega), impl_sub8 9 4 (by omega) (by omega), mul_small, Option.bind_some, e1, e2]
  simp

theorem last (w x y B : Int) (sg : Int → Int) (hx : -9223372036854775808 ≤ x ∧ x < 9223372036854775808) (hy : -9223372036854775808 ≤ y ∧ y < 9223372036854775808)
    (hi : impl_SubOverflow.f 1 w x y = some (sg (x - y), !decide (-B ≤ x - y ∧ x - y < B))) (hf : spec_Fits.f w ((x - y) / 18446744073709551616) ((x - y) % 18446744073709551616) = some (decide (-B ≤ x - y ∧ x - y < B)))
    (hB : B ≤ 9223372036854775808) (hsg : -B ≤ x - y ∧ x - y < B → sg (x - y) = x - y) :
    ((impl_SubOverflow.f 1 w x y).bind fun bt149 => ((spec_WideOf.f x).bind fun bt151 => ((spec_WideOf.f y).bind fun bt153 => ((spec_Negative.f bt153.1 bt153.2).bind fun bt155 => ((spec_Sum.f bt151.1 bt151.2 bt155.1 bt155.2).bind fun bt157 => ((laws_adds.f 1).bind fun t161 => (if t161 = true then ((spec_Fits.f w bt157.1 bt157.2.1).bind fun t162 => (if (bt149.2 == (!t162)) = true then (if bt149.2 = true then (some true) else ((spec_WideOf.f bt149.1).bind fun bt163 => (some (bt163.1 == bt157.1 && (bt163.2 == bt157.2.1))))) else (some false))) else (some false)))))))) = some true := by
  obtain ⟨o, hs⟩ := sum_v x (-y) (by omega)
  have hn := neg_v y (by omega)
  have ex : x / 9223372036854775808 = x / 18446744073709551616 := by omega
  have ey : y / 9223372036854775808 = y / 18446744073709551616 := by omega
  have e0 : x + -y = x - y := by omega
  rw [e0] at hs
  simp only [hi, spec_WideOf.f, Option.bind_some, IntKind.wrap_u64, ex, ey, hn, hs, adds_is, if_true, hf]
  by_cases h : -B ≤ x - y ∧ x - y < B
  · rw [decide_eq_true h, hsg h]
    have e1 : (x - y) / 9223372036854775808 = (x - y) / 18446744073709551616 := by omega
    simp [e1]
  · rw [decide_eq_false h]; simp

theorem FnSubOverflow : laws_FnSubOverflow.Pure := by
  intro w a b _ ha hb
  have ha' := b_i64 ha
  have hb' := b_i64 hb
  refine ⟨1, ?_⟩
  simp only [laws_FnSubOverflow.f]
  by_cases e8 : w = 8
  · subst e8
    have h1 := i8_is a
    have h2 := i8_is b
    rw [s8, s8]
    simp only [spec_IsWidth.f, Option.bind_some, if_true]
    exact last 8 _ _ 128 _ (by omega) (by omega) (impl_sub8 _ _ (by omega) (by omega)) (fits8 _) (by omega) (by intro h; rw [i8_is]; omega)
  · by_cases e16 : w = 16
    · subst e16
      have h1 := i16_is a
      have h2 := i16_is b
      rw [s16, s16]
      simp only [spec_IsWidth.f, Option.bind_some, if_true]
      exact last 16 _ _ 32768 _ (by omega) (by omega) (impl_sub16 _ _ (by omega) (by omega)) (fits16 _) (by omega) (by intro h; rw [i16_is]; omega)
    · by_cases e32 : w = 32
      · subst e32
        have h1 := i32_is a
        have h2 := i32_is b
        rw [s32, s32]
        simp only [spec_IsWidth.f, Option.bind_some, if_true]
        exact last 32 _ _ 2147483648 _ (by omega) (by omega) (impl_sub32 _ _ (by omega) (by omega)) (fits32 _) (by omega) (by intro h; rw [i32_is]; omega)
      · by_cases e64 : w = 64
        · subst e64
          have h1 := w64 a
          have h2 := w64 b
          rw [s64, s64]
          simp only [spec_IsWidth.f, Option.bind_some]
          exact last 64 _ _ 9223372036854775808 _ (by omega) (by omega) (impl_sub64 _ _ (by omega) (by omega)) (fits64 _) (by omega) (by intro h; rw [w64]; omega)
        · simp [spec_IsWidth.f, e8, e16, e32, e64, adds_is]

end Go.Proofs.Ytfnimhjabbnldaa.Pure
