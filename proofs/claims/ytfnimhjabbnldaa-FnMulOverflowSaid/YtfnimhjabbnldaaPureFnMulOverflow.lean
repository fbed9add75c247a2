/- Proved: the package tells of a product of numbers of 8, 16, 32 or 64 bits that it has no room just where it has none, and it is right otherwise. Conditions: an int as the width and two numbers of 64 bits with a sign; no others. -/
import Derived.Test.YtfnimhjabbnldaaOFnMulOverflowx6
import Derived.Test.YtfnimhjabbnldaaCom
import Derived.Test.YtfnimhjabbnldaaWide
namespace Go.Proofs.Ytfnimhjabbnldaa.Pure
open Go Go.RowKit Go.Proofs.Ytfnimhjabbnldaa.PFnMulOverflow Go.Proofs.YtfnimhjabbnldaaW.PrintWords Go.Proofs.YtfnimhjabbnldaaW.PrintLast Go.Com

theorem i8_is (x : Int) : IntKind.i8.wrap x = (x + 128) % 256 - 128 := by simp [IntKind.wrap, IntKind.bits, IntKind.signed]; split <;> omega
theorem i16_is (x : Int) : IntKind.i16.wrap x = (x + 32768) % 65536 - 32768 := by simp [IntKind.wrap, IntKind.bits, IntKind.signed]; split <;> omega
theorem i32_is (x : Int) : wrap32 x = (x + 2147483648) % 4294967296 - 2147483648 := by unfold wrap32; rfl

theorem s8 (x : Int) : spec_Signed.f 8 x = some (IntKind.i8.wrap x) := by
  have e : wrap64 (64 - 8) = 56 := by rw [w64]; omega
  have e2 : min (56 : Int).toNat (IntKind.bits .i64) = 56 := by decide
  simp only [spec_Signed.f, e, shr, shl, e2]; rw [if_pos (by omega), IntKind.wrap_i64, i8_is]; congr 1; omega
theorem s16 (x : Int) : spec_Signed.f 16 x = some (IntKind.i16.wrap x) := by
  have e : wrap64 (64 - 16) = 48 := by rw [w64]; omega
  have e2 : min (48 : Int).toNat (IntKind.bits .i64) = 48 := by decide
  simp only [spec_Signed.f, e, shr, shl, e2]; rw [if_pos (by omega), IntKind.wrap_i64, i16_is]; congr 1; omega
theorem s32 (x : Int) : spec_Signed.f 32 x = some (wrap32 x) := by
  have e : wrap64 (64 - 32) = 32 := by rw [w64]; omega
  have e2 : min (32 : Int).toNat (IntKind.bits .i64) = 32 := by decide
  simp only [spec_Signed.f, e, shr, shl, e2]; rw [if_pos (by omega), IntKind.wrap_i64, i32_is]; congr 1; omega
theorem s64 (x : Int) : spec_Signed.f 64 x = some (wrap64 x) := by
  have e : wrap64 (64 - 64) = 0 := by rw [w64]; omega
  have e2 : min (0 : Int).toNat (IntKind.bits .i64) = 0 := by decide
  simp only [spec_Signed.f, e, shr, shl, e2]; rw [if_pos (by omega), IntKind.wrap_i64, w64]; congr 1; omega

theorem pair {x x' : Int} {z z' : Bool} (h1 : x = x') (h2 : z = z') : some (x, z) = some (x', z') := by rw [h1, h2]
theorem dec {p q : Prop} [Decidable p] [Decidable q] (h : p ↔ q) : decide p = decide q := by rw [decide_eq_decide]; exact h

/-- a number of 128 bits has room in a width -/
theorem fits_any (w v B : Int) (sg : Int → Int) (hs : ∀ x, spec_Signed.f w x = some (sg x)) (hB : B ≤ 9223372036854775808)
    (hsg : ∀ x, -9223372036854775808 ≤ x → x < 9223372036854775808 → (sg x = x ↔ -B ≤ x ∧ x < B)) :
    spec_Fits.f w (v / 18446744073709551616) (v % 18446744073709551616) = some (decide (-B ≤ v ∧ v < B)) := by
  simp only [spec_Fits.f, spec_WideOf.f, hs, Option.bind_some]
  have e2 : (IntKind.u64.wrap (wrap64 (v % 18446744073709551616))) = v % 18446744073709551616 := by rw [IntKind.wrap_u64, w64]; omega
  rw [e2]
  by_cases hf : -9223372036854775808 ≤ v ∧ v < 9223372036854775808
  · have e3 : wrap64 (v % 18446744073709551616) = v := by rw [w64]; omega
    have e4 : v / 18446744073709551616 = v / 9223372036854775808 := by omega
    rw [e3, ← e4]
    simp only [beq_self_eq_true, Bool.and_self, if_true]
    congr 1
    rw [Bool.eq_iff_iff, beq_iff_eq, decide_eq_true_eq]
    exact hsg v hf.1 hf.2
  · have e3 : ¬ v / 18446744073709551616 = wrap64 (v % 18446744073709551616) / 9223372036854775808 := by rw [w64]; omega
    rw [decide_eq_false (by omega)]
    simp [e3]
theorem fits8 (v : Int) : spec_Fits.f 8 (v / 18446744073709551616) (v % 18446744073709551616) = some (decide (-128 ≤ v ∧ v < 128)) :=
  fits_any 8 v 128 _ s8 (by omega) (by intro x _ _; rw [i8_is]; omega)
theorem fits16 (v : Int) : spec_Fits.f 16 (v / 18446744073709551616) (v % 18446744073709551616) = some (decide (-32768 ≤ v ∧ v < 32768)) :=
  fits_any 16 v 32768 _ s16 (by omega) (by intro x _ _; rw [i16_is]; omega)
theorem fits32 (v : Int) : spec_Fits.f 32 (v / 18446744073709551616) (v % 18446744073709551616) = some (decide (-2147483648 ≤ v ∧ v < 2147483648)) :=
  fits_any 32 v 2147483648 _ s32 (by omega) (by intro x _ _; rw [i32_is]; omega)
theorem fits64 (v : Int) : spec_Fits.f 64 (v / 18446744073709551616) (v % 18446744073709551616) = some (decide (-9223372036854775808 ≤ v ∧ v < 9223372036854775808)) :=
  fits_any 64 v 9223372036854775808 _ s64 (by omega) (by intro x _ _; rw [w64]; omega)

/-- sums of numbers of 128 bits, by their values -/
theorem sum_v (u v : Int) (h : -170141183460469231731687303715884105728 ≤ u + v ∧ u + v < 170141183460469231731687303715884105728) :
    ∃ o, spec_Sum.f (u / 18446744073709551616) (u % 18446744073709551616) (v / 18446744073709551616) (v % 18446744073709551616) = some ((u + v) / 18446744073709551616, (u + v) % 18446744073709551616, o) := by
  have t3 {x x' y y' : Int} {z : Bool} (h1 : x = x') (h2 : y = y') : ∃ o, some (x, y, z) = some (x', y', o) := ⟨z, by rw [h1, h2]⟩
  simp only [spec_Sum.f, IntKind.wrap_u64, w64]
  split
  · split
    · exact t3 (by omega) (by omega)
    · exact t3 (by omega) (by omega)
  · split
    · exact t3 (by omega) (by omega)
    · exact t3 (by omega) (by omega)

theorem neg_v (v : Int) (h : -170141183460469231731687303715884105728 < v ∧ v < 170141183460469231731687303715884105728) :
    spec_Negative.f (v / 18446744073709551616) (v % 18446744073709551616) = some ((-v) / 18446744073709551616, (-v) % 18446744073709551616) := by
  simp only [spec_Negative.f]
  rw [Wide.xor_i64 _ (by omega) (by omega), Wide.xor_u64 _ (by omega) (by omega)]
  obtain ⟨o, hs⟩ := sum_v (-1 - v) 1 (by omega)
  rw [show (-1 - v) / 18446744073709551616 = -1 - v / 18446744073709551616 by omega, show (-1 - v) % 18446744073709551616 = 18446744073709551615 - v % 18446744073709551616 by omega] at hs
  rw [show (1 : Int) / 18446744073709551616 = 0 by omega, show (1 : Int) % 18446744073709551616 = 1 by omega] at hs
  rw [hs]
  simp only [Option.bind_some]
  rw [show -1 - v + 1 = -v by omega]

/-- what the ways of a sum, a difference tell -/
theorem three {p : Prop} [Decidable p] {g : Option (Int × Bool)} {f1 f2 : Option (Int × Bool)} (h1 : p → f1 = g) (h2 : ¬ p → f2 = g) : (if p then f1 else f2) = g := by
  by_cases h : p
  · rw [if_pos h]; exact h1 h
  · rw [if_neg h]; exact h2 h
theorem add8 (k : Nat) (x y : Int) (hx : -128 ≤ x ∧ x < 128) (hy : -128 ≤ y ∧ y < 128) :
    mathutil_AddOverflowInt8.f (k + 1) x y = some (IntKind.i8.wrap (x + y), !decide (-128 ≤ x + y ∧ x + y < 128)) := by
  rw [← decide_not]
  simp only [mathutil_AddOverflowInt8.f, mathutil_AddOverflowInt8.j0, decide_eq_true_eq, Bool.false_eq_true, if_false]
  have e := i8_is (x + y)
  generalize IntKind.i8.wrap (x + y) = z at *
  refine three (fun h1 => three (fun h2 => pair rfl (dec (by omega))) (fun h2 => three (fun h3 => three (fun h4 => pair rfl (dec (by omega))) (fun h4 => pair rfl (decide_eq_false (by omega)).symm)) (fun h3 => pair rfl (decide_eq_false (by omega)).symm))) (fun h1 => three (fun h3 => three (fun h4 => pair rfl (dec (by omega))) (fun h4 => pair rfl (decide_eq_false (by omega)).symm)) (fun h3 => pair rfl (decide_eq_false (by omega)).symm))
theorem add16 (k : Nat) (x y : Int) (hx : -32768 ≤ x ∧ x < 32768) (hy : -32768 ≤ y ∧ y < 32768) :
    mathutil_AddOverflowInt16.f (k + 1) x y = some (IntKind.i16.wrap (x + y), !decide (-32768 ≤ x + y ∧ x + y < 32768)) := by
  rw [← decide_not]
  simp only [mathutil_AddOverflowInt16.f, mathutil_AddOverflowInt16.j0, IntKind.wrap_u16, decide_eq_true_eq, Bool.false_eq_true, if_false]
  have e := i16_is (x + y)
  generalize IntKind.i16.wrap (x + y) = z at *
  refine three (fun h1 => three (fun h2 => pair rfl (dec (by omega))) (fun h2 => three (fun h3 => three (fun h4 => pair rfl (dec (by omega))) (fun h4 => pair rfl (decide_eq_false (by omega)).symm)) (fun h3 => pair rfl (decide_eq_false (by omega)).symm))) (fun h1 => three (fun h3 => three (fun h4 => pair rfl (dec (by omega))) (fun h4 => pair rfl (decide_eq_false (by omega)).symm)) (fun h3 => pair rfl (decide_eq_false (by omega)).symm))
theorem add32 (k : Nat) (x y : Int) (hx : -2147483648 ≤ x ∧ x < 2147483648) (hy : -2147483648 ≤ y ∧ y < 2147483648) :
    mathutil_AddOverflowInt32.f (k + 1) x y = some (wrap32 (x + y), !decide (-2147483648 ≤ x + y ∧ x + y < 2147483648)) := by
  rw [← decide_not]
  simp only [mathutil_AddOverflowInt32.f, mathutil_AddOverflowInt32.j0, decide_eq_true_eq, Bool.false_eq_true, if_false]
  have e := i32_is (x + y)
  generalize wrap32 (x + y) = z at *
  refine three (fun h1 => three (fun h2 => pair rfl (dec (by omega))) (fun h2 => three (fun h3 => three (fun h4 => pair rfl (dec (by omega))) (fun h4 => pair rfl (decide_eq_false (by omega)).symm)) (fun h3 => pair rfl (decide_eq_false (by omega)).symm))) (fun h1 => three (fun h3 => three (fun h4 => pair rfl (dec (by omega))) (fun h4 => pair rfl (decide_eq_false (by omega)).symm)) (fun h3 => pair rfl (decide_eq_false (by omega)).symm))
theorem add64 (k : Nat) (x y : Int) (hx : -9223372036854775808 ≤ x ∧ x < 9223372036854775808) (hy : -9223372036854775808 ≤ y ∧ y < 9223372036854775808) :
    mathutil_AddOverflowInt64.f (k + 1) x y = some (wrap64 (x + y), !decide (-9223372036854775808 ≤ x + y ∧ x + y < 9223372036854775808)) := by
  rw [← decide_not]
  simp only [mathutil_AddOverflowInt64.f, mathutil_AddOverflowInt64.j0, IntKind.wrap_u64, decide_eq_true_eq, Bool.false_eq_true, if_false]
  have e := w64 (x + y)
  generalize wrap64 (x + y) = z at *
  refine three (fun h1 => three (fun h2 => pair rfl (dec (by omega))) (fun h2 => three (fun h3 => three (fun h4 => pair rfl (dec (by omega))) (fun h4 => pair rfl (decide_eq_false (by omega)).symm)) (fun h3 => pair rfl (decide_eq_false (by omega)).symm))) (fun h1 => three (fun h3 => three (fun h4 => pair rfl (dec (by omega))) (fun h4 => pair rfl (decide_eq_false (by omega)).symm)) (fun h3 => pair rfl (decide_eq_false (by omega)).symm))
theorem sub8 (k : Nat) (x y : Int) (hx : -128 ≤ x ∧ x < 128) (hy : -128 ≤ y ∧ y < 128) :
    mathutil_SubOverflowInt8.f (k + 1) x y = some (IntKind.i8.wrap (x - y), !decide (-128 ≤ x - y ∧ x - y < 128)) := by
  rw [← decide_not]
  simp only [mathutil_SubOverflowInt8.f, mathutil_SubOverflowInt8.j0, decide_eq_true_eq, Bool.false_eq_true, if_false]
  have e := i8_is (x - y)
  generalize IntKind.i8.wrap (x - y) = z at *
  refine three (fun h1 => three (fun h2 => pair rfl (dec (by omega))) (fun h2 => three (fun h3 => three (fun h4 => pair rfl (dec (by omega))) (fun h4 => pair rfl (decide_eq_false (by omega)).symm)) (fun h3 => pair rfl (decide_eq_false (by omega)).symm))) (fun h1 => three (fun h3 => three (fun h4 => pair rfl (dec (by omega))) (fun h4 => pair rfl (decide_eq_false (by omega)).symm)) (fun h3 => pair rfl (decide_eq_false (by omega)).symm))
theorem sub16 (k : Nat) (x y : Int) (hx : -32768 ≤ x ∧ x < 32768) (hy : -32768 ≤ y ∧ y < 32768) :
    mathutil_SubOverflowInt16.f (k + 1) x y = some (IntKind.i16.wrap (x - y), !decide (-32768 ≤ x - y ∧ x - y < 32768)) := by
  rw [← decide_not]
  simp only [mathutil_SubOverflowInt16.f, mathutil_SubOverflowInt16.j0, IntKind.wrap_u16, decide_eq_true_eq, Bool.false_eq_true, if_false]
  have e := i16_is (x - y)
  generalize IntKind.i16.wrap (x - y) = z at *
  refine three (fun h1 => three (fun h2 => pair rfl (dec (by omega))) (fun h2 => three (fun h3 => three (fun h4 => pair rfl (dec (by omega))) (fun h4 => pair rfl (decide_eq_false (by omega)).symm)) (fun h3 => pair rfl (decide_eq_false (by omega)).symm))) (fun h1 => three (fun h3 => three (fun h4 => pair rfl (dec (by omega))) (fun h4 => pair rfl (decide_eq_false (by omega)).symm)) (fun h3 => pair rfl (decide_eq_false (by omega)).symm))
theorem sub32 (k : Nat) (x y : Int) (hx : -2147483648 ≤ x ∧ x < 2147483648) (hy : -2147483648 ≤ y ∧ y < 2147483648) :
    mathutil_SubOverflowInt32.f (k + 1) x y = some (wrap32 (x - y), !decide (-2147483648 ≤ x - y ∧ x - y < 2147483648)) := by
  rw [← decide_not]
  simp only [mathutil_SubOverflowInt32.f, mathutil_SubOverflowInt32.j0, decide_eq_true_eq, Bool.false_eq_true, if_false]
  have e := i32_is (x - y)
  generalize wrap32 (x - y) = z at *
  refine three (fun h1 => three (fun h2 => pair rfl (dec (by omega))) (fun h2 => three (fun h3 => three (fun h4 => pair rfl (dec (by omega))) (fun h4 => pair rfl (decide_eq_false (by omega)).symm)) (fun h3 => pair rfl (decide_eq_false (by omega)).symm))) (fun h1 => three (fun h3 => three (fun h4 => pair rfl (dec (by omega))) (fun h4 => pair rfl (decide_eq_false (by omega)).symm)) (fun h3 => pair rfl (decide_eq_false (by omega)).symm))
theorem sub64 (k : Nat) (x y : Int) (hx : -9223372036854775808 ≤ x ∧ x < 9223372036854775808) (hy : -9223372036854775808 ≤ y ∧ y < 9223372036854775808) :
    mathutil_SubOverflowInt64.f (k + 1) x y = some (wrap64 (x - y), !decide (-9223372036854775808 ≤ x - y ∧ x - y < 9223372036854775808)) := by
  rw [← decide_not]
  simp only [mathutil_SubOverflowInt64.f, mathutil_SubOverflowInt64.j0, IntKind.wrap_u64, decide_eq_true_eq, Bool.false_eq_true, if_false]
  have e := w64 (x - y)
  generalize wrap64 (x - y) = z at *
  refine three (fun h1 => three (fun h2 => pair rfl (dec (by omega))) (fun h2 => three (fun h3 => three (fun h4 => pair rfl (dec (by omega))) (fun h4 => pair rfl (decide_eq_false (by omega)).symm)) (fun h3 => pair rfl (decide_eq_false (by omega)).symm))) (fun h1 => three (fun h3 => three (fun h4 => pair rfl (dec (by omega))) (fun h4 => pair rfl (decide_eq_false (by omega)).symm)) (fun h3 => pair rfl (decide_eq_false (by omega)).symm))
theorem impl_add8 (k : Nat) (x y : Int) (hx : -128 ≤ x ∧ x < 128) (hy : -128 ≤ y ∧ y < 128) : impl_AddOverflow.f (k + 1) 8 x y = some (IntKind.i8.wrap (x + y), !decide (-128 ≤ x + y ∧ x + y < 128)) := by
  have ex : IntKind.i8.wrap x = x := by rw [i8_is]; omega
  have ey : IntKind.i8.wrap y = y := by rw [i8_is]; omega
  have ez : wrap64 (IntKind.i8.wrap (x + y)) = IntKind.i8.wrap (x + y) := by rw [i8_is, w64]; omega
  simp only [impl_AddOverflow.f, ex, ey]
  rw [if_pos trivial, add8 k x y hx hy]; simp only [Option.bind_some, ez]
theorem impl_add16 (k : Nat) (x y : Int) (hx : -32768 ≤ x ∧ x < 32768) (hy : -32768 ≤ y ∧ y < 32768) : impl_AddOverflow.f (k + 1) 16 x y = some (IntKind.i16.wrap (x + y), !decide (-32768 ≤ x + y ∧ x + y < 32768)) := by
  have ex : IntKind.i16.wrap x = x := by rw [i16_is]; omega
  have ey : IntKind.i16.wrap y = y := by rw [i16_is]; omega
  have ez : wrap64 (IntKind.i16.wrap (x + y)) = IntKind.i16.wrap (x + y) := by rw [i16_is, w64]; omega
  simp only [impl_AddOverflow.f, ex, ey]
  rw [if_neg (show ¬ ((16 : Int) = 8) by decide), if_pos trivial, add16 k x y hx hy]; simp only [Option.bind_some, ez]
theorem impl_add32 (k : Nat) (x y : Int) (hx : -2147483648 ≤ x ∧ x < 2147483648) (hy : -2147483648 ≤ y ∧ y < 2147483648) : impl_AddOverflow.f (k + 1) 32 x y = some (wrap32 (x + y), !decide (-2147483648 ≤ x + y ∧ x + y < 2147483648)) := by
  have ex : wrap32 x = x := by rw [i32_is]; omega
  have ey : wrap32 y = y := by rw [i32_is]; omega
  have ez : wrap64 (wrap32 (x + y)) = wrap32 (x + y) := by rw [i32_is, w64]; omega
  simp only [impl_AddOverflow.f, ex, ey]
  rw [if_neg (show ¬ ((32 : Int) = 8) by decide), if_neg (show ¬ ((32 : Int) = 16) by decide), if_pos trivial, add32 k x y hx hy]; simp only [Option.bind_some, ez]
theorem impl_add64 (k : Nat) (x y : Int) (hx : -9223372036854775808 ≤ x ∧ x < 9223372036854775808) (hy : -9223372036854775808 ≤ y ∧ y < 9223372036854775808) : impl_AddOverflow.f (k + 1) 64 x y = some (wrap64 (x + y), !decide (-9223372036854775808 ≤ x + y ∧ x + y < 9223372036854775808)) := by
  simp only [impl_AddOverflow.f]
  rw [if_neg (show ¬ ((64 : Int) = 8) by decide), if_neg (show ¬ ((64 : Int) = 16) by decide), if_neg (show ¬ ((64 : Int) = 32) by decide), if_pos trivial, add64 k x y hx hy]; simp only [Option.bind_some]
theorem impl_sub8 (k : Nat) (x y : Int) (hx : -128 ≤ x ∧ x < 128) (hy : -128 ≤ y ∧ y < 128) : impl_SubOverflow.f (k + 1) 8 x y = some (IntKind.i8.wrap (x - y), !decide (-128 ≤ x - y ∧ x - y < 128)) := by
  have ex : IntKind.i8.wrap x = x := by rw [i8_is]; omega
  have ey : IntKind.i8.wrap y = y := by rw [i8_is]; omega
  have ez : wrap64 (IntKind.i8.wrap (x - y)) = IntKind.i8.wrap (x - y) := by rw [i8_is, w64]; omega
  simp only [impl_SubOverflow.f, ex, ey]
  rw [if_pos trivial, sub8 k x y hx hy]; simp only [Option.bind_some, ez]
theorem impl_sub16 (k : Nat) (x y : Int) (hx : -32768 ≤ x ∧ x < 32768) (hy : -32768 ≤ y ∧ y < 32768) : impl_SubOverflow.f (k + 1) 16 x y = some (IntKind.i16.wrap (x - y), !decide (-32768 ≤ x - y ∧ x - y < 32768)) := by
  have ex : IntKind.i16.wrap x = x := by rw [i16_is]; omega
  have ey : IntKind.i16.wrap y = y := by rw [i16_is]; omega
  have ez : wrap64 (IntKind.i16.wrap (x - y)) = IntKind.i16.wrap (x - y) := by rw [i16_is, w64]; omega
  simp only [impl_SubOverflow.f, ex, ey]
  rw [if_neg (show ¬ ((16 : Int) = 8) by decide), if_pos trivial, sub16 k x y hx hy]; simp only [Option.bind_some, ez]
theorem impl_sub32 (k : Nat) (x y : Int) (hx : -2147483648 ≤ x ∧ x < 2147483648) (hy : -2147483648 ≤ y ∧ y < 2147483648) : impl_SubOverflow.f (k + 1) 32 x y = some (wrap32 (x - y), !decide (-2147483648 ≤ x - y ∧ x - y < 2147483648)) := by
  have ex : wrap32 x = x := by rw [i32_is]; omega
  have ey : wrap32 y = y := by rw [i32_is]; omega
  have ez : wrap64 (wrap32 (x - y)) = wrap32 (x - y) := by rw [i32_is, w64]; omega
  simp only [impl_SubOverflow.f, ex, ey]
  rw [if_neg (show ¬ ((32 : Int) = 8) by decide), if_neg (show ¬ ((32 : Int) = 16) by decide), if_pos trivial, sub32 k x y hx hy]; simp only [Option.bind_some, ez]
theorem impl_sub64 (k : Nat) (x y : Int) (hx : -9223372036854775808 ≤ x ∧ x < 9223372036854775808) (hy : -9223372036854775808 ≤ y ∧ y < 9223372036854775808) : impl_SubOverflow.f (k + 1) 64 x y = some (wrap64 (x - y), !decide (-9223372036854775808 ≤ x - y ∧ x - y < 9223372036854775808)) := by
  simp only [impl_SubOverflow.f]
  rw [if_neg (show ¬ ((64 : Int) = 8) by decide), if_neg (show ¬ ((64 : Int) = 16) by decide), if_neg (show ¬ ((64 : Int) = 32) by decide), if_pos trivial, sub64 k x y hx hy]; simp only [Option.bind_some]


theorem bd {x y B : Int} (_hB : 0 ≤ B) (hx : -B ≤ x ∧ x ≤ B) (hy : -B ≤ y ∧ y ≤ B) : -(B * B) ≤ x * y ∧ x * y ≤ B * B := by
  have h (u v : Int) (hu : -B ≤ u ∧ u ≤ B) (hv : -B ≤ v ∧ v ≤ B) : u * v ≤ B * B := by
    have a := Int.mul_nonneg (a := B - u) (b := B + v) (by omega) (by omega)
    have b := Int.mul_nonneg (a := B + u) (b := B - v) (by omega) (by omega)
    have e : (B - u) * (B + v) + (B + u) * (B - v) = 2 * (B * B) - 2 * (u * v) := by grind
    omega
  refine ⟨?_, h x y hx hy⟩
  have := h x (-y) hx (by omega)
  rw [Int.mul_neg] at this
  omega

theorem mul8 (x y : Int) (hx : -128 ≤ x ∧ x < 128) (hy : -128 ≤ y ∧ y < 128) :
    mathutil_MulOverflowInt8.f x y = some (IntKind.i8.wrap (x * y), !decide (-128 ≤ x * y ∧ x * y < 128)) := by
  have hb := bd (x := x) (y := y) (B := 128) (by omega) (by omega) (by omega)
  have e1 : IntKind.i16.wrap x = x := by rw [i16_is]; omega
  have e2 : IntKind.i16.wrap y = y := by rw [i16_is]; omega
  have e3 : IntKind.i16.wrap (x * y) = x * y := by rw [i16_is]; omega
  have e0 : IntKind.i8.wrap 0 = 0 := by rw [i8_is]; omega
  rw [← decide_not]
  simp only [mathutil_MulOverflowInt8.f, e1, e2, e3]
  by_cases h1 : x = 0
  · subst h1; rw [if_pos rfl, Int.zero_mul, e0]; rfl
  · rw [if_neg h1]
    by_cases h2 : y = 0
    · subst h2; rw [if_pos rfl, Int.mul_zero, e0]; rfl
    · rw [if_neg h2]
      split
      · exact pair rfl (decide_eq_true (by omega)).symm
      · exact pair rfl (dec (by omega))
theorem mul16 (x y : Int) (hx : -32768 ≤ x ∧ x < 32768) (hy : -32768 ≤ y ∧ y < 32768) :
    mathutil_MulOverflowInt16.f x y = some (IntKind.i16.wrap (x * y), !decide (-32768 ≤ x * y ∧ x * y < 32768)) := by
  have hb := bd (x := x) (y := y) (B := 32768) (by omega) (by omega) (by omega)
  have e1 : wrap32 x = x := by rw [i32_is]; omega
  have e2 : wrap32 y = y := by rw [i32_is]; omega
  have e3 : wrap32 (x * y) = x * y := by rw [i32_is]; omega
  have e0 : IntKind.i16.wrap 0 = 0 := by rw [i16_is]; omega
  rw [← decide_not]
  simp only [mathutil_MulOverflowInt16.f, e1, e2, e3]
  by_cases h1 : x = 0
  · subst h1; rw [if_pos rfl, Int.zero_mul, e0]; rfl
  · rw [if_neg h1]
    by_cases h2 : y = 0
    · subst h2; rw [if_pos rfl, Int.mul_zero, e0]; rfl
    · rw [if_neg h2]
      split
      · exact pair rfl (decide_eq_true (by omega)).symm
      · exact pair rfl (dec (by omega))
theorem mul32 (x y : Int) (hx : -2147483648 ≤ x ∧ x < 2147483648) (hy : -2147483648 ≤ y ∧ y < 2147483648) :
    mathutil_MulOverflowInt32.f x y = some (wrap32 (x * y), !decide (-2147483648 ≤ x * y ∧ x * y < 2147483648)) := by
  have hb := bd (x := x) (y := y) (B := 2147483648) (by omega) (by omega) (by omega)
  have e1 : wrap64 x = x := by rw [w64]; omega
  have e2 : wrap64 y = y := by rw [w64]; omega
  have e3 : wrap64 (x * y) = x * y := by rw [w64]; omega
  have e0 : wrap32 0 = 0 := by rw [i32_is]; omega
  rw [← decide_not]
  simp only [mathutil_MulOverflowInt32.f, e1, e2, e3]
  by_cases h1 : x = 0
  · subst h1; rw [if_pos rfl, Int.zero_mul, e0]; rfl
  · rw [if_neg h1]
    by_cases h2 : y = 0
    · subst h2; rw [if_pos rfl, Int.mul_zero, e0]; rfl
    · rw [if_neg h2]
      split
      · exact pair rfl (decide_eq_true (by omega)).symm
      · exact pair rfl (dec (by omega))

/-- a product that has no room, divided again, is not what it was -/
theorem back {x y : Int} (hx : -9223372036854775808 < x ∧ x < 9223372036854775808) (hy : -9223372036854775808 < y ∧ y < 9223372036854775808) (hy0 : y ≠ 0) :
    (wrap64 (Int.tdiv (wrap64 (x * y)) y) != x) = !decide (-9223372036854775808 ≤ x * y ∧ x * y < 9223372036854775808) := by
  by_cases h : -9223372036854775808 ≤ x * y ∧ x * y < 9223372036854775808
  · have e : wrap64 (x * y) = x * y := by rw [w64]; omega
    have e2 : wrap64 x = x := by rw [w64]; omega
    rw [decide_eq_true h, e, Int.mul_tdiv_cancel _ hy0, e2]; simp
  · rw [decide_eq_false h]
    simp only [bne_iff_ne, Bool.not_false, ne_eq]
    intro hc
    have hr : ∃ k, wrap64 (x * y) = x * y - k * 18446744073709551616 ∧ -9223372036854775808 ≤ wrap64 (x * y) ∧ wrap64 (x * y) < 9223372036854775808 := by
      refine ⟨(x * y + 9223372036854775808) / 18446744073709551616, ?_, ?_, ?_⟩ <;> rw [w64] <;> omega
    obtain ⟨k, hk, r0, r1⟩ := hr
    generalize wrap64 (x * y) = r at *
    have hd := Int.tmod_add_tdiv_mul r y
    have hm1 : Int.tmod r y < 9223372036854775808 ∧ -9223372036854775808 < Int.tmod r y := by
      have hl : (Int.tmod r y).natAbs < y.natAbs := by
        rw [Int.natAbs_tmod]; exact Nat.mod_lt _ (by omega)
      omega
    have hq : -9223372036854775808 ≤ Int.tdiv r y ∧ Int.tdiv r y ≤ 9223372036854775808 := by
      have := Int.natAbs_tdiv_le_natAbs r y
      omega
    generalize Int.tmod r y = z at *
    generalize Int.tdiv r y = q at *
    by_cases hq2 : q = 9223372036854775808
    · rw [hq2] at hc
      rw [w64] at hc; omega
    · have : wrap64 q = q := by rw [w64]; omega
      rw [this] at hc
      subst hc
      omega

theorem mul64 (k : Nat) (x y : Int) (hx : -9223372036854775808 ≤ x ∧ x < 9223372036854775808) (hy : -9223372036854775808 ≤ y ∧ y < 9223372036854775808) :
    mathutil_MulOverflowInt64.f (k + 1) x y = some (wrap64 (x * y), !decide (-9223372036854775808 ≤ x * y ∧ x * y < 9223372036854775808)) := by
  have yes (z : Int) (h : -9223372036854775808 ≤ x * y ∧ x * y < 9223372036854775808) : mathutil_MulOverflowInt64.j0 (k + 1) x y z true = some (z, !decide (-9223372036854775808 ≤ x * y ∧ x * y < 9223372036854775808)) := by
    rw [decide_eq_true h]; simp [mathutil_MulOverflowInt64.j0]
  simp only [mathutil_MulOverflowInt64.f]
  by_cases h1 : x = 0
  · rw [if_pos h1]; exact yes _ (by subst h1; rw [Int.zero_mul]; omega)
  · rw [if_neg h1]
    by_cases h2 : y = 0
    · rw [if_pos h2]; exact yes _ (by subst h2; rw [Int.mul_zero]; omega)
    · rw [if_neg h2]
      by_cases h3 : x = 1
      · rw [if_pos h3]; exact yes _ (by subst h3; rw [Int.one_mul]; omega)
      · rw [if_neg h3]
        by_cases h4 : y = 1
        · rw [show (y == 1) = true by rw [beq_iff_eq]; exact h4]; exact yes _ (by subst h4; rw [Int.mul_one]; omega)
        · rw [show (y == 1) = false by rw [beq_eq_false_iff_ne]; exact h4]
          simp only [mathutil_MulOverflowInt64.j0]
          rw [if_neg (by simp)]
          by_cases h5 : x = -9223372036854775808
          · rw [if_pos h5, decide_eq_false (by subst h5; omega)]; rfl
          · rw [if_neg h5]
            by_cases h6 : y = -9223372036854775808
            · rw [if_pos h6, decide_eq_false (by subst h6; omega)]; rfl
            · rw [if_neg h6, if_neg h2, back (by omega) (by omega) h2]

theorem impl_mul8 (k : Nat) (x y : Int) (hx : -128 ≤ x ∧ x < 128) (hy : -128 ≤ y ∧ y < 128) : impl_MulOverflow.f (k + 1) 8 x y = some (IntKind.i8.wrap (x * y), !decide (-128 ≤ x * y ∧ x * y < 128)) := by
  have ex : IntKind.i8.wrap x = x := by rw [i8_is]; omega
  have ey : IntKind.i8.wrap y = y := by rw [i8_is]; omega
  have ez : wrap64 (IntKind.i8.wrap (x * y)) = IntKind.i8.wrap (x * y) := by rw [i8_is, w64]; omega
  simp only [impl_MulOverflow.f, ex, ey]
  rw [if_pos trivial, mul8 x y hx hy]; simp only [Option.bind_some, ez]
theorem impl_mul16 (k : Nat) (x y : Int) (hx : -32768 ≤ x ∧ x < 32768) (hy : -32768 ≤ y ∧ y < 32768) : impl_MulOverflow.f (k + 1) 16 x y = some (IntKind.i16.wrap (x * y), !decide (-32768 ≤ x * y ∧ x * y < 32768)) := by
  have ex : IntKind.i16.wrap x = x := by rw [i16_is]; omega
  have ey : IntKind.i16.wrap y = y := by rw [i16_is]; omega
  have ez : wrap64 (IntKind.i16.wrap (x * y)) = IntKind.i16.wrap (x * y) := by rw [i16_is, w64]; omega
  simp only [impl_MulOverflow.f, ex, ey]
  rw [if_neg (show ¬ ((16 : Int) = 8) by decide), if_pos trivial, mul16 x y hx hy]; simp only [Option.bind_some, ez]
theorem impl_mul32 (k : Nat) (x y : Int) (hx : -2147483648 ≤ x ∧ x < 2147483648) (hy : -2147483648 ≤ y ∧ y < 2147483648) : impl_MulOverflow.f (k + 1) 32 x y = some (wrap32 (x * y), !decide (-2147483648 ≤ x * y ∧ x * y < 2147483648)) := by
  have ex : wrap32 x = x := by rw [i32_is]; omega
  have ey : wrap32 y = y := by rw [i32_is]; omega
  have ez : wrap64 (wrap32 (x * y)) = wrap32 (x * y) := by rw [i32_is, w64]; omega
  simp only [impl_MulOverflow.f, ex, ey]
  rw [if_neg (show ¬ ((32 : Int) = 8) by decide), if_neg (show ¬ ((32 : Int) = 16) by decide), if_pos trivial, mul32 x y hx hy]; simp only [Option.bind_some, ez]
theorem impl_mul64 (k : Nat) (x y : Int) (hx : -9223372036854775808 ≤ x ∧ x < 9223372036854775808) (hy : -9223372036854775808 ≤ y ∧ y < 9223372036854775808) : impl_MulOverflow.f (k + 1) 64 x y = some (wrap64 (x * y), !decide (-9223372036854775808 ≤ x * y ∧ x * y < 9223372036854775808)) := by
  simp only [impl_MulOverflow.f]
  rw [if_neg (show ¬ ((64 : Int) = 8) by decide), if_neg (show ¬ ((64 : Int) = 16) by decide), if_neg (show ¬ ((64 : Int) = 32) by decide), if_pos trivial, mul64 k x y hx hy]; simp only [Option.bind_some]

theorem adds_is (k : Nat) : laws_adds.f (k + 1) = some true := by
  have e1 : IntKind.i8.wrap (3 + 4) = 7 := by rw [i8_is]; omega
  have e2 : IntKind.i8.wrap (9 - 4) = 5 := by rw [i8_is]; omega
  have e3 : IntKind.i8.wrap (3 * 4) = 12 := by rw [i8_is]; omega
  simp only [laws_adds.f, impl_add8 k 3 4 (by omega) (by omega), impl_sub8 k 9 4 (by omega) (by omega), impl_mul8 k 3 4 (by omega) (by omega), Option.bind_some, e1, e2, e3]
  simp

theorem half_bd {b c : Int} (h0 : 0 ≤ b) (h1 : b ≤ 4294967295) (h2 : 0 ≤ c) (h3 : c ≤ 4294967295) : 0 ≤ b * c ∧ b * c ≤ 18446744065119617025 := by
  have := Int.mul_le_mul (a := b) (b := c) (c := 4294967295) (d := 4294967295) (by omega) (by omega) (by omega) (by omega)
  exact ⟨Int.mul_nonneg h0 h2, by omega⟩
theorem top_bd {b c : Int} (h0 : 0 ≤ b) (h1 : b ≤ 2147483648) (h2 : 0 ≤ c) (h3 : c ≤ 2147483648) : 0 ≤ b * c ∧ b * c ≤ 4611686018427387904 := by
  have := Int.mul_le_mul (a := b) (b := c) (c := 2147483648) (d := 2147483648) (by omega) (by omega) (by omega) (by omega)
  exact ⟨Int.mul_nonneg h0 h2, by omega⟩
theorem sh0 (u : Int) : shr .u64 u 0 = u := by
  have e2 : min (0 : Int).toNat (IntKind.bits .u64) = 0 := by decide
  simp only [shr, e2]; omega
theorem sh32 (u : Int) : shr .u64 u 32 = u / 4294967296 := by
  have e2 : min (32 : Int).toNat (IntKind.bits .u64) = 32 := by decide
  simp only [shr, e2]; omega
theorem c0 : wrap64 (32 * 0) = 0 := by rw [w64]; omega
theorem c1 : wrap64 (32 * 1) = 32 := by rw [w64]; omega
theorem p00 : wrap64 (0 + 0) = 0 := by rw [w64]; omega
theorem p01 : wrap64 (0 + 1) = 1 := by rw [w64]; omega
theorem p10 : wrap64 (1 + 0) = 1 := by rw [w64]; omega
theorem p11 : wrap64 (1 + 1) = 2 := by rw [w64]; omega

/-- the magnitudes' product, part by part -/
theorem prod_loop (k : Nat) (x y u v : Int) (hu : 0 ≤ u ∧ u ≤ 9223372036854775808) (hv : 0 ≤ v ∧ v ≤ 9223372036854775808) :
    spec_Product.l0 (k + 9) x y u v 0 0 0 = spec_Product.l0 (k + 1) x y u v 2 (u * v / 18446744073709551616) (u * v % 18446744073709551616) := by
  obtain ⟨uh, euh⟩ : ∃ uh, uh = u / 4294967296 := ⟨_, rfl⟩
  obtain ⟨ul, eul⟩ : ∃ ul, ul = u % 4294967296 := ⟨_, rfl⟩
  obtain ⟨vh, evh⟩ : ∃ vh, vh = v / 4294967296 := ⟨_, rfl⟩
  obtain ⟨vl, evl⟩ : ∃ vl, vl = v % 4294967296 := ⟨_, rfl⟩
  have a1 : Go.bits .and .u64 u 4294967295 = ul := by rw [and_mask32 (by omega) (by omega), eul]
  have a2 : Go.bits .and .u64 v 4294967295 = vl := by rw [and_mask32 (by omega) (by omega), evl]
  have a3 : Go.bits .and .u64 (u / 4294967296) 4294967295 = uh := by rw [and_mask32 (by omega) (by omega), euh]; omega
  have a4 : Go.bits .and .u64 (v / 4294967296) 4294967295 = vh := by rw [and_mask32 (by omega) (by omega), evh]; omega
  have p := half_bd (b := ul) (c := vl) (by omega) (by omega) (by omega) (by omega)
  have q := half_bd (b := ul) (c := vh) (by omega) (by omega) (by omega) (by omega)
  have r := half_bd (b := uh) (c := vl) (by omega) (by omega) (by omega) (by omega)
  have s := top_bd (b := uh) (c := vh) (by omega) (by omega) (by omega) (by omega)
  have e : u * v = ul * vl + ul * vh * 4294967296 + uh * vl * 4294967296 + uh * vh * 18446744073709551616 := by
    have eu : u = uh * 4294967296 + ul := by omega
    have ev : v = vh * 4294967296 + vl := by omega
    rw [eu, ev]; grind
  rw [e]
  clear e euh eul evh evl
  generalize hP : ul * vl = P at *
  generalize hQ : ul * vh = Q at *
  generalize hR : uh * vl = R at *
  generalize hS : uh * vh = S at *
  have wP : IntKind.u64.wrap P = P := by rw [IntKind.wrap_u64]; omega
  have wQ : IntKind.u64.wrap Q = Q := by rw [IntKind.wrap_u64]; omega
  have wR : IntKind.u64.wrap R = R := by rw [IntKind.wrap_u64]; omega
  have wS : IntKind.u64.wrap S = S := by rw [IntKind.wrap_u64]; omega
  obtain ⟨o1, s1⟩ := sum_v 0 P (by omega)
  obtain ⟨o2, s2⟩ := sum_v P (Q * 4294967296) (by omega)
  obtain ⟨o3, s3⟩ := sum_v (P + Q * 4294967296) (R * 4294967296) (by omega)
  obtain ⟨o4, s4⟩ := sum_v (P + Q * 4294967296 + R * 4294967296) (S * 18446744073709551616) (by omega)
  rw [show (0 : Int) / 18446744073709551616 = 0 by omega, show (0 : Int) % 18446744073709551616 = 0 by omega, show P / 18446744073709551616 = 0 by omega, show P % 18446744073709551616 = P by omega, show 0 + P = P by omega, show P / 18446744073709551616 = 0 by omega, show P % 18446744073709551616 = P by omega] at s1
  rw [show P / 18446744073709551616 = 0 by omega, show P % 18446744073709551616 = P by omega] at s2
  rw [show S * 18446744073709551616 / 18446744073709551616 = S by omega, show S * 18446744073709551616 % 18446744073709551616 = 0 by omega] at s4
  have k2 (X : Int) (hX : 0 ≤ X ∧ X ≤ 18446744065119617025) : wrap64 (X / 4294967296) = X * 4294967296 / 18446744073709551616 := by rw [w64]; omega
  have k3 (X : Int) : IntKind.u64.wrap (X * 4294967296) = X * 4294967296 % 18446744073709551616 := IntKind.wrap_u64 _
  have k4 : wrap64 S = S := by rw [w64]; omega
  have t02 : (0 : Int) < 2 := by decide
  have t12 : (1 : Int) < 2 := by decide
  have t22 : ¬ ((2 : Int) < 2) := by decide
  have t00 : (0 : Int) ≤ 0 := by decide
  have t32 : (0 : Int) ≤ 32 := by decide
  have n01 : ¬ ((0 : Int) = 1) := by decide
  have n02 : ¬ ((0 : Int) = 2) := by decide
  have n21 : ¬ ((2 : Int) = 1) := by decide
  have z00 : spec_Product.l0 (k + 9) x y u v 0 0 0 = spec_Product.l1 (k + 8) x y u v 0 0 0 0 0 := by
    show spec_Product.l0 ((k + 8) + 1) x y u v 0 0 0 = _
    simp only [spec_Product.l0, if_pos t02]
  have z01 : spec_Product.l1 (k + 8) x y u v 0 0 0 0 0 = spec_Product.l1 (k + 7) x y u v 0 0 1 0 P := by
    show spec_Product.l1 ((k + 7) + 1) x y u v 0 0 0 0 0 = _
    simp only [spec_Product.l1, if_pos t02, c0, if_pos t00, p00, if_neg n01, if_neg n02, sh0, a1, a2, hP, wP, s1, Option.bind_some, p01]
  have z02 : spec_Product.l1 (k + 7) x y u v 0 0 1 0 P = spec_Product.l1 (k + 6) x y u v 0 0 2 ((P + Q * 4294967296) / 18446744073709551616) ((P + Q * 4294967296) % 18446744073709551616) := by
    show spec_Product.l1 ((k + 6) + 1) x y u v 0 0 1 0 P = _
    simp only [spec_Product.l1, if_pos t12, c0, c1, if_pos t00, if_pos t32, p01, sh0, sh32, a1, a4, hQ, wQ, k2 Q q, k3, s2, Option.bind_some, p11, if_true]
  have z03 (h l : Int) : spec_Product.l1 (k + 6) x y u v 0 0 2 h l = spec_Product.l1 (k + 4) x y u v 1 1 0 h l := by
    show spec_Product.l1 ((k + 4) + 1 + 1) x y u v 0 0 2 h l = _
    simp only [spec_Product.l1, spec_Product.l0, if_neg t22, p01, if_pos t12]
  have z04 : spec_Product.l1 (k + 4) x y u v 1 1 0 ((P + Q * 4294967296) / 18446744073709551616) ((P + Q * 4294967296) % 18446744073709551616) = spec_Product.l1 (k + 3) x y u v 1 1 1 ((P + Q * 4294967296 + R * 4294967296) / 18446744073709551616) ((P + Q * 4294967296 + R * 4294967296) % 18446744073709551616) := by
    show spec_Product.l1 ((k + 3) + 1) x y u v 1 1 0 _ _ = _
    simp only [spec_Product.l1, if_pos t02, c0, c1, if_pos t00, if_pos t32, p10, sh0, sh32, a3, a2, hR, wR, k2 R r, k3, s3, Option.bind_some, p01, if_true]
  have z05 : spec_Product.l1 (k + 3) x y u v 1 1 1 ((P + Q * 4294967296 + R * 4294967296) / 18446744073709551616) ((P + Q * 4294967296 + R * 4294967296) % 18446744073709551616) = spec_Product.l1 (k + 2) x y u v 1 1 2 ((P + Q * 4294967296 + R * 4294967296 + S * 18446744073709551616) / 18446744073709551616) ((P + Q * 4294967296 + R * 4294967296 + S * 18446744073709551616) % 18446744073709551616) := by
    show spec_Product.l1 ((k + 2) + 1) x y u v 1 1 1 _ _ = _
    simp only [spec_Product.l1, if_pos t12, c1, if_pos t32, p11, if_neg n21, sh32, a3, a4, hS, wS, k4, s4, Option.bind_some, if_true]
  have z06 (h l : Int) : spec_Product.l1 (k + 2) x y u v 1 1 2 h l = spec_Product.l0 (k + 1) x y u v 2 h l := by
    show spec_Product.l1 ((k + 1) + 1) x y u v 1 1 2 h l = _
    rw [spec_Product.l1, if_neg t22, p11]
  rw [z00, z01, z02, z03, z04, z05, z06]

theorem product_is (k : Nat) (x y : Int) (hx : -9223372036854775808 ≤ x ∧ x < 9223372036854775808) (hy : -9223372036854775808 ≤ y ∧ y < 9223372036854775808) :
    spec_Product.f (k + 11) x y = some (x * y / 18446744073709551616, x * y % 18446744073709551616) := by
  have hb := bd (x := x) (y := y) (B := 9223372036854775808) (by omega) (by omega) (by omega)
  have fin (u v : Int) (hu : 0 ≤ u ∧ u ≤ 9223372036854775808) (hv : 0 ≤ v ∧ v ≤ 9223372036854775808) (hs : u * v = if (decide (x < 0) != decide (y < 0)) = true then -(x * y) else x * y) :
      spec_Product.l0 (k + 9) x y u v 0 0 0 = some (x * y / 18446744073709551616, x * y % 18446744073709551616) := by
    rw [prod_loop k x y u v hu hv]
    simp only [spec_Product.l0]
    rw [if_neg (show ¬ ((2 : Int) < 2) by decide)]
    by_cases h : (decide (x < 0) != decide (y < 0)) = true
    · rw [if_pos h] at hs ⊢
      rw [hs, neg_v (-(x * y)) (by omega), Int.neg_neg]; rfl
    · rw [if_neg h] at hs ⊢
      rw [hs]
  have wn (z : Int) (hz : -9223372036854775808 ≤ z ∧ z < 0) : IntKind.u64.wrap (-(IntKind.u64.wrap z)) = -z := by rw [IntKind.wrap_u64, IntKind.wrap_u64]; omega
  have wp (z : Int) (hz : 0 ≤ z ∧ z < 9223372036854775808) : IntKind.u64.wrap z = z := by rw [IntKind.wrap_u64]; omega
  simp only [spec_Product.f, spec_Product.j0, spec_Product.j1]
  by_cases h1 : x < 0
  · rw [if_pos h1, wn x (by omega)]
    by_cases h2 : y < 0
    · rw [if_pos h2, wn y (by omega)]
      exact fin _ _ (by omega) (by omega) (by rw [if_neg (by simp [h1, h2])]; rw [Int.neg_mul_neg])
    · rw [if_neg h2, wp y (by omega)]
      exact fin _ _ (by omega) (by omega) (by rw [if_pos (by simp [h1]; omega)]; rw [Int.neg_mul])
  · rw [if_neg h1, wp x (by omega)]
    by_cases h2 : y < 0
    · rw [if_pos h2, wn y (by omega)]
      exact fin _ _ (by omega) (by omega) (by rw [if_pos (by simp [h2]; omega)]; rw [Int.mul_neg])
    · rw [if_neg h2, wp y (by omega)]
      exact fin _ _ (by omega) (by omega) (by rw [if_neg (by simp [h1, h2])])

theorem last (w x y B : Int) (sg : Int → Int) (hx : -9223372036854775808 ≤ x ∧ x < 9223372036854775808) (hy : -9223372036854775808 ≤ y ∧ y < 9223372036854775808)
    (hi : impl_MulOverflow.f (10 + 1) w x y = some (sg (x * y), !decide (-B ≤ x * y ∧ x * y < B))) (hf : spec_Fits.f w ((x * y) / 18446744073709551616) ((x * y) % 18446744073709551616) = some (decide (-B ≤ x * y ∧ x * y < B)))
    (hB : B ≤ 9223372036854775808) (hsg : -B ≤ x * y ∧ x * y < B → sg (x * y) = x * y) :
    ((impl_MulOverflow.f 11 w x y).bind fun bt163 => ((spec_Product.f 11 x y).bind fun bt165 => ((laws_adds.f 11).bind fun t168 => (if t168 = true then ((spec_Fits.f w bt165.1 bt165.2).bind fun t169 => (if (bt163.2 == (!t169)) = true then (if bt163.2 = true then (some true) else ((spec_WideOf.f bt163.1).bind fun bt170 => (some (bt170.1 == bt165.1 && (bt170.2 == bt165.2))))) else (some false))) else (some false))))) = some true := by
  have hp := product_is 0 x y hx hy
  simp only [Nat.zero_add] at hp
  have ha := adds_is 10
  have hi' : impl_MulOverflow.f 11 w x y = some (sg (x * y), !decide (-B ≤ x * y ∧ x * y < B)) := hi
  have ha' : laws_adds.f 11 = some true := ha
  simp only [hi', hp, spec_WideOf.f, Option.bind_some, ha', if_true, hf]
  by_cases h : -B ≤ x * y ∧ x * y < B
  · rw [decide_eq_true h, hsg h]
    have e1 : (x * y) / 9223372036854775808 = (x * y) / 18446744073709551616 := by omega
    have e2 : IntKind.u64.wrap (x * y) = (x * y) % 18446744073709551616 := IntKind.wrap_u64 _
    simp [e1, e2]
  · rw [decide_eq_false h]; simp

theorem FnMulOverflow : laws_FnMulOverflow.Pure := by
  intro w a b _ ha hb
  have ha' := b_i64 ha
  have hb' := b_i64 hb
  refine ⟨11, ?_⟩
  simp only [laws_FnMulOverflow.f]
  by_cases e8 : w = 8
  · subst e8
    have h1 := i8_is a
    have h2 := i8_is b
    rw [s8, s8]
    simp only [spec_IsWidth.f, Option.bind_some, if_true]
    exact last 8 _ _ 128 _ (by omega) (by omega) (impl_mul8 10 _ _ (by omega) (by omega)) (fits8 _) (by omega) (by intro h; rw [i8_is]; omega)
  · by_cases e16 : w = 16
    · subst e16
      have h1 := i16_is a
      have h2 := i16_is b
      rw [s16, s16]
      simp only [spec_IsWidth.f, Option.bind_some, if_true]
      exact last 16 _ _ 32768 _ (by omega) (by omega) (impl_mul16 10 _ _ (by omega) (by omega)) (fits16 _) (by omega) (by intro h; rw [i16_is]; omega)
    · by_cases e32 : w = 32
      · subst e32
        have h1 := i32_is a
        have h2 := i32_is b
        rw [s32, s32]
        simp only [spec_IsWidth.f, Option.bind_some, if_true]
        exact last 32 _ _ 2147483648 _ (by omega) (by omega) (impl_mul32 10 _ _ (by omega) (by omega)) (fits32 _) (by omega) (by intro h; rw [i32_is]; omega)
      · by_cases e64 : w = 64
        · subst e64
          have h1 := w64 a
          have h2 := w64 b
          rw [s64, s64]
          simp only [spec_IsWidth.f, Option.bind_some]
          exact last 64 _ _ 9223372036854775808 _ (by omega) (by omega) (impl_mul64 10 _ _ (by omega) (by omega)) (fits64 _) (by omega) (by intro h; rw [w64]; omega)
        · simp [spec_IsWidth.f, e8, e16, e32, e64, show laws_adds.f 11 = some true from adds_is 10]

end Go.Proofs.Ytfnimhjabbnldaa.Pure
