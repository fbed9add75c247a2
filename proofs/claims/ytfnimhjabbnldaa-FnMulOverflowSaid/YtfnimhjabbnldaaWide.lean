/- Contracts of the reference's numbers of 128 bits: WideOf, Sum, Negative, Compare, Fits. -/
import Derived.Test.YtfnimhjabbnldaaProg
import Derived.Below
import Derived.Deep.Draws
import Derived.OwnWalk
import Derived.Tactics
import Derived.Laws.Slices
import Derived.WalkKit
import Derived.KernelRfl
import Derived.RowKit3
import Derived.WideLaws
import Derived.Laws.BitsLemmas
import Derived.RowKit
import Derived.Laws.ResultCell
import Derived.Outline
import Derived.Lib.Hide
import Derived.WalkLawsBesides
import Derived.Test.YtfnimhjabbnldaaCom
namespace Go.Proofs.Ytfnimhjabbnldaa.Wide
open Go Go.RowKit Go.Com
set_option linter.unusedVariables false

theorem wideOf_any (n : Int) (h0 : -9223372036854775808 ≤ n) (h1 : n < 9223372036854775808) (w : World) :
    Calls Try.prog 22 #[.int .i64 n] w fun e w' => e = .returned (.agg #[.int .i64 (n / 9223372036854775808), .int .u64 (n % 18446744073709551616)]) ∧ Below w.heap.size w w' := by
  go_enter Try.func22, Try.ntmps22
  go_wp2
  exact bodyPost_ret (v := .agg #[.int .i64 (n / 9223372036854775808), .int .u64 (n % 18446744073709551616)]) (by simp [results, Try.results22, go_sem, IntKind.wrap_u64]) rfl ⟨rfl, (Below.refl _ _).alloc (Nat.le_refl _) _⟩

/-- the carry of the lower halves -/
def lowC (b d : Int) : Bool := decide (IntKind.u64.wrap (b + d) < b)
theorem tuple3 {x x' y y' : Int} {z z' : Bool} (h1 : x = x') (h2 : y = y') (h3 : z = z') :
    Ending.returned (.tuple #[.agg #[.int .i64 x, .int .u64 y], .bool z]) = Ending.returned (.tuple #[.agg #[.int .i64 x', .int .u64 y'], .bool z']) := by rw [h1, h2, h3]

/-- the upper half of a sum, and its carry, in the code's own words -/
def rawHi (a b c d : Int) : Int := if IntKind.u64.wrap (b + d) < b then wrap64 (IntKind.u64.wrap (IntKind.u64.wrap (IntKind.u64.wrap a + IntKind.u64.wrap c) + 1)) else wrap64 (IntKind.u64.wrap (IntKind.u64.wrap (IntKind.u64.wrap a + IntKind.u64.wrap c)))
def rawOv (a b c d : Int) : Bool := decide (IntKind.u64.wrap (IntKind.u64.wrap a + IntKind.u64.wrap c) < IntKind.u64.wrap a) || (if IntKind.u64.wrap (b + d) < b then decide (IntKind.u64.wrap (IntKind.u64.wrap (IntKind.u64.wrap a + IntKind.u64.wrap c) + 1) < 1) else decide (IntKind.u64.wrap (IntKind.u64.wrap (IntKind.u64.wrap a + IntKind.u64.wrap c)) < 0))

theorem sum_raw (a b c d : Int) (w : World) :
    Calls Try.prog 13 #[.agg #[.int .i64 a, .int .u64 b], .agg #[.int .i64 c, .int .u64 d]] w fun e w' =>
      e = .returned (.tuple #[.agg #[.int .i64 (rawHi a b c d), .int .u64 (IntKind.u64.wrap (b + d))], .bool (rawOv a b c d)]) ∧ Below w.heap.size w w' := by
  by_cases h1 : IntKind.u64.wrap (b + d) < b
  · by_cases h2 : IntKind.u64.wrap (IntKind.u64.wrap a + IntKind.u64.wrap c) < IntKind.u64.wrap a
    · have g1 : decide (IntKind.u64.wrap (b + d) < b) = true := decide_eq_true h1
      have g2 : decide (IntKind.u64.wrap (IntKind.u64.wrap a + IntKind.u64.wrap c) < IntKind.u64.wrap a) = true := decide_eq_true h2
      have K1 := Lib.hid h1; have K2 := Lib.hid h2; clear h1 h2
      go_enter Try.func13, Try.ntmps13
      go_wp2
      refine bodyPost_ret (v := .tuple #[.agg #[.int .i64 (wrap64 (IntKind.u64.wrap (IntKind.u64.wrap (IntKind.u64.wrap a + IntKind.u64.wrap c) + 1))), .int .u64 (IntKind.u64.wrap (b + d))], .bool (true)]) (by simp [results, Try.results13, go_sem]) rfl ⟨tuple3 ?_ rfl ?_, (((Below.refl _ _).alloc (Nat.le_refl _) _).alloc (by simp) _).alloc (by simp; omega) _⟩
      · unfold rawHi; rw [if_pos K1.out]
      · unfold rawOv; rw [if_pos K1.out]; simp [g2]
    · have g1 : decide (IntKind.u64.wrap (b + d) < b) = true := decide_eq_true h1
      have g2 : decide (IntKind.u64.wrap (IntKind.u64.wrap a + IntKind.u64.wrap c) < IntKind.u64.wrap a) = false := decide_eq_false h2
      have K1 := Lib.hid h1; have K2 := Lib.hid h2; clear h1 h2
      go_enter Try.func13, Try.ntmps13
      go_wp2
      refine bodyPost_ret (v := .tuple #[.agg #[.int .i64 (wrap64 (IntKind.u64.wrap (IntKind.u64.wrap (IntKind.u64.wrap a + IntKind.u64.wrap c) + 1))), .int .u64 (IntKind.u64.wrap (b + d))], .bool (decide (IntKind.u64.wrap (IntKind.u64.wrap (IntKind.u64.wrap a + IntKind.u64.wrap c) + 1) < 1))]) (by simp [results, Try.results13, go_sem]) rfl ⟨tuple3 ?_ rfl ?_, (((Below.refl _ _).alloc (Nat.le_refl _) _).alloc (by simp) _).alloc (by simp; omega) _⟩
      · unfold rawHi; rw [if_pos K1.out]
      · unfold rawOv; rw [if_pos K1.out]; simp [g2]
  · by_cases h2 : IntKind.u64.wrap (IntKind.u64.wrap a + IntKind.u64.wrap c) < IntKind.u64.wrap a
    · have g1 : decide (IntKind.u64.wrap (b + d) < b) = false := decide_eq_false h1
      have g2 : decide (IntKind.u64.wrap (IntKind.u64.wrap a + IntKind.u64.wrap c) < IntKind.u64.wrap a) = true := decide_eq_true h2
      have K1 := Lib.hid h1; have K2 := Lib.hid h2; clear h1 h2
      go_enter Try.func13, Try.ntmps13
      go_wp2
      refine bodyPost_ret (v := .tuple #[.agg #[.int .i64 (wrap64 (IntKind.u64.wrap (IntKind.u64.wrap (IntKind.u64.wrap a + IntKind.u64.wrap c)))), .int .u64 (IntKind.u64.wrap (b + d))], .bool (true)]) (by simp [results, Try.results13, go_sem]) rfl ⟨tuple3 ?_ rfl ?_, (((Below.refl _ _).alloc (Nat.le_refl _) _).alloc (by simp) _).alloc (by simp; omega) _⟩
      · unfold rawHi; rw [if_neg (Int.not_lt.mpr K1.out)]
      · unfold rawOv; rw [if_neg (Int.not_lt.mpr K1.out)]; simp [g2]
    · have g1 : decide (IntKind.u64.wrap (b + d) < b) = false := decide_eq_false h1
      have g2 : decide (IntKind.u64.wrap (IntKind.u64.wrap a + IntKind.u64.wrap c) < IntKind.u64.wrap a) = false := decide_eq_false h2
      have K1 := Lib.hid h1; have K2 := Lib.hid h2; clear h1 h2
      go_enter Try.func13, Try.ntmps13
      go_wp2
      refine bodyPost_ret (v := .tuple #[.agg #[.int .i64 (wrap64 (IntKind.u64.wrap (IntKind.u64.wrap (IntKind.u64.wrap a + IntKind.u64.wrap c)))), .int .u64 (IntKind.u64.wrap (b + d))], .bool (decide (IntKind.u64.wrap (IntKind.u64.wrap (IntKind.u64.wrap a + IntKind.u64.wrap c)) < 0))]) (by simp [results, Try.results13, go_sem]) rfl ⟨tuple3 ?_ rfl ?_, (((Below.refl _ _).alloc (Nat.le_refl _) _).alloc (by simp) _).alloc (by simp; omega) _⟩
      · unfold rawHi; rw [if_neg (Int.not_lt.mpr K1.out)]
      · unfold rawOv; rw [if_neg (Int.not_lt.mpr K1.out)]; simp [g2]

def sumHi (a b c d : Int) : Int := wrap64 (a + c + (b + d) / 18446744073709551616)
def sumLo (b d : Int) : Int := (b + d) % 18446744073709551616
def sumOv (a b c d : Int) : Bool := decide (18446744073709551616 ≤ a % 18446744073709551616 + c % 18446744073709551616 + (b + d) / 18446744073709551616)
theorem rawHi_is {a b c d : Int} (hb0 : 0 ≤ b) (hb1 : b < 18446744073709551616) (hd0 : 0 ≤ d) (hd1 : d < 18446744073709551616) : rawHi a b c d = sumHi a b c d := by
  simp only [rawHi, sumHi, IntKind.wrap_u64, w64]; split <;> omega
theorem rawOv_is {a b c d : Int} (hb0 : 0 ≤ b) (hb1 : b < 18446744073709551616) (hd0 : 0 ≤ d) (hd1 : d < 18446744073709551616) : rawOv a b c d = sumOv a b c d := by
  simp only [rawOv, sumOv, IntKind.wrap_u64]; rw [Bool.eq_iff_iff, Bool.or_eq_true]
  split <;> (simp only [decide_eq_true_eq]; omega)
theorem sum_any (a b c d : Int) (hb0 : 0 ≤ b) (hb1 : b < 18446744073709551616) (hd0 : 0 ≤ d) (hd1 : d < 18446744073709551616) (w : World) :
    Calls Try.prog 13 #[.agg #[.int .i64 a, .int .u64 b], .agg #[.int .i64 c, .int .u64 d]] w fun e w' =>
      e = .returned (.tuple #[.agg #[.int .i64 (sumHi a b c d), .int .u64 (sumLo b d)], .bool (sumOv a b c d)]) ∧ Below w.heap.size w w' := by
  rw [← rawHi_is hb0 hb1 hd0 hd1, ← rawOv_is hb0 hb1 hd0 hd1, show sumLo b d = IntKind.u64.wrap (b + d) from (IntKind.wrap_u64 _).symm]
  exact sum_raw a b c d w

theorem cmp_eq (a b : Int) (w : World) :
    Calls Try.prog 16 #[.agg #[.int .i64 a, .int .u64 b], .agg #[.int .i64 a, .int .u64 b]] w fun e w' => e = .returned (.int .i64 0) ∧ Below w.heap.size w w' := by
  go_enter Try.func16, Try.ntmps16
  go_wp2
  go_ret
  exact ⟨rfl, ((Below.refl _ _).alloc (Nat.le_refl _) _).alloc (by simp) _⟩

theorem cmp_lt (a b c d : Int) (h : a < c) (w : World) :
    Calls Try.prog 16 #[.agg #[.int .i64 a, .int .u64 b], .agg #[.int .i64 c, .int .u64 d]] w fun e w' => e = .returned (.int .i64 (-1)) ∧ Below w.heap.size w w' := by
  have g0 : (a == c) = false := by rw [beq_eq_false_iff_ne]; omega
  go_enter Try.func16, Try.ntmps16
  go_wp2
  go_ret
  exact ⟨rfl, ((Below.refl _ _).alloc (Nat.le_refl _) _).alloc (by simp) _⟩

theorem cmp_gt (a b c d : Int) (h : c < a) (w : World) :
    Calls Try.prog 16 #[.agg #[.int .i64 a, .int .u64 b], .agg #[.int .i64 c, .int .u64 d]] w fun e w' => e = .returned (.int .i64 (1)) ∧ Below w.heap.size w w' := by
  have g0 : (a == c) = false := by rw [beq_eq_false_iff_ne]; omega
  go_enter Try.func16, Try.ntmps16
  go_wp2
  go_ret
  exact ⟨rfl, ((Below.refl _ _).alloc (Nat.le_refl _) _).alloc (by simp) _⟩

theorem cmp_low_lt (a b d : Int) (h : b < d) (w : World) :
    Calls Try.prog 16 #[.agg #[.int .i64 a, .int .u64 b], .agg #[.int .i64 a, .int .u64 d]] w fun e w' => e = .returned (.int .i64 (-1)) ∧ Below w.heap.size w w' := by
  have g0 : (b == d) = false := by rw [beq_eq_false_iff_ne]; omega
  go_enter Try.func16, Try.ntmps16
  go_wp2
  go_ret
  exact ⟨rfl, ((Below.refl _ _).alloc (Nat.le_refl _) _).alloc (by simp) _⟩

theorem cmp_low_gt (a b d : Int) (h : d < b) (w : World) :
    Calls Try.prog 16 #[.agg #[.int .i64 a, .int .u64 b], .agg #[.int .i64 a, .int .u64 d]] w fun e w' => e = .returned (.int .i64 1) ∧ Below w.heap.size w w' := by
  have g0 : (b == d) = false := by rw [beq_eq_false_iff_ne]; omega
  go_enter Try.func16, Try.ntmps16
  go_wp2
  go_ret
  exact ⟨rfl, ((Below.refl _ _).alloc (Nat.le_refl _) _).alloc (by simp) _⟩

/-- how two numbers compare -/
def cmpV (a b c d : Int) : Int := if a < c ∨ (a = c ∧ b < d) then -1 else if a = c ∧ b = d then 0 else 1

theorem cmp_any (a b c d : Int) (w : World) :
    Calls Try.prog 16 #[.agg #[.int .i64 a, .int .u64 b], .agg #[.int .i64 c, .int .u64 d]] w fun e w' => e = .returned (.int .i64 (cmpV a b c d)) ∧ Below w.heap.size w w' := by
  unfold cmpV
  rcases Int.lt_trichotomy a c with h | h | h
  · rw [if_pos (.inl h)]; exact cmp_lt a b c d h w
  · subst h
    rcases Int.lt_trichotomy b d with h | h | h
    · rw [if_pos (.inr ⟨rfl, h⟩)]; exact cmp_low_lt a b d h w
    · subst h; rw [if_neg (by omega), if_pos ⟨rfl, rfl⟩]; exact cmp_eq a b w
    · rw [if_neg (by omega), if_neg (by omega)]; exact cmp_low_gt a b d h w
  · rw [if_neg (by omega), if_neg (by omega)]; exact cmp_gt a b c d h w

theorem xor_i64 (a : Int) (h0 : -9223372036854775808 ≤ a) (h1 : a < 9223372036854775808) : Go.bits .xor .i64 (-1) a = -1 - a := by
  have e : BitVec.ofInt 64 (-1) = BitVec.allOnes 64 := by decide
  show IntKind.i64.wrap ((BitVec.ofInt 64 (-1) ^^^ BitVec.ofInt 64 a).toNat : Int) = _
  rw [e, BitVec.allOnes_xor, BitVec.toNat_not, BitVec.toNat_ofInt, IntKind.wrap_i64]
  omega
theorem xor_u64 (b : Int) (h0 : 0 ≤ b) (h1 : b < 18446744073709551616) : Go.bits .xor .u64 IntKind.u64.max b = 18446744073709551615 - b := by
  have e : BitVec.ofInt 64 IntKind.u64.max = BitVec.allOnes 64 := by decide
  show IntKind.u64.wrap ((BitVec.ofInt 64 IntKind.u64.max ^^^ BitVec.ofInt 64 b).toNat : Int) = _
  rw [e, BitVec.allOnes_xor, BitVec.toNat_not, BitVec.toNat_ofInt, IntKind.wrap_u64]
  omega

theorem bcell {W w1 : World} (hb : Below W.heap.size W w1) : (∀ b o, b < W.heap.size → w1.cell? ⟨b, o, none⟩ = W.cell? ⟨b, o, none⟩) ∧ (∀ b o, b < W.heap.size → w1.frozen? ⟨b, o, none⟩ = W.frozen? ⟨b, o, none⟩) :=
  ⟨fun b o h => hb.cell (p := ⟨b, o, none⟩) h, fun b o h => hb.frozen (p := ⟨b, o, none⟩) h⟩

def negHi (a b : Int) : Int := sumHi (-1 - a) (18446744073709551615 - b) 0 1
def negLo (b : Int) : Int := sumLo (18446744073709551615 - b) 1

theorem neg_any (a b : Int) (ha0 : -9223372036854775808 ≤ a) (ha1 : a < 9223372036854775808) (hb0 : 0 ≤ b) (hb1 : b < 18446744073709551616) (w : World) :
    Calls Try.prog 19 #[.agg #[.int .i64 a, .int .u64 b]] w fun e w' => e = .returned (.agg #[.int .i64 (negHi a b), .int .u64 (negLo b)]) ∧ Below w.heap.size w w' := by
  have hs := fun w1 => sum_any (-1 - a) (18446744073709551615 - b) 0 1 (by omega) (by omega) (by omega) (by omega) w1
  rw [← xor_i64 a ha0 ha1, ← xor_u64 b hb0 hb1] at hs
  obtain ⟨X, eX⟩ : ∃ X, X = sumHi (Go.bits .xor .i64 (-1) a) (Go.bits .xor .u64 IntKind.u64.max b) 0 1 := ⟨_, rfl⟩
  obtain ⟨Y, eY⟩ : ∃ Y, Y = sumLo (Go.bits .xor .u64 IntKind.u64.max b) 1 := ⟨_, rfl⟩
  obtain ⟨Z, eZ⟩ : ∃ Z, Z = sumOv (Go.bits .xor .i64 (-1) a) (Go.bits .xor .u64 IntKind.u64.max b) 0 1 := ⟨_, rfl⟩
  rw [← eX, ← eY, ← eZ] at hs
  have EX := Lib.hid eX; have EY := Lib.hid eY; clear eX eY eZ
  go_enter Try.func19, Try.ntmps19
  go_wp2_with (go_at_call 13; (with_reducible refine (hs _).mono ?_); rintro e w1 ⟨rfl, hb⟩; obtain ⟨hc, hf⟩ := bcell hb; have hz : w.heap.size + 1 < w1.heap.size := (by have := hb.size; simp at this; omega))
  refine bodyPost_ret (v := .agg #[.int .i64 X, .int .u64 Y]) (by simp [results, Try.results19, go_sem, hc, hz]) rfl ⟨?_, ?_⟩
  · rw [EX.out, EY.out, xor_i64 a ha0 ha1, xor_u64 b hb0 hb1]; rfl
  · exact ((((((Below.refl _ _).alloc (Nat.le_refl _) _).alloc (by simp) _).trans (hb.mono (by simp; omega))).setCell (by simp) _).setCell (by simp) _).alloc (by simp; omega) _

end Go.Proofs.Ytfnimhjabbnldaa.Wide
