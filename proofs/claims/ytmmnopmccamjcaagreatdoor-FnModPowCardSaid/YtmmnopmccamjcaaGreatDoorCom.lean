/- Bounds of the integer kinds, and a few small words on numbers. -/
import Derived.Laws.BitsLemmas
import Derived.Laws.BitsAllLaws
import Derived.Laws.Bits64
import Derived.IntWalk
import Derived.RowKit
import GoSem.Claim
namespace Go.Com
open Go Go.RowKit

theorem b_u8 {a : Int} (h : (Lit.int .u8 a).wf = true) : 0 ≤ a ∧ a < 256 := by
  simp [Lit.wf, IntKind.min, IntKind.max, IntKind.signed, IntKind.bits] at h; omega
theorem b_u16 {a : Int} (h : (Lit.int .u16 a).wf = true) : 0 ≤ a ∧ a < 65536 := by
  simp [Lit.wf, IntKind.min, IntKind.max, IntKind.signed, IntKind.bits] at h; omega
theorem b_u32 {a : Int} (h : (Lit.int .u32 a).wf = true) : 0 ≤ a ∧ a < 4294967296 := by
  simp [Lit.wf, IntKind.min, IntKind.max, IntKind.signed, IntKind.bits] at h; omega
theorem b_u64 {a : Int} (h : (Lit.int .u64 a).wf = true) : 0 ≤ a ∧ a < 18446744073709551616 := by
  simp [Lit.wf, IntKind.min, IntKind.max, IntKind.signed, IntKind.bits] at h; omega
theorem b_i64 {a : Int} (h : (Lit.int .i64 a).wf = true) : -9223372036854775808 ≤ a ∧ a < 9223372036854775808 := by
  simp [Lit.wf, IntKind.min, IntKind.max, IntKind.signed, IntKind.bits] at h; omega

theorem w64 (n : Int) : wrap64 n = (n + 9223372036854775808) % 18446744073709551616 - 9223372036854775808 := by unfold wrap64; rfl
theorem wraps_u64 (n : Int) (h₀ : 0 ≤ n) (h₁ : n < 2 ^ 64) : IntKind.u64.wrap n = n := by rw [IntKind.wrap_u64]; omega
theorem and_mask32 {x : Int} (h0 : 0 ≤ x) (h1 : x < 18446744073709551616) : Go.bits .and .u64 x 4294967295 = x % 4294967296 :=
  bits_mask .u64 64 (by decide) wraps_u64 32 (by decide) x h0 h1
theorem and_one {x : Int} (h0 : 0 ≤ x) (h1 : x < 18446744073709551616) : Go.bits .and .u64 x 1 = x % 2 :=
  bits_mask .u64 64 (by decide) wraps_u64 1 (by decide) x h0 h1
theorem or_low32 {x y : Int} (h0 : 0 ≤ x) (h1 : x < 18446744073709551616) (hx : x % 4294967296 = 0) (hy0 : 0 ≤ y) (hy : y < 4294967296) : Go.bits .or .u64 x y = x + y :=
  bits_join .u64 64 (by decide) wraps_u64 32 x y h0 hx h1 hy0 hy (by omega)
theorem or_one {x : Int} (h0 : 0 ≤ x) (h1 : x < 18446744073709551616) (hx : x % 2 = 0) : Go.bits .or .u64 x 1 = x + 1 :=
  bits_join .u64 64 (by decide) wraps_u64 1 x 1 h0 hx h1 (by omega) (by omega) (by omega)
theorem tmod_nat (m n : Nat) : Int.tmod (m : Int) (n : Int) = ((m % n : Nat) : Int) := rfl
/-- Euclid's loop, whatever function runs it. -/
theorem gcd_loop (l : Nat → Int → Int → Option Int) (hl : ∀ k x y, l (k + 1) x y = if y = 0 then some x else l k y (Int.tmod x y)) :
    ∀ (n m k : Nat), n < k → l k (m : Int) (n : Int) = some ((Nat.gcd m n : Nat) : Int) := by
  intro n
  induction n using Nat.strongRecOn with
  | ind n ih =>
    intro m k hk
    obtain ⟨k, rfl⟩ : ∃ j, k = j + 1 := ⟨k - 1, by omega⟩
    rw [hl]
    by_cases h : n = 0
    · subst h; simp
    · rw [if_neg (by omega), tmod_nat, ih (m % n) (Nat.mod_lt _ (by omega)) n k (by have := Nat.mod_lt m (y := n) (by omega); omega)]
      congr 2
      rw [Nat.gcd_comm m n, Nat.gcd_rec n m, Nat.gcd_comm]
end Go.Com
