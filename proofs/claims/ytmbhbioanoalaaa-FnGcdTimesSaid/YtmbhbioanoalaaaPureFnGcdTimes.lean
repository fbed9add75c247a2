/- Proved: the greatest common divisor that the package tells of the multiples of two numbers by a third one is the multiple of theirs. Conditions: three numbers of 32 bits without a sign; no others. -/
import Derived.Test.YtmbhbioanoalaaaPFnGcdTimesx1
import Derived.Test.YtmbhbioanoalaaaCom
namespace Go.Proofs.Ytmbhbioanoalaaa.Pure
open Go Go.RowKit Go.Proofs.Ytmbhbioanoalaaa.PFnGcdTimes Go.Proofs.YtmbhbioanoalaaaW.PrintWords Go.Proofs.YtmbhbioanoalaaaW.PrintLast Go.Com

theorem g8 (k m n : Nat) (h : n < k) : mathutil_GCDByte.f k (m : Int) (n : Int) = some ((Nat.gcd m n : Nat) : Int) := gcd_loop mathutil_GCDByte.l0 (fun _ _ _ => rfl) n m k h
theorem g32 (k m n : Nat) (h : n < k) : mathutil_GCDUint32.f k (m : Int) (n : Int) = some ((Nat.gcd m n : Nat) : Int) := gcd_loop mathutil_GCDUint32.l0 (fun _ _ _ => rfl) n m k h
theorem g64 (k m n : Nat) (h : n < k) : impl_Gcd.f k 64 (m : Int) (n : Int) = some ((Nat.gcd m n : Nat) : Int) := by
  have := gcd_loop mathutil_GCDUint64.l0 (fun _ _ _ => rfl) n m k h
  simp only [impl_Gcd.f, mathutil_GCDUint64.f, this]
  simp
theorem gcd_bd (m n B : Nat) (hm : m < B) (hn : n < B) : Nat.gcd m n < B := by
  by_cases h : m = 0
  · subst h; simpa using hn
  · exact Nat.lt_of_le_of_lt (Nat.gcd_le_left n (by omega)) hm
theorem mul_bd {b c : Nat} (h1 : b < 4294967296) (h3 : c < 4294967296) : b * c ≤ 18446744065119617025 :=
  Nat.mul_le_mul (show b ≤ 4294967295 by omega) (show c ≤ 4294967295 by omega)

theorem FnGcdTimes : laws_FnGcdTimes.Pure := by
  intro a b c ha hb hc
  obtain ⟨a0, a1⟩ := b_u32 ha
  obtain ⟨b0, b1⟩ := b_u32 hb
  obtain ⟨c0, c1⟩ := b_u32 hc
  obtain ⟨m, rfl⟩ := Int.eq_ofNat_of_zero_le a0
  obtain ⟨n, rfl⟩ := Int.eq_ofNat_of_zero_le b0
  obtain ⟨q, rfl⟩ := Int.eq_ofNat_of_zero_le c0
  refine ⟨n * q + n + 10, ?_⟩
  have h8 : impl_Gcd.f (n * q + n + 10) 8 6 4 = some 2 := by
    have := g8 (n * q + n + 10) 6 4 (by omega)
    simp only [impl_Gcd.f]
    rw [if_pos trivial]
    exact (congrArg (fun o => Option.bind o fun t101 => some (IntKind.u64.wrap t101)) this).trans (by rw [Option.bind_some, IntKind.wrap_u64]; decide)
  simp only [laws_FnGcdTimes.f, h8, Option.bind_some, IntKind.wrap_u64]
  rw [if_pos trivial]
  have hmq := mul_bd (b := m) (c := q) (by omega) (by omega)
  have hnq := mul_bd (b := n) (c := q) (by omega) (by omega)
  have hg := gcd_bd m n 4294967296 (by omega) (by omega)
  have hgq := mul_bd (b := Nat.gcd m n) (c := q) hg (by omega)
  rw [show (m : Int) % 18446744073709551616 = (m : Int) by omega, show (n : Int) % 18446744073709551616 = (n : Int) by omega, show (q : Int) % 18446744073709551616 = (q : Int) by omega]
  rw [← Int.natCast_mul, ← Int.natCast_mul]
  rw [show ((m * q : Nat) : Int) % 18446744073709551616 = ((m * q : Nat) : Int) by omega, show ((n * q : Nat) : Int) % 18446744073709551616 = ((n * q : Nat) : Int) by omega]
  rw [g64 _ _ _ (by omega)]
  simp only [Option.bind_some, impl_Gcd.f]
  rw [if_neg (by decide), if_neg (by decide), if_pos trivial]
  rw [show (m : Int) % 4294967296 = (m : Int) by omega, show (n : Int) % 4294967296 = (n : Int) by omega, g32 _ _ _ (by omega)]
  simp only [Option.bind_some, IntKind.wrap_u64]
  rw [show ((Nat.gcd m n : Nat) : Int) % 18446744073709551616 = ((Nat.gcd m n : Nat) : Int) by omega, ← Int.natCast_mul]
  rw [show ((Nat.gcd m n * q : Nat) : Int) % 18446744073709551616 = ((Nat.gcd m n * q : Nat) : Int) by omega, Nat.gcd_mul_right]
  simp

end Go.Proofs.Ytmbhbioanoalaaa.Pure
