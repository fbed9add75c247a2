/- Proved: the greatest common divisor that the package tells of the lowest 8, 16, 32 or 64 bits of two numbers is that of Euclid. Conditions: an int as the width and two numbers of 64 bits without a sign; no others. -/
import Derived.Test.YtmbhbioanoalaaaPFnGcdx1
import Derived.Test.YtmbhbioanoalaaaCom
namespace Go.Proofs.Ytmbhbioanoalaaa.Pure
open Go Go.RowKit Go.Proofs.Ytmbhbioanoalaaa.PFnGcd Go.Proofs.YtmbhbioanoalaaaW.PrintWords Go.Proofs.YtmbhbioanoalaaaW.PrintLast Go.Com

theorem g8 (k m n : Nat) (h : n < k) : mathutil_GCDByte.f k (m : Int) (n : Int) = some ((Nat.gcd m n : Nat) : Int) := gcd_loop mathutil_GCDByte.l0 (fun _ _ _ => rfl) n m k h
theorem g16 (k m n : Nat) (h : n < k) : mathutil_GCDUint16.f k (m : Int) (n : Int) = some ((Nat.gcd m n : Nat) : Int) := gcd_loop mathutil_GCDUint16.l0 (fun _ _ _ => rfl) n m k h
theorem g32 (k m n : Nat) (h : n < k) : mathutil_GCDUint32.f k (m : Int) (n : Int) = some ((Nat.gcd m n : Nat) : Int) := gcd_loop mathutil_GCDUint32.l0 (fun _ _ _ => rfl) n m k h
theorem g64 (k m n : Nat) (h : n < k) : mathutil_GCDUint64.f k (m : Int) (n : Int) = some ((Nat.gcd m n : Nat) : Int) := gcd_loop mathutil_GCDUint64.l0 (fun _ _ _ => rfl) n m k h
theorem gs (k m n : Nat) (h : n < k) : spec_Gcd.f k (m : Int) (n : Int) = some ((Nat.gcd m n : Nat) : Int) := gcd_loop spec_Gcd.l0 (fun _ _ _ => rfl) n m k h

theorem gcd_bd (m n B : Nat) (hm : m < B) (hn : n < B) : Nat.gcd m n < B := by
  by_cases h : m = 0
  · subst h; simpa using hn
  · exact Nat.lt_of_le_of_lt (Nat.gcd_le_left n (by omega)) hm

theorem low (w : Int) (j : Nat) (B : Int) (a : Int) (hw : wrap64 (64 - w) = (j : Int)) (hj : j ≤ 64) (hB : a * 2 ^ j % 18446744073709551616 / 2 ^ j = a % B) : spec_Low.f w a = some (a % B) := by
  simp only [spec_Low.f, hw]
  rw [if_pos (by omega)]
  have hm : min ((j : Int).toNat) (IntKind.bits .u64) = j := by
    have : IntKind.bits .u64 = 64 := rfl
    rw [this]; omega
  simp only [shr, shl, hm, IntKind.wrap_u64, hB]

theorem FnGcd : laws_FnGcd.Pure := by
  intro w a b _ ha hb
  obtain ⟨a0, a1⟩ := b_u64 ha
  obtain ⟨b0, b1⟩ := b_u64 hb
  obtain ⟨m, rfl⟩ := Int.eq_ofNat_of_zero_le a0
  obtain ⟨n, rfl⟩ := Int.eq_ofNat_of_zero_le b0
  have hk : n < n + 10 := by omega
  refine ⟨n + 10, ?_⟩
  have h8 : impl_Gcd.f (n + 10) 8 6 4 = some 2 := by
    have := g8 (n + 10) 6 4 (by omega)
    simp only [impl_Gcd.f]
    rw [if_pos trivial]
    exact (congrArg (fun o => Option.bind o fun t101 => some (IntKind.u64.wrap t101)) this).trans (by rw [Option.bind_some, IntKind.wrap_u64]; decide)
  simp only [laws_FnGcd.f, h8, Option.bind_some]
  by_cases e8 : w = 8
  · subst e8
    have l (x : Int) := low 8 56 256 x (by rw [w64]; omega) (by omega) (by omega)
    rw [l, l]
    simp only [spec_IsWidth.f, Option.bind_some, if_true, impl_Gcd.f]
    have e1 : ((m : Int) % 256) = ((m % 256 : Nat) : Int) := by omega
    have e2 : ((n : Int) % 256) = ((n % 256 : Nat) : Int) := by omega
    rw [e1, e2, g8 _ _ _ (by omega), gs _ _ _ (by omega)]
    have := gcd_bd (m % 256) (n % 256) 256 (by omega) (by omega)
    simp only [Option.bind_some]
    rw [IntKind.wrap_u64, show (((m % 256).gcd (n % 256) : Nat) : Int) % 18446744073709551616 = (((m % 256).gcd (n % 256) : Nat) : Int) by omega]
    simp
  · by_cases e16 : w = 16
    · subst e16
      have l (x : Int) := low 16 48 65536 x (by rw [w64]; omega) (by omega) (by omega)
      rw [l, l]
      simp only [spec_IsWidth.f, Option.bind_some, if_true, impl_Gcd.f, IntKind.wrap_u16]
      have e1 : ((m : Int) % 65536) = ((m % 65536 : Nat) : Int) := by omega
      have e2 : ((n : Int) % 65536) = ((n % 65536 : Nat) : Int) := by omega
      rw [e1, e2, g16 _ _ _ (by omega), gs _ _ _ (by omega)]
      have := gcd_bd (m % 65536) (n % 65536) 65536 (by omega) (by omega)
      simp only [Option.bind_some]
      rw [IntKind.wrap_u64, show (((m % 65536).gcd (n % 65536) : Nat) : Int) % 18446744073709551616 = (((m % 65536).gcd (n % 65536) : Nat) : Int) by omega]
      simp
    · by_cases e32 : w = 32
      · subst e32
        have l (x : Int) := low 32 32 4294967296 x (by rw [w64]; omega) (by omega) (by omega)
        rw [l, l]
        simp only [spec_IsWidth.f, Option.bind_some, if_true, impl_Gcd.f]
        have e1 : ((m : Int) % 4294967296) = ((m % 4294967296 : Nat) : Int) := by omega
        have e2 : ((n : Int) % 4294967296) = ((n % 4294967296 : Nat) : Int) := by omega
        rw [e1, e2, g32 _ _ _ (by omega), gs _ _ _ (by omega)]
        have := gcd_bd (m % 4294967296) (n % 4294967296) 4294967296 (by omega) (by omega)
        simp only [Option.bind_some]
        rw [IntKind.wrap_u64, show (((m % 4294967296).gcd (n % 4294967296) : Nat) : Int) % 18446744073709551616 = (((m % 4294967296).gcd (n % 4294967296) : Nat) : Int) by omega]
        simp
      · by_cases e64 : w = 64
        · subst e64
          have l (x : Int) := low 64 0 18446744073709551616 x (by rw [w64]; omega) (by omega) (by omega)
          rw [l, l]
          simp only [spec_IsWidth.f, Option.bind_some, if_true, impl_Gcd.f]
          have e1 : ((m : Int) % 18446744073709551616) = ((m : Nat) : Int) := by omega
          have e2 : ((n : Int) % 18446744073709551616) = ((n : Nat) : Int) := by omega
          rw [e1, e2, g64 _ _ _ (by omega), gs _ _ _ (by omega)]
          simp
        · simp [spec_IsWidth.f, e8, e16, e32, e64]

end Go.Proofs.Ytmbhbioanoalaaa.Pure
