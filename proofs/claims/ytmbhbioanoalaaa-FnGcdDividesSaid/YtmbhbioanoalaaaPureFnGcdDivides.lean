/- Proved: the greatest common divisor that the package tells of two numbers of 64 bits divides both, and what it leaves of them has no common divisor; that of 0 and 0 is 0. Conditions: two numbers of 64 bits without a sign; no others. -/
import Derived.Test.YtmbhbioanoalaaaPFnGcdDividesx1
import Derived.Test.YtmbhbioanoalaaaCom
namespace Go.Proofs.Ytmbhbioanoalaaa.Pure
open Go Go.RowKit Go.Proofs.Ytmbhbioanoalaaa.PFnGcdDivides Go.Proofs.YtmbhbioanoalaaaW.PrintWords Go.Proofs.YtmbhbioanoalaaaW.PrintLast Go.Com

theorem g8 (k m n : Nat) (h : n < k) : mathutil_GCDByte.f k (m : Int) (n : Int) = some ((Nat.gcd m n : Nat) : Int) := gcd_loop mathutil_GCDByte.l0 (fun _ _ _ => rfl) n m k h
theorem g64 (k m n : Nat) (h : n < k) : impl_Gcd.f k 64 (m : Int) (n : Int) = some ((Nat.gcd m n : Nat) : Int) := by
  have := gcd_loop mathutil_GCDUint64.l0 (fun _ _ _ => rfl) n m k h
  simp only [impl_Gcd.f, mathutil_GCDUint64.f, this]
  simp

theorem FnGcdDivides : laws_FnGcdDivides.Pure := by
  intro a b ha hb
  obtain ⟨a0, a1⟩ := b_u64 ha
  obtain ⟨b0, b1⟩ := b_u64 hb
  obtain ⟨m, rfl⟩ := Int.eq_ofNat_of_zero_le a0
  obtain ⟨n, rfl⟩ := Int.eq_ofNat_of_zero_le b0
  refine ⟨n + 11, ?_⟩
  simp only [laws_FnGcdDivides.f, g64 (n + 11) m n (by omega), Option.bind_some]
  by_cases hz : m = 0 ∧ n = 0
  · obtain ⟨rfl, rfl⟩ := hz
    have h8 : impl_Gcd.f (0 + 10) 8 6 4 = some 2 := by
      have := g8 (0 + 10) 6 4 (by omega)
      simp only [impl_Gcd.f]
      rw [if_pos trivial]
      exact (congrArg (fun o => Option.bind o fun t101 => some (IntKind.u64.wrap t101)) this).trans (by rw [Option.bind_some, IntKind.wrap_u64]; decide)
    have e : laws_FnGcdDivides.j0 (0 + 11) ((0 : Nat) : Int) ((0 : Nat) : Int) (((Nat.gcd 0 0 : Nat)) : Int) true = some true := by
      show laws_FnGcdDivides.j0 (10 + 1) _ _ _ _ = _
      simp only [laws_FnGcdDivides.j0]
      rw [if_pos trivial, if_pos (by simp), show (10 : Nat) = 0 + 10 from rfl, h8]
      rfl
    simpa using e
  · have hd : 0 < Nat.gcd m n := by
      rcases Nat.eq_zero_or_pos m with h | h
      · subst h; simp; omega
      · exact Nat.gcd_pos_of_pos_left n h
    have hj : laws_FnGcdDivides.j0 (n + 11) (m : Int) (n : Int) ((Nat.gcd m n : Nat) : Int) false = some true := by
      show laws_FnGcdDivides.j0 ((n + 10) + 1) _ _ _ _ = _
      simp only [laws_FnGcdDivides.j0]
      rw [if_neg (by simp), if_pos (by omega), if_neg (by omega), tmod_nat, tmod_nat]
      rw [Nat.mod_eq_zero_of_dvd (Nat.gcd_dvd_left m n), Nat.mod_eq_zero_of_dvd (Nat.gcd_dvd_right m n)]
      rw [if_pos (by rfl), if_pos (by rfl)]
      have t (x y : Nat) : Int.tdiv (x : Int) (y : Int) = ((x / y : Nat) : Int) := rfl
      rw [t, t, IntKind.wrap_u64, IntKind.wrap_u64]
      have q1 : m / Nat.gcd m n ≤ m := Nat.div_le_self _ _
      have q2 : n / Nat.gcd m n ≤ n := Nat.div_le_self _ _
      have hc : Nat.gcd (m / Nat.gcd m n) (n / Nat.gcd m n) = 1 := Nat.Coprime.gcd_eq_one (Nat.coprime_div_gcd_div_gcd hd)
      generalize m / Nat.gcd m n = x at *
      generalize n / Nat.gcd m n = y at *
      rw [show (x : Int) % 18446744073709551616 = (x : Int) by omega, show (y : Int) % 18446744073709551616 = (y : Int) by omega]
      rw [g64 _ _ _ (by omega), hc]
      rfl
    by_cases h0 : m = 0
    · have hb0 : (((n : Nat) : Int) == 0) = false := by
        rw [beq_eq_false_iff_ne]; omega
      rw [if_pos (by omega), hb0]; exact hj
    · rw [if_neg (by omega)]; exact hj

end Go.Proofs.Ytmbhbioanoalaaa.Pure
