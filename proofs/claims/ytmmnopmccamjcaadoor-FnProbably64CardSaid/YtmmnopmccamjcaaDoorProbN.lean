/- What the strong test of the reference tells. -/
import Derived.Test.YtmmnopmccamjcaaDoorMpN
namespace Go.Proofs.YtmmnopmccamjcaaDoor.ProbN
open Go Go.RowKit Go.Proofs.YtmmnopmccamjcaaDoor.PMp Go.Proofs.YtmmnopmccamjcaaDoorW.PrintWords Go.Proofs.YtmmnopmccamjcaaDoorW.PrintLast Go.Com
set_option linter.unusedVariables false
set_option linter.unusedSimpArgs false
/-- is one of so many squares one less than the modulus? -/
def sqs (n : Nat) : Nat → Nat → Bool
  | 0, _ => false
  | c + 1, x => if x * x % n = n - 1 then true else sqs n c (x * x % n)
theorem sqs_one (n : Nat) (hn : 5 ≤ n) (c : Nat) : sqs n c 1 = false := by
  induction c with
  | zero => rfl
  | succ c ih =>
    have h1 : 1 * 1 % n = 1 := Nat.mod_eq_of_lt (by omega)
    rw [sqs, h1, if_neg (by omega), ih]
/-- what is left of n - 1 behind so many halvings -/
def Dv (d s i : Nat) : Nat := d * 2 ^ (s - i)
/-- what the test tells -/
def res (n x s : Nat) : Bool := if x = 1 then true else if x = n - 1 then true else sqs n (s - 1) x
theorem wrap_pred (n : Nat) (h1 : 1 ≤ n) (h : n < 18446744073709551616) : IntKind.u64.wrap ((n : Int) - 1) = ((n - 1 : Nat) : Int) := by rw [IntKind.wrap_u64]; omega
theorem spec_sqs (n : Nat) (hn : 5 ≤ n) (hn2 : n < 18446744073709551616) (s : Nat) (hs : s ≤ 64) (c : Nat) : ∀ (k r x : Nat), r + c = s → c + 80 < k →
    spec_IsStrong.l1 k (n : Int) (s : Int) (x : Int) (r : Int) = some (sqs n c x) := by
  induction c with
  | zero =>
    intro k r x hr hk
    obtain ⟨k, rfl⟩ : ∃ j, k = j + 1 := ⟨k - 1, by omega⟩
    simp only [spec_IsStrong.l1]
    rw [if_neg (by omega)]; rfl
  | succ c ih =>
    intro k r x hr hk
    obtain ⟨k, rfl⟩ : ∃ j, k = j + 1 := ⟨k - 1, by omega⟩
    simp only [spec_IsStrong.l1]
    rw [if_pos (by omega), MpN.times_is x x n (by omega) (by omega) k (by omega), wrap_pred n (by omega) (by omega)]
    simp only [Option.bind_some]
    by_cases h : x * x % n = n - 1
    · rw [if_pos (by omega), sqs, if_pos h]
    · rw [if_neg (by omega), sqs, if_neg h, show wrap64 ((r : Int) + 1) = ((r + 1 : Nat) : Int) by rw [w64]; omega]
      exact ih k (r + 1) _ (by omega) (by omega)
theorem spec_l0 (n a d s : Nat) (hn : 5 ≤ n) (hn2 : n < 18446744073709551616) (hd : n - 1 = d * 2 ^ s) (ho : d % 2 = 1) (hs : s ≤ 64) (c : Nat) : ∀ (k i : Nat), i + c = s → c + 300 < k →
    spec_IsStrong.l0 k (n : Int) (a : Int) ((d * 2 ^ c : Nat) : Int) (i : Int) = some (res n (a ^ d % n) s) := by
  have hle : ∀ c, c ≤ s → d * 2 ^ c ≤ n - 1 := fun c hc => by rw [hd]; exact Nat.mul_le_mul_left _ (Nat.pow_le_pow_right (by decide) hc)
  induction c with
  | zero =>
    intro k i hi hk
    obtain ⟨k, rfl⟩ : ∃ j, k = j + 1 := ⟨k - 1, by omega⟩
    obtain rfl : i = s := by omega
    have hdl := hle 0 (Nat.zero_le _)
    rw [Nat.pow_zero, Nat.mul_one] at *
    simp only [spec_IsStrong.l0]
    rw [MpN.and1_u64 d (by omega), if_neg (by omega), MpN.power_is a d n (by omega) (by omega) (by omega) k (by omega)]
    simp only [Option.bind_some]
    have hx : a ^ d % n < n := Nat.mod_lt _ (by omega)
    generalize a ^ d % n = x at *
    obtain ⟨k, rfl⟩ : ∃ j, k = j + 1 := ⟨k - 1, by omega⟩
    rw [wrap_pred n (by omega) (by omega)]
    simp only [spec_IsStrong.j1, res]
    by_cases h1 : x = 1
    · rw [if_pos (by omega), if_pos h1]; rfl
    · rw [if_neg (by omega), if_neg h1]
      by_cases h2 : x = n - 1
      · rw [if_pos (by rw [beq_iff_eq]; omega), if_pos h2]
      · rw [if_neg (by rw [beq_iff_eq]; omega), if_neg h2]
        cases i with
        | zero =>
          obtain ⟨k, rfl⟩ : ∃ j, k = j + 1 := ⟨k - 1, by omega⟩
          simp only [spec_IsStrong.l1]
          rw [if_neg (by omega)]; rfl
        | succ i => exact spec_sqs n hn hn2 (i + 1) hs i k 1 x (by omega) (by omega)
  | succ c ih =>
    intro k i hi hk
    obtain ⟨k, rfl⟩ : ∃ j, k = j + 1 := ⟨k - 1, by omega⟩
    have hdl := hle (c + 1) (by omega)
    have e1 : d * 2 ^ (c + 1) = 2 * (d * 2 ^ c) := by rw [Nat.pow_succ]; simp only [Nat.mul_comm, Nat.mul_left_comm]
    rw [e1] at hdl ⊢
    simp only [spec_IsStrong.l0]
    rw [MpN.and1_u64 _ (by omega), if_pos (by omega), MpN.half, show wrap64 ((i : Int) + 1) = ((i + 1 : Nat) : Int) by rw [w64]; omega, show 2 * (d * 2 ^ c) / 2 = d * 2 ^ c by omega]
    exact ih k (i + 1) (by omega) (by omega)
theorem spec_strong (n a d s : Nat) (hn : 5 ≤ n) (hn2 : n < 18446744073709551616) (hd : n - 1 = d * 2 ^ s) (ho : d % 2 = 1) (hs : s ≤ 64) :
    spec_IsStrong.f 400 (n : Int) (a : Int) = some (res n (a ^ d % n) s) := by
  have := spec_l0 n a d s hn hn2 hd ho hs s 400 0 (by omega) (by omega)
  rw [← hd] at this
  unfold spec_IsStrong.f
  rw [wrap_pred n (by omega) hn2]
  exact this
theorem split (m : Nat) (hm : 0 < m) : ∃ d s, m = d * 2 ^ s ∧ d % 2 = 1 := by
  induction m using Nat.strongRecOn with
  | ind m ih =>
    by_cases h : m % 2 = 1
    · exact ⟨m, 0, by rw [Nat.pow_zero, Nat.mul_one], h⟩
    · obtain ⟨d, s, e, o⟩ := ih (m / 2) (by omega) (by omega)
      refine ⟨d, s + 1, ?_, o⟩
      rw [Nat.pow_succ, ← Nat.mul_assoc, ← e]; omega
theorem split64 (m : Nat) (hm : 0 < m) (hm2 : m < 18446744073709551616) : ∃ d s, m = d * 2 ^ s ∧ d % 2 = 1 ∧ s ≤ 64 := by
  obtain ⟨d, s, e, o⟩ := split m hm
  refine ⟨d, s, e, o, ?_⟩
  refine Nat.le_of_not_lt fun h => ?_
  have h1 : 2 ^ 64 ≤ 2 ^ s := Nat.pow_le_pow_right (by decide) (by omega)
  have h2 : 1 * 2 ^ s ≤ d * 2 ^ s := Nat.mul_le_mul_right _ (by omega)
  rw [show (2 : Nat) ^ 64 = 18446744073709551616 by decide] at h1
  omega
end Go.Proofs.YtmmnopmccamjcaaDoor.ProbN
