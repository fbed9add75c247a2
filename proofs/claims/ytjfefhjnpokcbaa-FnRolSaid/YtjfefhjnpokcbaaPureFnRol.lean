/- Proved: a step of the reordering turns the bits of a number: there are as many, what differs stays different, and 64 steps lead back. Conditions: two numbers of 64 bits without a sign; no others. -/
import Derived.Test.YtjfefhjnpokcbaaOFnRolx1
import Derived.Test.YtjfefhjnpokcbaaCom
import Derived.Test.YtjfefhjnpokcbaaRotN
namespace Go.Proofs.Ytjfefhjnpokcbaa.Pure
open Go Go.RowKit Go.Proofs.Ytjfefhjnpokcbaa.PFnRol Go.Proofs.YtjfefhjnpokcbaaW.PrintWords Go.Proofs.YtjfefhjnpokcbaaW.PrintLast Go.Com RotN

theorem rol_is (x : Nat) (hx : x < 2 ^ 64) : impl_Rol.f (x : Int) = some ((rotN x : Nat) : Int) := by
  simp only [impl_Rol.f, mathutil_ZZRol.f, mathutil_rol.f, IntKind.wrap_u64, w64, rotN]
  by_cases h : ((x : Int) + 9223372036854775808) % 18446744073709551616 - 9223372036854775808 < 0
  · rw [if_pos h, or_one (by omega) (by omega) (by omega)]
    simp only [Option.bind_some]; congr 1; omega
  · rw [if_neg h]; simp only [Option.bind_some]; congr 1; omega

theorem ones_step (x acc : Nat) (ha : acc ≤ 64) : wrap64 ((acc : Int) + wrap64 ((x % 2 : Nat) : Int)) = ((acc + x % 2 : Nat) : Int) := by simp only [w64]; omega
theorem half_step (x : Nat) (h : x < 18446744073709551616) : IntKind.u64.wrap ((x / 2 : Nat) : Int) = ((x / 2 : Nat) : Int) := by rw [IntKind.wrap_u64]; omega
theorem pow_bd {f x : Nat} (hf : f + 1 ≤ 64) (hx : x < 2 ^ (f + 1)) : x < 18446744073709551616 ∧ x / 2 < 2 ^ f := by
  have h1 : 2 ^ (f + 1) ≤ 2 ^ 64 := Nat.pow_le_pow_right (by decide) hf
  have h2 : (2 : Nat) ^ 64 = 18446744073709551616 := by decide
  have h3 : 2 ^ (f + 1) = 2 ^ f * 2 := Nat.pow_succ ..
  rw [h2] at h1
  rw [h3] at hx h1
  exact ⟨Nat.lt_of_lt_of_le hx h1, by omega⟩

theorem ones_is (f : Nat) : ∀ (k x acc : Nat), x < 2 ^ f → f + acc ≤ 64 → f < k → spec_Ones.l0 k (x : Int) (acc : Int) = some ((acc + onesN f x : Nat) : Int) := by
  induction f with
  | zero =>
    intro k x acc hx _ hk
    obtain ⟨k, rfl⟩ : ∃ j, k = j + 1 := ⟨k - 1, by omega⟩
    simp only [spec_Ones.l0]
    have : x = 0 := by simpa using hx
    subst this
    rw [if_neg (by omega)]; rfl
  | succ f ih =>
    intro k x acc hx ha hk
    obtain ⟨hxl, hh⟩ := pow_bd (by omega) hx
    clear hx
    obtain ⟨k, rfl⟩ : ∃ j, k = j + 1 := ⟨k - 1, by omega⟩
    simp only [spec_Ones.l0]
    by_cases h0 : x = 0
    · subst h0
      rw [if_neg (by omega), ones_zero]; rfl
    · have e1 : Int.tdiv (x : Int) 2 = ((x / 2 : Nat) : Int) := rfl
      have e2 : Int.tmod (x : Int) 2 = ((x % 2 : Nat) : Int) := rfl
      rw [if_pos (by omega), e1, e2, half_step x hxl, ones_step x acc (by omega), ih k (x / 2) (acc + x % 2) hh (by omega) (by omega)]
      rw [onesN, Nat.add_assoc]

theorem law_end (a b : Nat) (ha : a < 2 ^ 64) (hb : b < 2 ^ 64) (k : Nat) (hk : 65 < k) : laws_FnRol.l0 (k + 1) (a : Int) (b : Int) (a : Int) 64 = some true := by
  simp only [laws_FnRol.l0, spec_Ones.f]
  have h1 := rol_is 1 (by decide)
  have hr1 : rotN 1 = 2 := by decide
  rw [hr1] at h1
  have h1' : impl_Rol.f 1 = some 2 := h1
  have hx : Go.bits .xor .u64 (a : Int) (b : Int) = ((a ^^^ b : Nat) : Int) := bits_xor_u64_nat a b ha hb
  have hy : Go.bits .xor .u64 ((rotN a : Nat) : Int) ((rotN b : Nat) : Int) = ((rotN a ^^^ rotN b : Nat) : Int) := bits_xor_u64_nat _ _ (rot_lt a ha) (rot_lt b hb)
  have o1 := ones_is 64 k (rotN a) 0 (rot_lt a ha) (by omega) (by omega)
  have o2 := ones_is 64 k a 0 ha (by omega) (by omega)
  rw [ones_rot a ha] at o1
  generalize onesN 64 a = n at *
  rw [if_neg (show ¬ ((64 : Int) < 64) by decide), h1', Option.bind_some]
  rw [if_neg (show ¬ ((2 : Int) = 0) by decide), if_pos trivial, rol_is a ha, hx, rol_is (a ^^^ b) (Nat.xor_lt_two_pow ha hb), rol_is b hb]
  simp only [Option.bind_some]
  rw [show (0 : Int) = ((0 : Nat) : Int) from rfl, o1, o2]
  simp only [Option.bind_some]
  rw [if_pos trivial, hy, rot_xor a b ha hb]
  simp

theorem law_loop (a b : Nat) (s : Nat → Nat) (hs : ∀ i, s (i + 1) = rotN (s i)) (hl : ∀ i, s i < 2 ^ 64) (hend : ∀ k, 65 < k → laws_FnRol.l0 (k + 1) (a : Int) (b : Int) ((s 64 : Nat) : Int) 64 = some true) (d : Nat) :
    ∀ (k i : Nat), i + d = 64 → d + 66 < k → laws_FnRol.l0 k (a : Int) (b : Int) ((s i : Nat) : Int) (i : Int) = some true := by
  induction d with
  | zero =>
    intro k i hi hk
    obtain ⟨k, rfl⟩ : ∃ j, k = j + 1 := ⟨k - 1, by omega⟩
    obtain rfl : i = 64 := hi
    exact hend k (by omega)
  | succ d ih =>
    intro k i hi hk
    obtain ⟨k, rfl⟩ : ∃ j, k = j + 1 := ⟨k - 1, by omega⟩
    simp only [laws_FnRol.l0]
    rw [if_pos (by omega), rol_is _ (hl i)]
    simp only [Option.bind_some]
    rw [show wrap64 ((i : Int) + 1) = ((i + 1 : Nat) : Int) by rw [w64]; omega, ← hs i]
    exact ih k (i + 1) (by omega) (by omega)

theorem FnRol : laws_FnRol.Pure := by
  intro a b ha hb
  obtain ⟨a0, a1⟩ := b_u64 ha
  obtain ⟨b0, b1⟩ := b_u64 hb
  obtain ⟨m, rfl⟩ := Int.eq_ofNat_of_zero_le a0
  obtain ⟨n, rfl⟩ := Int.eq_ofNat_of_zero_le b0
  have hm : m < 2 ^ 64 := by have h2 : (2 : Nat) ^ 64 = 18446744073709551616 := by decide
                             rw [h2]; omega
  have hn : n < 2 ^ 64 := by have h2 : (2 : Nat) ^ 64 = 18446744073709551616 := by decide
                             rw [h2]; omega
  have key := law_loop m n (fun i => rots i m) (fun _ => rfl) (fun i => rots_lt i m hm) (by
    intro k hk
    show laws_FnRol.l0 (k + 1) (m : Int) (n : Int) ((rots 64 m : Nat) : Int) 64 = some true
    rw [rots_64 m hm]; exact law_end m n hm hn k hk) 64 200 0 rfl (by decide)
  exact ⟨200, key⟩

end Go.Proofs.Ytjfefhjnpokcbaa.Pure
