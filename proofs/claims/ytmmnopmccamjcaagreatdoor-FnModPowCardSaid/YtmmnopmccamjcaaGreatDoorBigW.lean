/- What the package's division of two words by a word with a reciprocal answers, and its product of words. No walk in sight. -/
import Derived.Test.YtmmnopmccamjcaaGreatDoorBigN
namespace Go.Proofs.YtmmnopmccamjcaaGreatDoor.BigW
open Go Go.RowKit Go.Proofs.YtmmnopmccamjcaaGreatDoor.PBig Go.Proofs.YtmmnopmccamjcaaGreatDoorW.PrintWords Go.Proofs.YtmmnopmccamjcaaGreatDoorW.PrintMore Go.Proofs.YtmmnopmccamjcaaGreatDoor.BigN Go.Com
set_option linter.unusedVariables false
theorem bitsDiv_is {hi lo y : Int} (hh : 0 ≤ hi) (hy : hi < y) (hy' : y < 18446744073709551616) (hl : 0 ≤ lo) (hl' : lo < 18446744073709551616) (k : Nat) (hk : 40000000000 ≤ k) :
    bigall_bitsDiv.f k hi lo y = some ((hi * 18446744073709551616 + lo) / y, (hi * 18446744073709551616 + lo) % y) := by
  unfold bigall_bitsDiv.f
  rw [bitsDiv64_is hh hy hy' hl hl' k hk, Option.bind_some]
theorem nlz_is {y : Int} {L : Nat} (h0 : 0 ≤ y) (h1 : y < 18446744073709551616) (hL : Lib.bitLen y.toNat = L) (hL64 : L ≤ 64) (k : Nat) : bigall_nlz.f k y = some (64 - (L : Int)) := by
  unfold bigall_nlz.f bits_LeadingZeros.f
  rw [if_pos (by omega), Option.bind_some, hL, wu _ (by omega) (by omega)]
/-- the reciprocal of a number whose top bit is 1 -/
def rec (z : Int) : Int := (18446744073709551616 * 18446744073709551616 - 1 - z * 18446744073709551616) / z
theorem xor_u64 (b : Int) (h0 : 0 ≤ b) (h1 : b < 18446744073709551616) : Go.bits .xor .u64 IntKind.u64.max b = 18446744073709551615 - b := by
  have e : BitVec.ofInt 64 IntKind.u64.max = BitVec.allOnes 64 := by decide
  show IntKind.u64.wrap ((BitVec.ofInt 64 IntKind.u64.max ^^^ BitVec.ofInt 64 b).toNat : Int) = _
  rw [e, BitVec.allOnes_xor, BitVec.toNat_not, BitVec.toNat_ofInt, IntKind.wrap_u64]
  omega
/-- the guess by the reciprocal is right, or one or two too small -/
theorem guess {z v x1 x0 e : Int} (h1 : 9223372036854775808 ≤ z) (h2 : z < 18446744073709551616) (hv : v = rec z) (hx : 0 ≤ x1) (hx' : x1 < z) (h0 : 0 ≤ x0) (h0' : x0 < 18446744073709551616) (he : e = (v * x1 + x0) / 18446744073709551616) :
    0 ≤ x1 * 18446744073709551616 + x0 - z * (e + x1) ∧ x1 * 18446744073709551616 + x0 - z * (e + x1) < 18446744073709551616 + z := by
  have hr := Int.emod_add_mul_ediv (18446744073709551616 * 18446744073709551616 - 1 - z * 18446744073709551616) z
  have hr0 := Int.emod_nonneg (18446744073709551616 * 18446744073709551616 - 1 - z * 18446744073709551616) (show z ≠ 0 by omega)
  have hr1 := Int.emod_lt_of_pos (18446744073709551616 * 18446744073709551616 - 1 - z * 18446744073709551616) (show 0 < z by omega)
  have hm := Int.emod_add_mul_ediv (v * x1 + x0) 18446744073709551616
  have hm0 := Int.emod_nonneg (v * x1 + x0) (show (18446744073709551616 : Int) ≠ 0 by omega)
  have hm1 := Int.emod_lt_of_pos (v * x1 + x0) (show (0 : Int) < 18446744073709551616 by omega)
  rw [← he] at hm
  unfold rec at hv
  rw [← hv] at hr
  clear he hv
  generalize (18446744073709551616 * 18446744073709551616 - 1 - z * 18446744073709551616) % z = A at *
  generalize (v * x1 + x0) % 18446744073709551616 = f at *
  have id : (x1 * 18446744073709551616 + x0 - z * (e + x1)) * 18446744073709551616 = (1 + A) * x1 + (18446744073709551616 - z) * x0 + z * f := by
    have a1 : z * v * x1 = (18446744073709551616 * 18446744073709551616 - 1 - z * 18446744073709551616 - A) * x1 := by rw [← hr]; grind
    have a2 : z * (18446744073709551616 * e) = z * (v * x1 + x0 - f) := by rw [← hm]; grind
    grind
  have p1 := Int.mul_nonneg (show 0 ≤ 1 + A by omega) hx
  have p2 := Int.mul_nonneg (show 0 ≤ 18446744073709551616 - z by omega) h0
  have p3 := Int.mul_nonneg (show 0 ≤ z by omega) hm0
  have q1 := Int.mul_le_mul (show 1 + A ≤ z by omega) (show x1 ≤ z - 1 by omega) hx (show 0 ≤ z by omega)
  have q2 := Int.mul_le_mul_of_nonneg_left (show x0 ≤ 18446744073709551615 by omega) (show 0 ≤ 18446744073709551616 - z by omega)
  have q3 := Int.mul_le_mul_of_nonneg_left (show f ≤ 18446744073709551615 by omega) (show 0 ≤ z by omega)
  have q4 := Int.mul_lt_mul_of_pos_left h2 (show 0 < z by omega)
  have q5 : z * (z - 1) = z * z - z := by grind
  constructor
  · rcases Int.lt_or_le (x1 * 18446744073709551616 + x0 - z * (e + x1)) 0 with g | g
    · omega
    · exact g
  · have : (x1 * 18446744073709551616 + x0 - z * (e + x1)) * 18446744073709551616 < (18446744073709551616 + z) * 18446744073709551616 := by rw [id]; omega
    exact Int.lt_of_mul_lt_mul_right this (by omega)
theorem div_of {X z q r : Int} (hz : 0 < z) (h : X = q * z + r) (h0 : 0 ≤ r) (h1 : r < z) : X / z = q ∧ X % z = r := by
  constructor
  · rw [h, Int.add_comm, Int.add_mul_ediv_right _ _ (by omega), Int.ediv_eq_zero_of_lt h0 h1, Int.zero_add]
  · rw [h, Int.add_comm, Int.add_mul_emod_self_right, Int.emod_eq_of_lt h0 h1]
theorem j0_is {z x1 x0 s : Int} (h1 : 9223372036854775808 ≤ z) (h2 : z < 18446744073709551616) (hx : 0 ≤ x1) (hx' : x1 < z) (h0 : 0 ≤ x0) (h0' : x0 < 18446744073709551616) (hs : 0 ≤ s) (hw : 0 ≤ rec z ∧ rec z < 18446744073709551616) (k : Nat) (hk : 1 ≤ k) :
    bigall_divWW.j0 k x1 x0 z (rec z) s = some ((x1 * 18446744073709551616 + x0) / z, shr .u64 ((x1 * 18446744073709551616 + x0) % z) s) := by
  obtain ⟨k, rfl⟩ : ∃ j, k = j + 1 := ⟨k - 1, by omega⟩
  obtain ⟨g0, g1⟩ := guess (x1 := x1) (x0 := x0) h1 h2 rfl hx hx' h0 h0' rfl
  have hmul := KnN.prod_le hw.1 (show rec z ≤ 18446744073709551615 by omega) hx (show x1 ≤ 18446744073709551615 by omega)
  have ee : (rec z * x1 + x0) / 18446744073709551616 = rec z * x1 / 18446744073709551616 + (rec z * x1 % 18446744073709551616 + x0) / 18446744073709551616 := by omega
  generalize hE : (rec z * x1 + x0) / 18446744073709551616 = E at *
  have hE0 : 0 ≤ E := by omega
  have hqz := Int.mul_comm z (E + x1)
  have hq1 : E + x1 < 18446744073709551616 := by
    rcases Int.lt_or_le (E + x1) 18446744073709551616 with g | g
    · exact g
    · have := Int.mul_le_mul_of_nonneg_left g (show 0 ≤ z by omega)
      have h3 : x1 * 18446744073709551616 + 18446744073709551616 ≤ z * 18446744073709551616 := by
        have := Int.mul_le_mul_of_nonneg_right (show x1 + 1 ≤ z by omega) (show (0 : Int) ≤ 18446744073709551616 by omega)
        omega
      omega
  have hdq := KnN.prod_le (show 0 ≤ z by omega) (show z ≤ 18446744073709551615 by omega) (show 0 ≤ E + x1 by omega) (show E + x1 ≤ 18446744073709551615 by omega)
  rw [bigall_divWW.j0]
  unfold bits_Mul.f bits_Add.f bits_Sub.f
  rw [if_pos ⟨hw, hx, by omega⟩, Option.bind_some, if_pos ⟨⟨by omega, by omega⟩, ⟨h0, h0'⟩, by omega, by omega⟩, Option.bind_some]
  simp only []
  rw [if_pos ⟨⟨by omega, by omega⟩, ⟨hx, by omega⟩, by omega, by omega⟩, Option.bind_some]
  simp only []
  have eq : (rec z * x1 / 18446744073709551616 + x1 + (rec z * x1 % 18446744073709551616 + x0 + 0) / 18446744073709551616) % 18446744073709551616 = E + x1 := by omega
  rw [eq, if_pos ⟨⟨by omega, by omega⟩, by omega, by omega⟩, Option.bind_some]
  simp only []
  have hb := BigA.bor_le x0 (z * (E + x1) % 18446744073709551616) 0
  have hbd : BigA.bor x0 (z * (E + x1) % 18446744073709551616) 0 = if x0 < z * (E + x1) % 18446744073709551616 + 0 then 1 else 0 := rfl
  rw [if_pos ⟨⟨h0, h0'⟩, ⟨by omega, by omega⟩, by omega, by omega⟩, Option.bind_some]
  simp only []
  rw [if_pos ⟨⟨by omega, by omega⟩, ⟨by omega, by omega⟩, hb.1, hb.2⟩, Option.bind_some]
  simp only []
  generalize hD : z * (E + x1) = D at *
  have hR : ((x1 - D / 18446744073709551616 - BigA.bor x0 (D % 18446744073709551616) 0) % 18446744073709551616) * 18446744073709551616 + (x0 - D % 18446744073709551616 - 0) % 18446744073709551616 = x1 * 18446744073709551616 + x0 - D := by
    rw [hbd]
    split <;> omega
  have hr0a : 0 ≤ (x0 - D % 18446744073709551616 - 0) % 18446744073709551616 := by omega
  have hr0b : (x0 - D % 18446744073709551616 - 0) % 18446744073709551616 < 18446744073709551616 := by omega
  have hr1a : 0 ≤ (x1 - D / 18446744073709551616 - BigA.bor x0 (D % 18446744073709551616) 0) % 18446744073709551616 := by omega
  clear hbd hb ee hE hmul eq hdq
  generalize (x1 - D / 18446744073709551616 - BigA.bor x0 (D % 18446744073709551616) 0) % 18446744073709551616 = r1 at *
  generalize (x0 - D % 18446744073709551616 - 0) % 18446744073709551616 = r0 at *
  by_cases hr : r1 = 0
  · rw [if_pos hr]
    by_cases hc : r0 ≥ z
    · obtain ⟨d1, d2⟩ := div_of (X := x1 * 18446744073709551616 + x0) (z := z) (q := E + x1 + 1) (r := r0 - z) (by omega) (by rw [Int.add_mul (E + x1), Int.one_mul]; omega) (by omega) (by omega)
      have hb2 : E + x1 + 1 < 18446744073709551616 := by rw [← d1]; exact Int.ediv_lt_of_lt_mul (by omega) (by omega)
      rw [if_pos hc, if_pos hs, wu (E + x1 + 1) (by omega) hb2, wu (r0 - z) (by omega) (by omega), d1, d2]
    · obtain ⟨d1, d2⟩ := div_of (X := x1 * 18446744073709551616 + x0) (z := z) (q := E + x1) (r := r0) (by omega) (by omega) (by omega) (by omega)
      rw [if_neg hc, if_pos hs, d1, d2]
  · rw [if_neg hr]
    have hr' : r1 = 1 := by omega
    have hw2 : IntKind.u64.wrap (r0 - z) = r0 + 18446744073709551616 - z := by rw [IntKind.wrap_u64]; omega
    rw [hw2]
    by_cases hc : r0 + 18446744073709551616 - z ≥ z
    · obtain ⟨d1, d2⟩ := div_of (X := x1 * 18446744073709551616 + x0) (z := z) (q := E + x1 + 1 + 1) (r := r0 + 18446744073709551616 - z - z) (by omega) (by rw [Int.add_mul (E + x1 + 1), Int.add_mul (E + x1), Int.one_mul]; omega) (by omega) (by omega)
      have hb2 : E + x1 + 1 + 1 < 18446744073709551616 := by rw [← d1]; exact Int.ediv_lt_of_lt_mul (by omega) (by omega)
      rw [if_pos hc, if_pos hs, wu (E + x1 + 1) (by omega) (by omega), wu (E + x1 + 1 + 1) (by omega) hb2, wu (r0 + 18446744073709551616 - z - z) (by omega) (by omega), d1, d2]
    · obtain ⟨d1, d2⟩ := div_of (X := x1 * 18446744073709551616 + x0) (z := z) (q := E + x1 + 1) (r := r0 + 18446744073709551616 - z) (by omega) (by rw [Int.add_mul (E + x1), Int.one_mul]; omega) (by omega) (by omega)
      have hb2 : E + x1 + 1 < 18446744073709551616 := by rw [← d1]; exact Int.ediv_lt_of_lt_mul (by omega) (by omega)
      rw [if_neg hc, if_pos hs, wu (E + x1 + 1) (by omega) hb2, d1, d2]
theorem rec_word {z : Int} (h1 : 9223372036854775808 ≤ z) (h2 : z < 18446744073709551616) : 0 ≤ rec z ∧ rec z < 18446744073709551616 := by
  unfold rec
  exact ⟨Int.ediv_nonneg (by omega) (by omega), Int.ediv_lt_of_lt_mul (by omega) (by omega)⟩
theorem recip_is {y : Int} (h0 : 0 < y) (h1 : y < 18446744073709551616) (k : Nat) (hk : 40000000000 ≤ k) :
    ∃ L : Nat, Lib.bitLen y.toNat = L ∧ 1 ≤ L ∧ L ≤ 64 ∧ (2 : Int) ^ (L - 1) ≤ y ∧ y < (2 : Int) ^ L ∧ bigall_reciprocalWord.f k y = some (rec (y * (2 : Int) ^ (64 - L))) := by
  obtain ⟨L, eL, L1, L64, hy1, hy2⟩ := width h0 h1
  obtain ⟨n1, n2⟩ := norm_y L1 L64 hy1 hy2
  refine ⟨L, eL, L1, L64, hy1, hy2, ?_⟩
  have esy : shl .u64 y (64 - (L : Int)) = y * (2 : Int) ^ (64 - L) := by rw [shl_is L64]; exact Int.emod_eq_of_lt (by omega) n2
  unfold bigall_reciprocalWord.f
  rw [nlz_is (by omega) h1 eL L64 k, Option.bind_some, if_pos (by omega), esy, xor_u64 _ (by omega) n2]
  generalize y * (2 : Int) ^ (64 - L) = z at *
  rw [bitsDiv_is (by omega) (by omega) n2 (by omega) (by omega) k hk, Option.bind_some]
  have e : (18446744073709551615 - z) * 18446744073709551616 + 18446744073709551615 = 18446744073709551616 * 18446744073709551616 - 1 - z * 18446744073709551616 := by omega
  rw [e]
  rfl
theorem divWW_is {y x1 x0 : Int} {L : Nat} (h0 : 0 < y) (h1 : y < 18446744073709551616) (eL : Lib.bitLen y.toNat = L) (L1 : 1 ≤ L) (L64 : L ≤ 64) (hy1 : (2 : Int) ^ (L - 1) ≤ y) (hy2 : y < (2 : Int) ^ L) (hx : 0 ≤ x1) (hx' : x1 < y) (hl : 0 ≤ x0) (hl' : x0 < 18446744073709551616) (k : Nat) (hk : 1 ≤ k) :
    bigall_divWW.f k x1 x0 y (rec (y * (2 : Int) ^ (64 - L))) = some ((x1 * 18446744073709551616 + x0) / y, (x1 * 18446744073709551616 + x0) % y) := by
  obtain ⟨n1, n2⟩ := norm_y L1 L64 hy1 hy2
  have hrw := rec_word n1 n2
  unfold bigall_divWW.f
  rw [nlz_is (by omega) h1 eL L64 k, Option.bind_some]
  by_cases hL : 64 - (L : Int) = 0
  · obtain rfl : L = 64 := by omega
    rw [if_pos hL]
    have e1 : y * (2 : Int) ^ (64 - 64) = y := by rw [Nat.sub_self, Int.pow_zero, Int.mul_one]
    rw [e1] at n1 n2 hrw ⊢
    rw [hL, j0_is n1 n2 hx hx' hl hl' (by omega) hrw k hk]
    congr 2
    unfold shr
    rw [show min (0 : Int).toNat IntKind.u64.bits = 0 from rfl, Int.pow_zero, Int.ediv_one]
  · obtain ⟨u1, u2, u3, u4⟩ := up L1 L64 hy2 hx hx' hl hl'
    have esy : shl .u64 y (64 - (L : Int)) = y * (2 : Int) ^ (64 - L) := by rw [shl_is L64]; exact Int.emod_eq_of_lt (by omega) n2
    have esl : shl .u64 x0 (64 - (L : Int)) = (x0 * (2 : Int) ^ (64 - L)) % 18446744073709551616 := shl_is L64
    rw [if_neg hL, if_pos (by omega), wu (64 - (64 - (L : Int))) (by omega) (by omega), if_pos (by omega), show 64 - (64 - (L : Int)) = (L : Int) by omega, u1, esy, esl]
    have hm0 := Int.emod_nonneg (x0 * (2 : Int) ^ (64 - L)) (show (18446744073709551616 : Int) ≠ 0 by omega)
    have hm1 := Int.emod_lt_of_pos (x0 * (2 : Int) ^ (64 - L)) (show (0 : Int) < 18446744073709551616 by omega)
    rw [j0_is n1 n2 u3 u2 hm0 hm1 (by omega) hrw k hk, u4]
    obtain ⟨d1, d2⟩ := div_scaled (N := x1 * 18446744073709551616 + x0) (y := y) (pow_pos (64 - L)) (by omega)
    rw [d1, d2, shr_back L64, Int.mul_ediv_cancel _ (Int.ne_of_gt (pow_pos (64 - L)))]
theorem mulAdd_is {x y c : Int} (hx : 0 ≤ x) (hx' : x < 18446744073709551616) (hy : 0 ≤ y) (hy' : y < 18446744073709551616) (hc : 0 ≤ c) (hc' : c < 18446744073709551616) :
    bigall_mulAddWWW_g.f x y c = some ((x * y + c) / 18446744073709551616, (x * y + c) % 18446744073709551616) := by
  have hmul := KnN.prod_le hx (show x ≤ 18446744073709551615 by omega) hy (show y ≤ 18446744073709551615 by omega)
  unfold bigall_mulAddWWW_g.f bits_Mul.f bits_Add.f
  rw [if_pos ⟨⟨hx, hx'⟩, hy, hy'⟩, Option.bind_some]
  simp only []
  rw [if_pos ⟨⟨by omega, by omega⟩, ⟨hc, hc'⟩, by omega, by omega⟩, Option.bind_some]
  simp only []
  rw [wu (x * y / 18446744073709551616 + (x * y % 18446744073709551616 + c + 0) / 18446744073709551616) (by omega) (by omega)]
  congr 2 <;> omega
theorem mulWW_is {x y : Int} (hx : 0 ≤ x) (hx' : x < 18446744073709551616) (hy : 0 ≤ y) (hy' : y < 18446744073709551616) :
    bigall_mulWW.f x y = some (x * y / 18446744073709551616, x * y % 18446744073709551616) := by
  unfold bigall_mulWW.f bits_Mul.f
  rw [if_pos ⟨⟨hx, hx'⟩, hy, hy'⟩, Option.bind_some]
end Go.Proofs.YtmmnopmccamjcaaGreatDoor.BigW
