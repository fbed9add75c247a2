/- What the package's division of words answers. No walk in sight. -/
import Derived.Test.YtmmnopmccamjcaaGreatDoorOBig
import Derived.Lib.ItoaNum
import Derived.Test.YtmmnopmccamjcaaGreatDoorKnN
import Derived.Test.YtmmnopmccamjcaaGreatDoorCom
namespace Go.Proofs.YtmmnopmccamjcaaGreatDoor.BigN
open Go Go.RowKit Go.Proofs.YtmmnopmccamjcaaGreatDoor.PBig Go.Proofs.YtmmnopmccamjcaaGreatDoorW.PrintWords Go.Proofs.YtmmnopmccamjcaaGreatDoorW.PrintMore Go.Proofs.YtmmnopmccamjcaaGreatDoor.KnN Go.Com
set_option linter.unusedVariables false
theorem wu (n : Int) (h : 0 ≤ n) (h1 : n < 18446744073709551616) : IntKind.u64.wrap n = n := by rw [IntKind.wrap_u64]; omega
variable {y y1 y0 s u n n0 q r : Int}
theorem l0_is (e : y = y1 * 4294967296 + y0) (h1 : 2147483648 ≤ y1) (h1' : y1 < 4294967296) (h0 : 0 ≤ y0) (h0' : y0 < 4294967296) (hu : 0 ≤ u) (huy : u < y) (hn : 0 ≤ n) (hn' : n < 4294967296) (d : Nat) :
    ∀ (k : Nat) (q r : Int), q - Q u n y ≤ d → Q u n y ≤ q → q ≤ 4294967297 → r = u - q * y1 → 0 ≤ r → r < 4294967296 → 2 * d + 2 ≤ k →
    ∃ k', k ≤ k' + 2 * d + 2 ∧ bigall_bitsDiv64.l0 k y s y1 y0 u n n0 q r = bigall_bitsDiv64.j2 k' y s y1 y0 u n n0 (Q u n y) := by
  have hy : 0 < y := by omega
  have hQ := q_nonneg (n := n) hy hu hn
  induction d with
  | zero =>
    intro k q r hd hq hq' hr hr0 hr1 hk
    obtain ⟨k, rfl⟩ : ∃ j, k = j + 1 + 1 := ⟨k - 2, by omega⟩
    obtain rfl : q = Q u n y := by omega
    have hp := prod_le (a := Q u n y) (b := y0) (A := 4294967297) (B := 4294967295) hQ hq' h0 (by omega)
    have hf : ¬ (Q u n y ≥ 4294967296 ∨ Q u n y * y0 > 4294967296 * r + n) := fun h => by
      have := too_great e hy huy hn' hr h; omega
    refine ⟨k, by omega, ?_⟩
    rw [bigall_bitsDiv64.l0, if_neg (by omega), wu (Q u n y * y0) (by omega) (by omega), wu (4294967296 * r) (by omega) (by omega), wu (4294967296 * r + n) (by omega) (by omega), decide_eq_false (by omega), bigall_bitsDiv64.j1, if_neg (by simp)]
  | succ d ih =>
    intro k q r hd hq hq' hr hr0 hr1 hk
    obtain ⟨k, rfl⟩ : ∃ j, k = j + 1 + 1 := ⟨k - 2, by omega⟩
    have hp := prod_le (a := q) (b := y0) (A := 4294967297) (B := 4294967295) (by omega) hq' h0 (by omega)
    have step : ∀ b : Bool, (b = true ↔ (q ≥ 4294967296 ∨ q * y0 > 4294967296 * r + n)) → ∃ k', k + 1 + 1 ≤ k' + 2 * (d + 1) + 2 ∧ bigall_bitsDiv64.j1 (k + 1) y s y1 y0 u n n0 q r b = bigall_bitsDiv64.j2 k' y s y1 y0 u n n0 (Q u n y) := by
      intro b hb
      cases b with
      | false =>
        have hf : ¬ (q ≥ 4294967296 ∨ q * y0 > 4294967296 * r + n) := fun h => by have := hb.mpr h; cases this
        have := small_enough (n := n) e hy hr (by omega)
        obtain rfl : q = Q u n y := by omega
        exact ⟨k, by omega, by rw [bigall_bitsDiv64.j1, if_neg (by simp)]⟩
      | true =>
        have ht := too_great e hy huy hn' hr (hb.mp rfl)
        have hr' : r + y1 = u - (q - 1) * y1 := by rw [hr]; grind
        rw [bigall_bitsDiv64.j1, if_pos rfl, wu (r + y1) (by omega) (by omega), wu (q - 1) (by omega) (by omega)]
        by_cases hb2 : r + y1 ≥ 4294967296
        · rw [if_pos hb2]
          have hp2 := prod_le (a := q - 1) (b := y0) (A := 4294967296) (B := 4294967295) (by omega) (by omega) h0 (by omega)
          have := small_enough (q := q - 1) (r := r + y1) (n := n) e hy hr' (by omega)
          rw [show q - 1 = Q u n y by omega]
          exact ⟨k, by omega, rfl⟩
        · rw [if_neg hb2]
          obtain ⟨k', g1, g2⟩ := ih k (q - 1) (r + y1) (by omega) ht (by omega) hr' (by omega) (by omega) (by omega)
          exact ⟨k', by omega, g2⟩
    rw [bigall_bitsDiv64.l0]
    by_cases hq2 : q ≥ 4294967296
    · rw [if_pos hq2]
      exact step true ⟨fun _ => .inl hq2, fun _ => rfl⟩
    · rw [if_neg hq2, wu (q * y0) (by omega) (by omega), wu (4294967296 * r) (by omega) (by omega), wu (4294967296 * r + n) (by omega) (by omega)]
      refine step _ ?_
      rw [decide_eq_true_iff]
      exact ⟨fun h => .inr h, fun h => h.resolve_left hq2⟩
theorem rem_is (hy : 0 < y) (hy' : y < 18446744073709551616) (hu : 0 ≤ u) (hn : 0 ≤ n) : IntKind.u64.wrap (IntKind.u64.wrap (IntKind.u64.wrap (u * 4294967296) + n) - IntKind.u64.wrap (Q u n y * y)) = u * 4294967296 + n - Q u n y * y := by
  have h := rest (u := u) (n := n) hy
  rw [IntKind.wrap_u64, IntKind.wrap_u64, IntKind.wrap_u64, IntKind.wrap_u64]
  omega
theorem l1_is (e : y = y1 * 4294967296 + y0) (h1 : 2147483648 ≤ y1) (h1' : y1 < 4294967296) (h0 : 0 ≤ y0) (h0' : y0 < 4294967296) (hy2 : y < 18446744073709551616) (hs : 0 ≤ s) (hu : 0 ≤ u) (huy : u < y) (hn : 0 ≤ n) (hn' : n < 4294967296) {c : Int} (hc : 0 ≤ c) (hc' : c < 4294967296) (d : Nat) :
    ∀ (k : Nat) (q r : Int), q - Q u n y ≤ d → Q u n y ≤ q → q ≤ 4294967297 → r = u - q * y1 → 0 ≤ r → r < 4294967296 → 2 * d + 2 ≤ k →
    bigall_bitsDiv64.l1 k y s y1 y0 n c r u q = some (c * 4294967296 + Q u n y, shr .u64 (u * 4294967296 + n - Q u n y * y) s) := by
  have hy : 0 < y := by omega
  have hQ := q_nonneg (n := n) hy hu hn
  have hQ' := q_small (n := n) hy huy hn'
  induction d with
  | zero =>
    intro k q r hd hq hq' hr hr0 hr1 hk
    obtain ⟨k, rfl⟩ : ∃ j, k = j + 1 + 1 := ⟨k - 2, by omega⟩
    obtain rfl : q = Q u n y := by omega
    have hp := prod_le (a := Q u n y) (b := y0) (A := 4294967297) (B := 4294967295) hQ hq' h0 (by omega)
    have hf : ¬ (Q u n y ≥ 4294967296 ∨ Q u n y * y0 > 4294967296 * r + n) := fun h => by
      have := too_great e hy huy hn' hr h; omega
    rw [bigall_bitsDiv64.l1, if_neg (by omega), wu (Q u n y * y0) (by omega) (by omega), wu (4294967296 * r) (by omega) (by omega), wu (4294967296 * r + n) (by omega) (by omega), decide_eq_false (by omega), bigall_bitsDiv64.j4, if_neg (by simp), if_pos hs, rem_is hy hy2 hu hn, wu (c * 4294967296) (by omega) (by omega), wu (c * 4294967296 + Q u n y) (by omega) (by omega)]
  | succ d ih =>
    intro k q r hd hq hq' hr hr0 hr1 hk
    obtain ⟨k, rfl⟩ : ∃ j, k = j + 1 + 1 := ⟨k - 2, by omega⟩
    have hp := prod_le (a := q) (b := y0) (A := 4294967297) (B := 4294967295) (by omega) hq' h0 (by omega)
    have step : ∀ b : Bool, (b = true ↔ (q ≥ 4294967296 ∨ q * y0 > 4294967296 * r + n)) → bigall_bitsDiv64.j4 (k + 1) y s y1 y0 n c r u q b = some (c * 4294967296 + Q u n y, shr .u64 (u * 4294967296 + n - Q u n y * y) s) := by
      intro b hb
      cases b with
      | false =>
        have hf : ¬ (q ≥ 4294967296 ∨ q * y0 > 4294967296 * r + n) := fun h => by have := hb.mpr h; cases this
        have := small_enough (n := n) e hy hr (by omega)
        obtain rfl : q = Q u n y := by omega
        rw [bigall_bitsDiv64.j4, if_neg (by simp), if_pos hs, rem_is hy hy2 hu hn, wu (c * 4294967296) (by omega) (by omega), wu (c * 4294967296 + Q u n y) (by omega) (by omega)]
      | true =>
        have ht := too_great e hy huy hn' hr (hb.mp rfl)
        have hr' : r + y1 = u - (q - 1) * y1 := by rw [hr]; grind
        rw [bigall_bitsDiv64.j4, if_pos rfl, wu (r + y1) (by omega) (by omega), wu (q - 1) (by omega) (by omega)]
        by_cases hb2 : r + y1 ≥ 4294967296
        · rw [if_pos hb2]
          have hp2 := prod_le (a := q - 1) (b := y0) (A := 4294967296) (B := 4294967295) (by omega) (by omega) h0 (by omega)
          have := small_enough (q := q - 1) (r := r + y1) (n := n) e hy hr' (by omega)
          rw [show q - 1 = Q u n y by omega, if_pos hs, rem_is hy hy2 hu hn, wu (c * 4294967296) (by omega) (by omega), wu (c * 4294967296 + Q u n y) (by omega) (by omega)]
        · rw [if_neg hb2]
          exact ih k (q - 1) (r + y1) (by omega) ht (by omega) hr' (by omega) (by omega) (by omega)
    rw [bigall_bitsDiv64.l1]
    by_cases hq2 : q ≥ 4294967296
    · rw [if_pos hq2]
      exact step true ⟨fun _ => .inl hq2, fun _ => rfl⟩
    · rw [if_neg hq2, wu (q * y0) (by omega) (by omega), wu (4294967296 * r) (by omega) (by omega), wu (4294967296 * r + n) (by omega) (by omega)]
      refine step _ ?_
      rw [decide_eq_true_iff]
      exact ⟨fun h => .inr h, fun h => h.resolve_left hq2⟩
/-- a number's width -/
theorem width {y : Int} (h0 : 0 < y) (h1 : y < 18446744073709551616) : ∃ L : Nat, Lib.bitLen y.toNat = L ∧ 1 ≤ L ∧ L ≤ 64 ∧ (2 : Int) ^ (L - 1) ≤ y ∧ y < (2 : Int) ^ L := by
  obtain ⟨m, rfl⟩ := Int.eq_ofNat_of_zero_le (show 0 ≤ y by omega)
  have h64 : (2 : Nat) ^ 64 = 18446744073709551616 := by decide
  have hm : m < 2 ^ 64 := by omega
  obtain ⟨a, b, c⟩ := Go.Lib.bitLenAux_bounds 64 m hm (by omega)
  refine ⟨Lib.bitLen m, rfl, a, Lib.bitLen_le m 64 (by omega) hm, ?_, ?_⟩
  · exact_mod_cast b
  · exact_mod_cast c
theorem two_pow (L : Nat) (h : L ≤ 64) : (2 : Int) ^ (64 - L) * (2 : Int) ^ L = 18446744073709551616 := by
  rw [← Int.pow_add, show 64 - L + L = 64 by omega]; rfl
theorem pow_pos (L : Nat) : 0 < (2 : Int) ^ L := Int.pow_pos (by omega)
/-- the top of a number moved up to the word's end -/
theorem norm_y {y : Int} {L : Nat} (hL : 1 ≤ L) (hL' : L ≤ 64) (h1 : (2 : Int) ^ (L - 1) ≤ y) (h2 : y < (2 : Int) ^ L) : 9223372036854775808 ≤ y * (2 : Int) ^ (64 - L) ∧ y * (2 : Int) ^ (64 - L) < 18446744073709551616 := by
  have hp := pow_pos (64 - L)
  have e := two_pow L hL'
  have e2 : (2 : Int) ^ (64 - L) * (2 : Int) ^ (L - 1) = 9223372036854775808 := by
    rw [← Int.pow_add, show 64 - L + (L - 1) = 63 by omega]; rfl
  have a := Int.mul_le_mul_of_nonneg_left h1 (Int.le_of_lt hp)
  have b := Int.mul_lt_mul_of_pos_left h2 hp
  rw [Int.mul_comm y]
  omega
theorem shl_is {x : Int} {L : Nat} (hL : L ≤ 64) : shl .u64 x (64 - (L : Int)) = (x * (2 : Int) ^ (64 - L)) % 18446744073709551616 := by
  unfold shl
  rw [IntKind.wrap_u64, show (64 - (L : Int)).toNat = 64 - L by omega, show min (64 - L) IntKind.u64.bits = 64 - L from Nat.min_eq_left (by show 64 - L ≤ 64; omega)]
theorem shr_is {x : Int} {L : Nat} (hL : L ≤ 64) : shr .u64 x (L : Int) = x / (2 : Int) ^ L := by
  unfold shr
  rw [Int.toNat_natCast, show min L IntKind.u64.bits = L from Nat.min_eq_left hL]
theorem shr_back {x : Int} {L : Nat} (hL : L ≤ 64) : shr .u64 x (64 - (L : Int)) = x / (2 : Int) ^ (64 - L) := by
  have := shr_is (x := x) (L := 64 - L) (by omega)
  rw [show ((64 - L : Nat) : Int) = 64 - (L : Int) by omega] at this
  exact this
/-- two words moved up: the upper one takes what falls out of the lower one -/
theorem up {hi lo y : Int} {L : Nat} (hL : 1 ≤ L) (hL' : L ≤ 64) (h2 : y < (2 : Int) ^ L) (hh : 0 ≤ hi) (hy : hi < y) (hl : 0 ≤ lo) (hl' : lo < 18446744073709551616) :
    Go.bits .or .u64 (shl .u64 hi (64 - (L : Int))) (shr .u64 lo (L : Int)) = hi * (2 : Int) ^ (64 - L) + lo / (2 : Int) ^ L ∧
    hi * (2 : Int) ^ (64 - L) + lo / (2 : Int) ^ L < y * (2 : Int) ^ (64 - L) ∧ 0 ≤ hi * (2 : Int) ^ (64 - L) + lo / (2 : Int) ^ L ∧
    (hi * (2 : Int) ^ (64 - L) + lo / (2 : Int) ^ L) * 18446744073709551616 + (lo * (2 : Int) ^ (64 - L)) % 18446744073709551616 = (hi * 18446744073709551616 + lo) * (2 : Int) ^ (64 - L) := by
  have hp := pow_pos (64 - L)
  have hr := pow_pos L
  have e := two_pow L hL'
  have b := Int.mul_lt_mul_of_pos_left h2 hp
  have c := Int.mul_le_mul_of_nonneg_right (show hi + 1 ≤ y by omega) (Int.le_of_lt hp)
  rw [Int.add_mul, Int.one_mul] at c
  have hd : lo / (2 : Int) ^ L < (2 : Int) ^ (64 - L) := Int.ediv_lt_of_lt_mul hr (by omega)
  have hd0 : 0 ≤ lo / (2 : Int) ^ L := Int.ediv_nonneg hl (Int.le_of_lt hr)
  have hh0 := Int.mul_nonneg hh (Int.le_of_lt hp)
  have hcomm : (2 : Int) ^ (64 - L) * y = y * (2 : Int) ^ (64 - L) := Int.mul_comm _ _
  have hx : hi * (2 : Int) ^ (64 - L) < 18446744073709551616 := by omega
  have hq : lo * (2 : Int) ^ (64 - L) / 18446744073709551616 = lo / (2 : Int) ^ L := by
    rw [← e, Int.mul_comm lo]; exact Int.mul_ediv_mul_of_pos _ _ hp
  have hm := Int.emod_add_mul_ediv (lo * (2 : Int) ^ (64 - L)) 18446744073709551616
  rw [hq] at hm
  refine ⟨?_, by omega, by omega, ?_⟩
  · rw [shl_is hL', shr_is hL', Int.emod_eq_of_lt hh0 hx]
    exact bits_join .u64 64 (by decide) wraps_u64 (64 - L) _ _ hh0 (Int.mul_emod_left _ _) hx hd0 hd (Int.lt_of_lt_of_le (show lo / (2 : Int) ^ L < 18446744073709551616 by omega) (show (18446744073709551616 : Int) ≤ 2 ^ 64 by decide))
  · have e1 : (hi * 18446744073709551616 + lo) * (2 : Int) ^ (64 - L) = hi * (2 : Int) ^ (64 - L) * 18446744073709551616 + lo * (2 : Int) ^ (64 - L) := by grind
    rw [e1]
    omega
theorem div_scaled {N y p : Int} (hp : 0 < p) (hy : 0 < y) : N * p / (y * p) = N / y ∧ N * p % (y * p) = (N % y) * p := by
  refine ⟨Int.mul_ediv_mul_of_pos_left _ _ hp, ?_⟩
  rw [Int.mul_comm N, Int.mul_comm y, Int.mul_emod_mul_of_pos _ _ hp, Int.mul_comm]
theorem bitsDiv64_is {hi lo y : Int} (hh : 0 ≤ hi) (hy : hi < y) (hy' : y < 18446744073709551616) (hl : 0 ≤ lo) (hl' : lo < 18446744073709551616) (k : Nat) (hk : 40000000000 ≤ k) :
    bigall_bitsDiv64.f k hi lo y = some ((hi * 18446744073709551616 + lo) / y, (hi * 18446744073709551616 + lo) % y) := by
  rw [bigall_bitsDiv64.f, if_neg (by omega), if_neg (by omega)]
  by_cases h0 : hi = 0
  · rw [if_pos h0, Int.tdiv_eq_ediv_of_nonneg hl, Int.tmod_eq_emod_of_nonneg hl, h0, Int.zero_mul, Int.zero_add]
    have h1 : lo / y ≤ lo := Int.ediv_le_self _ hl
    have h2 : 0 ≤ lo / y := Int.ediv_nonneg hl (by omega)
    rw [wu _ h2 (by omega)]
  · rw [if_neg h0]
    obtain ⟨L, eL, L1, L64, hy1, hy2⟩ := width (y := y) (by omega) hy'
    obtain ⟨n1, n2⟩ := norm_y L1 L64 hy1 hy2
    obtain ⟨u1, u2, u3, u4⟩ := up L1 L64 hy2 hh hy hl hl'
    have es : bits_LeadingZeros64.f k y = some (64 - (L : Int)) := by
      unfold bits_LeadingZeros64.f
      rw [if_pos (by omega), eL]
    have esy : shl .u64 y (64 - (L : Int)) = y * (2 : Int) ^ (64 - L) := by rw [shl_is L64]; exact Int.emod_eq_of_lt (by omega) n2
    have esl : shl .u64 lo (64 - (L : Int)) = (lo * (2 : Int) ^ (64 - L)) % 18446744073709551616 := shl_is L64
    rw [es, Option.bind_some, wu (64 - (L : Int)) (by omega) (by omega), if_pos (by omega), wu (64 - (64 - (L : Int))) (by omega) (by omega), if_pos (by omega), show 64 - (64 - (L : Int)) = (L : Int) by omega, u1, esy, esl]
    have hsc := div_scaled (N := hi * 18446744073709551616 + lo) (y := y) (pow_pos (64 - L)) (by omega)
    rw [← u4] at hsc
    have hback : ∀ x : Int, shr .u64 (x * (2 : Int) ^ (64 - L)) (64 - (L : Int)) = x := fun x => by
      rw [shr_back L64]; exact Int.mul_ediv_cancel _ (Int.ne_of_gt (pow_pos (64 - L)))
    have hm0 := Int.emod_nonneg (lo * (2 : Int) ^ (64 - L)) (show (18446744073709551616 : Int) ≠ 0 by omega)
    have hm1 := Int.emod_lt_of_pos (lo * (2 : Int) ^ (64 - L)) (show (0 : Int) < 18446744073709551616 by omega)
    have hgoal : ∀ x y', x / y' = (hi * 18446744073709551616 + lo) / y → x % y' = (hi * 18446744073709551616 + lo) % y * (2 : Int) ^ (64 - L) → some (x / y', shr .u64 (x % y') (64 - (L : Int))) = some ((hi * 18446744073709551616 + lo) / y, (hi * 18446744073709551616 + lo) % y) := by
      intro x y' g1 g2
      rw [g1, g2, hback]
    clear hback es esy esl u1 u4
    generalize (2 : Int) ^ (64 - L) = P at *
    generalize hi * P + lo / (2 : Int) ^ L = u at *
    generalize (lo * P) % 18446744073709551616 = c at *
    generalize y * P = z at *
    have hand := and_mask32 (x := c) hm0 hm1
    have hand2 := and_mask32 (x := z) (by omega) n2
    rw [hand, hand2]
    have e : z = z / 4294967296 * 4294967296 + z % 4294967296 := by omega
    have z1 : 2147483648 ≤ z / 4294967296 := by omega
    have z1' : z / 4294967296 < 4294967296 := by omega
    have z0 : 0 ≤ z % 4294967296 := by omega
    have z0' : z % 4294967296 < 4294967296 := by omega
    have c1 : 0 ≤ c / 4294967296 := by omega
    have c1' : c / 4294967296 < 4294967296 := by omega
    have c0 : 0 ≤ c % 4294967296 := by omega
    have c0' : c % 4294967296 < 4294967296 := by omega
    have ec : c = c / 4294967296 * 4294967296 + c % 4294967296 := by omega
    rw [ec] at hsc
    generalize z / 4294967296 = y1 at *
    generalize z % 4294967296 = y0 at *
    generalize c / 4294967296 = n at *
    generalize c % 4294967296 = n0 at *
    have hz : 0 < z := by omega
    obtain ⟨f1, f2, f3, f4⟩ := first e z1 z0 z0' u3 u2 c1 c1'
    obtain ⟨r1, r2⟩ := rest (u := u) (n := n) hz
    obtain ⟨g1, g2, g3, g4⟩ := first (u := u * 4294967296 + n - Q u n z * z) (n := n0) e z1 z0 z0' r1 r2 c0 c0'
    have hQ0 := q_nonneg (n := n) hz u3 c1
    have hQ1 := q_small (n := n) hz u2 c1'
    have hR0 := q_nonneg (n := n0) hz r1 c0
    obtain ⟨b1, b2⟩ := both (u := u) (n := n) (n0 := n0) hz
    have hub : u / y1 * y1 ≤ u := Int.ediv_mul_le _ (by omega)
    have hub0 : 0 ≤ u / y1 := Int.ediv_nonneg u3 (by omega)
    have hub1 := Int.mul_nonneg hub0 (show 0 ≤ y1 by omega)
    rw [if_neg (by omega), Int.tdiv_eq_ediv_of_nonneg u3, wu (u / y1) hub0 (by omega), wu (u / y1 * y1) hub1 (by omega), wu (u - u / y1 * y1) f3 (by omega)]
    obtain ⟨k', hk', el⟩ := l0_is (s := 64 - (L : Int)) (n0 := n0) e z1 z1' z0 z0' u3 u2 c1 c1' (u / y1 - Q u n z).toNat k (u / y1) (u - u / y1 * y1) (by omega) f1 f2 rfl f3 (by omega) (by omega)
    rw [el]
    obtain ⟨k', rfl⟩ : ∃ j, k' = j + 1 := ⟨k' - 1, by omega⟩
    have hub2 : (u * 4294967296 + n - Q u n z * z) / y1 * y1 ≤ u * 4294967296 + n - Q u n z * z := Int.ediv_mul_le _ (by omega)
    have hub3 : 0 ≤ (u * 4294967296 + n - Q u n z * z) / y1 := Int.ediv_nonneg r1 (by omega)
    have hub4 := Int.mul_nonneg hub3 (show 0 ≤ y1 by omega)
    rw [bigall_bitsDiv64.j2, if_neg (by omega), rem_is hz n2 u3 c1, Int.tdiv_eq_ediv_of_nonneg r1, wu ((u * 4294967296 + n - Q u n z * z) / y1) hub3 (by omega), wu ((u * 4294967296 + n - Q u n z * z) / y1 * y1) hub4 (by omega), wu (u * 4294967296 + n - Q u n z * z - (u * 4294967296 + n - Q u n z * z) / y1 * y1) g3 (by omega)]
    rw [l1_is (s := 64 - (L : Int)) e z1 z1' z0 z0' n2 (by omega) r1 r2 c0 c0' hQ0 hQ1 ((u * 4294967296 + n - Q u n z * z) / y1 - Q (u * 4294967296 + n - Q u n z * z) n0 z).toNat k' _ _ (by omega) g1 g2 rfl g3 (by omega) (by omega)]
    rw [← b1, ← b2]
    exact hgoal _ _ hsc.1 hsc.2
end Go.Proofs.YtmmnopmccamjcaaGreatDoor.BigN
