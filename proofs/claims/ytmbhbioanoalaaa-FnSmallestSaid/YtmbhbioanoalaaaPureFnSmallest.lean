/- Proved: the smallest of some numbers of 64 bits, or of their lowest 8 bits, that the package tells is the least one of them. Conditions: a bool, a number of 64 bits with a sign, and a list of such numbers that fits in memory; no others. -/
import Derived.Test.YtmbhbioanoalaaaPFnSmallestx1
import Derived.Test.YtmbhbioanoalaaaCom
namespace Go.Proofs.Ytmbhbioanoalaaa.Pure
open Go Go.RowKit Go.Proofs.Ytmbhbioanoalaaa.PFnSmallest Go.Proofs.YtmbhbioanoalaaaW.PrintWords Go.Proofs.YtmbhbioanoalaaaW.PrintLast Go.Com

def top (m : Int) (xs : List Int) : Int := xs.foldl (fun m x => if x < m then x else m) m
theorem top_cons (m x : Int) (xs : List Int) : top m (x :: xs) = top (if x < m then x else m) xs := rfl
theorem drop_at (xs : List Int) (i : Nat) (h : i < xs.length) : xs.drop i = rd xs (i : Int) :: xs.drop (i + 1) := by
  rw [List.drop_eq_getElem_cons h]; simp [rd, h]
theorem wr (i n : Nat) (h : i < n) (hn : n ≤ 2147483647) : wrap64 ((i : Int) + 1) = ((i + 1 : Nat) : Int) := by rw [w64]; omega

theorem top64 (xs : List Int) (hn : xs.length ≤ 2147483647) (d : Nat) : ∀ (k i : Nat) (m : Int), i + d = xs.length → d < k →
    mathutil_MinInt64Val.l0 k m xs (xs.length : Int) (i : Int) = some (top m (xs.drop i)) := by
  induction d with
  | zero =>
    intro k i m h hk
    obtain ⟨k, rfl⟩ : ∃ j, k = j + 1 := ⟨k - 1, by omega⟩
    simp only [mathutil_MinInt64Val.l0]
    rw [if_neg (by omega), List.drop_eq_nil_of_le (by omega)]; rfl
  | succ d ih =>
    intro k i m h hk
    obtain ⟨k, rfl⟩ : ∃ j, k = j + 1 := ⟨k - 1, by omega⟩
    simp only [mathutil_MinInt64Val.l0]
    rw [if_pos (by omega), if_pos (by omega), if_pos (by omega), drop_at xs i (by omega), top_cons, wr i xs.length (by omega) hn]
    by_cases hx : rd xs (i : Int) < m
    · rw [if_pos hx, if_pos hx]; exact ih k (i + 1) _ (by omega) (by omega)
    · rw [if_neg hx, if_neg hx]; exact ih k (i + 1) _ (by omega) (by omega)

theorem top8 (xs : List Int) (hn : xs.length ≤ 2147483647) (d : Nat) : ∀ (k i : Nat) (m : Int), i + d = xs.length → d < k →
    mathutil_MinInt8Val.l0 k m xs (xs.length : Int) (i : Int) = some (top m (xs.drop i)) := by
  induction d with
  | zero =>
    intro k i m h hk
    obtain ⟨k, rfl⟩ : ∃ j, k = j + 1 := ⟨k - 1, by omega⟩
    simp only [mathutil_MinInt8Val.l0]
    rw [if_neg (by omega), List.drop_eq_nil_of_le (by omega)]; rfl
  | succ d ih =>
    intro k i m h hk
    obtain ⟨k, rfl⟩ : ∃ j, k = j + 1 := ⟨k - 1, by omega⟩
    simp only [mathutil_MinInt8Val.l0]
    rw [if_pos (by omega), if_pos (by omega), if_pos (by omega), drop_at xs i (by omega), top_cons, wr i xs.length (by omega) hn]
    by_cases hx : rd xs (i : Int) < m
    · rw [if_pos hx, if_pos hx]; exact ih k (i + 1) _ (by omega) (by omega)
    · rw [if_neg hx, if_neg hx]; exact ih k (i + 1) _ (by omega) (by omega)

theorem i8_bd (x : Int) : -128 ≤ IntKind.i8.wrap x ∧ IntKind.i8.wrap x < 128 := by
  simp [IntKind.wrap, IntKind.bits, IntKind.signed]; split <;> omega

theorem top_bd (xs : List Int) : ∀ (m : Int), -128 ≤ m ∧ m < 128 → (∀ x ∈ xs, -128 ≤ x ∧ x < 128) → -128 ≤ top m xs ∧ top m xs < 128 := by
  induction xs with
  | nil => intro m hm _; exact hm
  | cons x xs ih =>
    intro m hm h
    rw [top_cons]
    refine ih _ ?_ (fun y hy => h y (List.mem_cons_of_mem _ hy))
    have := h x (List.mem_cons_self ..)
    split <;> omega

/-- the lowest bits, as the short way has them -/
theorem impl8 (xs : List Int) (a : Int) (hn : xs.length ≤ 2147483647) (d : Nat) : ∀ (k i : Nat) (acc : List Int), i + d = xs.length → acc = (xs.take i).map IntKind.i8.wrap → d + xs.length + 1 < k →
    impl_Smallest.l0 k a acc xs (xs.length : Int) (i : Int) = some (top (IntKind.i8.wrap a) (xs.map IntKind.i8.wrap)) := by
  induction d with
  | zero =>
    intro k i acc h hacc hk
    obtain ⟨k, rfl⟩ : ∃ j, k = j + 1 := ⟨k - 1, by omega⟩
    simp only [impl_Smallest.l0]
    rw [if_neg (by omega)]
    have hi : xs.take i = xs := List.take_of_length_le (by omega)
    rw [hi] at hacc
    have hl : acc.length = xs.length := by rw [hacc]; simp
    have := top8 acc (by omega) acc.length k 0 (IntKind.i8.wrap a) (by omega) (by omega)
    simp only [List.drop_zero] at this
    rw [mathutil_MinInt8Val.f, show (0 : Int) = ((0 : Nat) : Int) from rfl, this, hacc]
    simp only [Option.bind_some]
    have hb := top_bd (xs.map IntKind.i8.wrap) (IntKind.i8.wrap a) (i8_bd a) (by intro x hx; obtain ⟨y, _, rfl⟩ := List.mem_map.mp hx; exact i8_bd y)
    rw [w64]; congr 1; omega
  | succ d ih =>
    intro k i acc h hacc hk
    obtain ⟨k, rfl⟩ : ∃ j, k = j + 1 := ⟨k - 1, by omega⟩
    simp only [impl_Smallest.l0]
    have hl : acc.length = i := by rw [hacc]; simp; omega
    rw [if_pos (by omega), if_pos (by omega), if_pos (by omega), if_pos (by omega), wr i xs.length (by omega) hn]
    refine ih k (i + 1) _ (by omega) ?_ (by omega)
    rw [List.take_succ_eq_append_getElem (by omega), List.map_append, ← hacc]
    simp [rd, show i < xs.length by omega]

def sg (s : Bool) (x : Int) : Int := if s then IntKind.i8.wrap x else x
def wd (s : Bool) : Int := if s then 8 else 64
theorem signed_is (s : Bool) (x : Int) (h : -9223372036854775808 ≤ x ∧ x < 9223372036854775808) : spec_Signed.f (wd s) x = some (sg s x) := by
  cases s
  · show spec_Signed.f 64 x = some x
    have e : wrap64 (64 - 64) = 0 := by rw [w64]; omega
    simp only [spec_Signed.f, e, shr, shl]
    rw [if_pos (by omega)]
    simp only [Int.toNat_zero, Nat.zero_min, Int.pow_zero, Int.mul_one, Int.ediv_one]
    rw [IntKind.wrap_i64]; congr 1; omega
  · show spec_Signed.f 8 x = some (IntKind.i8.wrap x)
    have e : wrap64 (64 - 8) = 56 := by rw [w64]; omega
    have e2 : min (56 : Int).toNat (IntKind.bits .i64) = 56 := by decide
    simp only [spec_Signed.f, e, shr, shl, e2]
    rw [if_pos (by omega), IntKind.wrap_i64]
    congr 1
    simp only [IntKind.wrap, IntKind.bits, IntKind.signed]
    simp
    split <;> omega

theorem impl_is (s : Bool) (a : Int) (xs : List Int) (hn : xs.length ≤ 2147483647) (k : Nat) (hk : 2 * xs.length + 2 < k) :
    impl_Smallest.f k (wd s) a xs = some (top (sg s a) (xs.map (sg s))) := by
  cases s
  · show impl_Smallest.f k 64 a xs = _
    have := top64 xs hn xs.length k 0 a (by omega) (by omega)
    simp only [List.drop_zero] at this
    simp only [impl_Smallest.f, mathutil_MinInt64Val.f]
    rw [if_neg (by omega), show (0 : Int) = ((0 : Nat) : Int) from rfl, this]
    have e : xs.map (sg false) = xs := by rw [show sg false = id from funext fun x => rfl]; simp
    rw [e]; rfl
  · show impl_Smallest.f k 8 a xs = _
    simp only [impl_Smallest.f]
    rw [if_pos trivial]
    have := impl8 xs a hn xs.length k 0 [] (by omega) (by simp) (by omega)
    exact this

theorem mn_is (m x : Int) : mn m x = if x < m then x else m := by unfold mn; rfl

theorem law_loop (s : Bool) (xs : List Int) (hn : xs.length ≤ 2147483647) (hb : ∀ x ∈ xs, -9223372036854775808 ≤ x ∧ x < 9223372036854775808) (g : Int) (d : Nat) :
    ∀ (k i : Nat) (m : Int), i + d = xs.length → d + 3 < k →
    laws_FnSmallest.l0 k (wd s) g m xs (xs.length : Int) (i : Int) = some (g == top m ((xs.drop i).map (sg s))) := by
  induction d with
  | zero =>
    intro k i m h hk
    obtain ⟨k, rfl⟩ : ∃ j, k = j + 1 := ⟨k - 1, by omega⟩
    simp only [laws_FnSmallest.l0]
    have h1 := impl_is false 1 [] (by simp) k (by simp; omega)
    have h1' : impl_Smallest.f k 64 1 [] = some 1 := h1
    rw [if_neg (by omega), h1', List.drop_eq_nil_of_le (by omega)]
    simp [top]
  | succ d ih =>
    intro k i m h hk
    obtain ⟨k, rfl⟩ : ∃ j, k = j + 1 := ⟨k - 1, by omega⟩
    simp only [laws_FnSmallest.l0]
    rw [if_pos (by omega), if_pos (by omega), if_pos (by omega), signed_is s _ (hb _ (by simp [rd, show i < xs.length by omega]))]
    simp only [Option.bind_some]
    rw [wr i xs.length (by omega) hn, ih k (i + 1) _ (by omega) (by omega), drop_at xs i (by omega), List.map_cons, top_cons, mn_is]

theorem FnSmallest : laws_FnSmallest.Pure := by
  intro s a xs ha _ _ hxs
  have ha' := b_i64 ha
  refine ⟨2 * xs.length + 10, ?_⟩
  simp only [laws_FnSmallest.f]
  by_cases hn : (xs.length : Int) > 2147483647
  · rw [if_pos hn]
  · rw [if_neg hn]
    have hn' : xs.length ≤ 2147483647 := by omega
    have key : laws_FnSmallest.j0 (2 * xs.length + 10) a xs (wd s) = some true := by
      show laws_FnSmallest.j0 ((2 * xs.length + 9) + 1) _ _ _ = _
      simp only [laws_FnSmallest.j0]
      rw [impl_is s a xs hn' _ (by omega), signed_is s a ha']
      simp only [Option.bind_some]
      have := law_loop s xs hn' (fun x hx => b_i64 (hxs x hx)) (top (sg s a) (xs.map (sg s))) xs.length (2 * xs.length + 9) 0 (sg s a) (by omega) (by omega)
      rw [show (0 : Int) = ((0 : Nat) : Int) from rfl, this]
      simp
    cases s
    · rw [if_neg (by simp)]; exact key
    · rw [if_pos rfl]; exact key

end Go.Proofs.Ytmbhbioanoalaaa.Pure
