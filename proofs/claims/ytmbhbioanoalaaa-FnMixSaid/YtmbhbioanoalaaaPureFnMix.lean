/- Proved: mixed numbers are the same ones, as often, whatever the seed. Conditions: a list of numbers of 64 bits with a sign, and a seed of 64 bits; no others. -/
import Derived.Test.YtmbhbioanoalaaaOFnMixx4
import Derived.Test.YtmbhbioanoalaaaCom
namespace Go.Proofs.Ytmbhbioanoalaaa.Pure
open Go Go.RowKit Go.Proofs.Ytmbhbioanoalaaa.PFnMix Go.Proofs.YtmbhbioanoalaaaW.PrintWords Go.Proofs.YtmbhbioanoalaaaW.PrintLast Go.Com

theorem drop_at (xs : List Int) (i : Nat) (h : i < xs.length) : xs.drop i = rd xs (i : Int) :: xs.drop (i + 1) := by
  rw [List.drop_eq_getElem_cons h]; simp [rd, h]
theorem wr (i n : Nat) (h : i < n) (hn : n ≤ 2147483647) : wrap64 ((i : Int) + 1) = ((i + 1 : Nat) : Int) := by rw [w64]; omega

theorem times_l (n : Int) (xs : List Int) (hn : xs.length ≤ 2147483647) (d : Nat) : ∀ (k i acc : Nat), i + d = xs.length → d < k → acc ≤ i →
    laws_times.l0 k n (acc : Int) xs (xs.length : Int) (i : Int) = some ((acc + (xs.drop i).count n : Nat) : Int) := by
  induction d with
  | zero =>
    intro k i acc h hk ha
    obtain ⟨k, rfl⟩ : ∃ j, k = j + 1 := ⟨k - 1, by omega⟩
    simp only [laws_times.l0]
    rw [if_neg (by omega), List.drop_eq_nil_of_le (by omega)]; rfl
  | succ d ih =>
    intro k i acc h hk ha
    obtain ⟨k, rfl⟩ : ∃ j, k = j + 1 := ⟨k - 1, by omega⟩
    simp only [laws_times.l0]
    rw [if_pos (by omega), if_pos (by omega), if_pos (by omega), drop_at xs i (by omega), wr i xs.length (by omega) hn]
    by_cases hx : rd xs (i : Int) = n
    · rw [if_pos hx, wr acc xs.length (by omega) hn, ih k (i + 1) (acc + 1) (by omega) (by omega) (by omega), hx, List.count_cons_self]
      congr 2; omega
    · rw [if_neg hx, ih k (i + 1) acc (by omega) (by omega) (by omega), List.count_cons_of_ne hx]

theorem times_is (n : Int) (xs : List Int) (hn : xs.length ≤ 2147483647) (k : Nat) (hk : xs.length < k) : laws_times.f k xs n = some ((xs.count n : Nat) : Int) := by
  have := times_l n xs hn xs.length k 0 0 (by omega) hk (by omega)
  simp only [laws_times.f]
  rw [List.drop_zero, Nat.zero_add] at this
  exact this

def cut (p i : Nat) (l : List Int) : List Int := if i ≤ p then l.eraseIdx (p - i) else l
theorem del_l (p : Nat) (xs : List Int) (hn : xs.length ≤ 2147483647) (d : Nat) : ∀ (k i : Nat) (acc : List Int), i + d = xs.length → d < k → acc.length ≤ i →
    mathutil_delete.l0 k (p : Int) acc xs (xs.length : Int) (i : Int) = some (acc ++ cut p i (xs.drop i)) := by
  induction d with
  | zero =>
    intro k i acc h hk ha
    obtain ⟨k, rfl⟩ : ∃ j, k = j + 1 := ⟨k - 1, by omega⟩
    simp only [mathutil_delete.l0]
    rw [if_neg (by omega), List.drop_eq_nil_of_le (by omega)]
    simp [cut]
  | succ d ih =>
    intro k i acc h hk ha
    obtain ⟨k, rfl⟩ : ∃ j, k = j + 1 := ⟨k - 1, by omega⟩
    simp only [mathutil_delete.l0]
    rw [if_pos (by omega), if_pos (by omega), if_pos (by omega), drop_at xs i (by omega), wr i xs.length (by omega) hn]
    by_cases hx : (i : Int) = (p : Int)
    · obtain rfl : i = p := by omega
      rw [if_pos rfl, ih k (i + 1) acc (by omega) (by omega) (by omega)]
      unfold cut
      rw [if_neg (by omega), if_pos (Nat.le_refl _), Nat.sub_self, List.eraseIdx_cons_zero]
    · rw [if_neg hx, if_pos (by omega), ih k (i + 1) _ (by omega) (by omega) (by simp; omega)]
      unfold cut
      by_cases hp : i ≤ p
      · rw [if_pos hp, if_pos (by omega), show p - i = (p - (i + 1)) + 1 by omega, List.eraseIdx_cons_succ]
        simp
      · rw [if_neg hp, if_neg (by omega)]; simp

theorem clone_is (l : List Int) (h : l.length ≤ 2147483647) : slices_Clone_int64_int64.f l = some l := by
  simp only [slices_Clone_int64_int64.f, Option.bind_some]
  rw [if_pos (by simp; omega)]; rfl

theorem count_cut (l : List Int) (p : Nat) (hp : p < l.length) (n : Int) : l.count n = (l.eraseIdx p).count n + (if n = rd l (p : Int) then 1 else 0) := by
  have h := drop_at l p hp
  have e : l = l.take p ++ (rd l (p : Int) :: l.drop (p + 1)) := by rw [← h, List.take_append_drop]
  have e2 : l.eraseIdx p = l.take p ++ l.drop (p + 1) := List.eraseIdx_eq_take_drop_succ l p
  rw [e2, List.count_append]
  conv => lhs; rw [e, List.count_append, List.count_cons]
  by_cases hx : n = rd l (p : Int)
  · rw [if_pos hx, if_pos (by rw [hx]; simp)]; omega
  · rw [if_neg hx, if_neg (by simpa using fun g => hx g.symm)]; omega

theorem rol_some (s : Int) (_ : 0 ≤ s) (_ : s < 18446744073709551616) : ∃ t, mathutil_rol.f s = some t ∧ 0 ≤ t ∧ t < 18446744073709551616 := by
  unfold mathutil_rol.f
  rw [IntKind.wrap_u64]
  by_cases h : wrap64 s < 0
  · rw [if_pos h, or_one (by omega) (by omega) (by omega)]
    exact ⟨_, rfl, by omega, by omega⟩
  · rw [if_neg h]
    exact ⟨_, rfl, by omega, by omega⟩

theorem mix_l (d : Nat) : ∀ (k : Nat) (xs acc : List Int) (s : Int), xs.length = d → 2 * d + 2 < k → acc.length + d ≤ 2147483647 → 0 ≤ s → s < 18446744073709551616 →
    ∃ ys t, mathutil_mix.l0 k xs s acc = some (acc ++ ys, t) ∧ ys.length = d ∧ ∀ n, ys.count n = xs.count n := by
  induction d with
  | zero =>
    intro k xs acc s hd hk ha h0 h1
    obtain ⟨k, rfl⟩ : ∃ j, k = j + 1 := ⟨k - 1, by omega⟩
    obtain rfl := List.length_eq_zero_iff.mp hd
    rw [mathutil_mix.l0, if_pos (by rfl)]
    exact ⟨[], s, by rw [List.append_nil], rfl, fun n => rfl⟩
  | succ d ih =>
    intro k xs acc s hd hk ha h0 h1
    obtain ⟨k, rfl⟩ : ∃ j, k = j + 1 := ⟨k - 1, by omega⟩
    obtain ⟨t, ht, t0, t1⟩ := rol_some s h0 h1
    have hl : IntKind.u64.wrap (xs.length : Int) = ((d + 1 : Nat) : Int) := by rw [IntKind.wrap_u64]; omega
    obtain ⟨p, hp⟩ : ∃ p : Nat, t % ((d + 1 : Nat) : Int) = (p : Int) := ⟨(t % ((d + 1 : Nat) : Int)).toNat, by have := Int.emod_nonneg t (show ((d + 1 : Nat) : Int) ≠ 0 by omega); omega⟩
    have hpl : (p : Int) < ((d + 1 : Nat) : Int) := by rw [← hp]; exact Int.emod_lt_of_pos t (by omega)
    have hm : wrap64 (Int.tmod t ((d + 1 : Nat) : Int)) = (p : Int) := by rw [Int.tmod_eq_emod_of_nonneg t0, hp, w64]; omega
    have hlt : p < xs.length := by omega
    have hlen : (xs.eraseIdx p).length = d := by rw [List.length_eraseIdx_of_lt hlt]; omega
    have hdel : mathutil_delete.f k xs (p : Int) = some (xs.eraseIdx p) := by
      have := del_l p xs (by omega) xs.length k 0 [] (by omega) (by omega) (by simp)
      simp [cut] at this
      exact this
    obtain ⟨ys, t2, e, el, ec⟩ := ih k (xs.eraseIdx p) (acc ++ [rd xs (p : Int)]) t hlen (by omega) (by simp; omega) t0 t1
    rw [mathutil_mix.l0, if_neg (by omega), ht, Option.bind_some, hl, if_neg (by omega), hm, if_pos (by omega), if_pos (by omega), if_pos (by omega), hdel, Option.bind_some, e]
    refine ⟨rd xs (p : Int) :: ys, t2, by rw [List.append_assoc]; rfl, by rw [List.length_cons, el], fun n => ?_⟩
    rw [count_cut xs p hlt n, ← ec n, List.count_cons]
    by_cases hx : n = rd xs (p : Int)
    · rw [if_pos hx, if_pos (by rw [hx]; simp)]
    · rw [if_neg hx, if_neg (by simpa using fun g => hx g.symm)]

theorem mix_is (l : List Int) (h : l.length ≤ 2147483647) (s : Int) (h0 : 0 ≤ s) (h1 : s < 18446744073709551616) (k : Nat) (hk : 2 * l.length + 2 < k) :
    ∃ ys t, impl_Mix.f k l s = some (ys, t) ∧ ys.length = l.length ∧ ∀ n, ys.count n = l.count n := by
  obtain ⟨ys, t, e, el, ec⟩ := mix_l l.length k l [] s rfl hk (by simp; omega) h0 h1
  refine ⟨ys, t, ?_, el, ec⟩
  unfold impl_Mix.f mathutil_ZZMix.f mathutil_mix.f
  rw [Option.bind_some, if_pos (by simp; omega), List.nil_append, clone_is l h, Option.bind_some, e, Option.bind_some, Option.bind_some, List.nil_append]
  rw [if_pos (by simp; omega), List.nil_append]

theorem law_l (l ys one : List Int) (h : l.length ≤ 1000) (hy : ys.length = l.length) (hc : ∀ n, ys.count n = l.count n) (h1 : one = [7]) (d : Nat) : ∀ (k i : Nat), i + d = l.length → l.length + d < k →
    laws_FnMix.l0 k l one ys l (l.length : Int) (i : Int) = some true := by
  induction d with
  | zero =>
    intro k i hi hk
    obtain ⟨k, rfl⟩ : ∃ j, k = j + 1 := ⟨k - 1, by omega⟩
    subst h1
    rw [laws_FnMix.l0, if_neg (by omega), if_pos (by simp), if_pos (by simp), if_pos (by rfl), hy]
    simp
  | succ d ih =>
    intro k i hi hk
    obtain ⟨k, rfl⟩ : ∃ j, k = j + 1 := ⟨k - 1, by omega⟩
    rw [laws_FnMix.l0, if_pos (by omega), if_pos (by omega), if_pos (by omega), times_is _ ys (by omega) k (by omega), times_is _ l (by omega) k (by omega), Option.bind_some, Option.bind_some, hc, if_pos rfl, wr i l.length (by omega) (by omega), ih k (i + 1) (by omega) (by omega)]

theorem FnMix : laws_FnMix.Pure := by
  intro l s _ _ _ ws
  obtain ⟨s0, s1⟩ := b_u64 ws
  refine ⟨2 * l.length + 10, ?_⟩
  rw [laws_FnMix.f]
  by_cases hm : (l.length : Int) > 2147483647
  · rw [if_pos hm]
  · obtain ⟨one, t, e, el, ec⟩ := mix_is [7] (by simp) 5 (by omega) (by omega) (2 * l.length + 10) (by simp)
    have e7 : one = [7] := by
      obtain ⟨x, rfl⟩ := List.length_eq_one_iff.mp el
      have := ec 7
      rw [List.count_cons, List.count_cons] at this
      simp at this
      rw [this]
    obtain ⟨ys, t2, e2, el2, ec2⟩ := mix_is l (by omega) s s0 s1 (2 * l.length + 10) (by omega)
    rw [if_neg hm, e, Option.bind_some]
    by_cases h2 : (l.length : Int) > 1000
    · rw [if_pos h2]
      subst e7
      rfl
    · rw [if_neg h2, e2, Option.bind_some]
      exact law_l l ys one (by omega) el2 ec2 e7 l.length (2 * l.length + 10) 0 (by omega) (by omega)
end Go.Proofs.Ytmbhbioanoalaaa.Pure
