/- Proved: without one of its numbers a list has the others, as often. Conditions: a list of numbers of 64 bits with a sign, and an index; no others. -/
import Derived.Test.YtjfefhjnpokcbaaOFnDeletex1
import Derived.Test.YtjfefhjnpokcbaaCom
namespace Go.Proofs.Ytjfefhjnpokcbaa.Pure
open Go Go.RowKit Go.Proofs.Ytjfefhjnpokcbaa.PFnDelete Go.Proofs.YtjfefhjnpokcbaaW.PrintWords Go.Proofs.YtjfefhjnpokcbaaW.PrintLast Go.Com

theorem drop_at (xs : List Int) (i : Nat) (h : i < xs.length) : xs.drop i = rd xs (i : Int) :: xs.drop (i + 1) := by
  rw [List.drop_eq_getElem_cons h]; simp [rd, h]
theorem wr (i n : Nat) (h : i < n) (hn : n ≤ 2147483647) : wrap64 ((i : Int) + 1) = ((i + 1 : Nat) : Int) := by rw [w64]; omega

theorem times_l (n : Int) (xs : List Int) (hn : xs.length ≤ 2147483647) (d : Nat) : ∀ (k i acc : Nat), i + d = xs.length → d < k → acc ≤ i →
    laws_times.l0 k n (acc : Int) xs (xs.length : Int) (i : Int) = some ((acc + (xs.drop i).count n : Nat) : Int) := by
  induction d with
  | zero =>
    intro k i acc h hk ha
    obtain ⟨k, rfl⟩ : ∃ j, k = j + 1 := ⟨k - 1, by omega⟩
    simp only [laws_times.l0]
    rw [if_neg (by omega), List.drop_eq_nil_of_le (by omega)]; rfl
  | succ d ih =>
    intro k i acc h hk ha
    obtain ⟨k, rfl⟩ : ∃ j, k = j + 1 := ⟨k - 1, by omega⟩
    simp only [laws_times.l0]
    rw [if_pos (by omega), if_pos (by omega), if_pos (by omega), drop_at xs i (by omega), wr i xs.length (by omega) hn]
    by_cases hx : rd xs (i : Int) = n
    · rw [if_pos hx, wr acc xs.length (by omega) hn, ih k (i + 1) (acc + 1) (by omega) (by omega) (by omega), hx, List.count_cons_self]
      congr 2; omega
    · rw [if_neg hx, ih k (i + 1) acc (by omega) (by omega) (by omega), List.count_cons_of_ne hx]

theorem times_is (n : Int) (xs : List Int) (hn : xs.length ≤ 2147483647) (k : Nat) (hk : xs.length < k) : laws_times.f k xs n = some ((xs.count n : Nat) : Int) := by
  have := times_l n xs hn xs.length k 0 0 (by omega) hk (by omega)
  simp only [laws_times.f]
  rw [List.drop_zero, Nat.zero_add] at this
  exact this

def cut (p i : Nat) (l : List Int) : List Int := if i ≤ p then l.eraseIdx (p - i) else l
theorem del_l (p : Nat) (xs : List Int) (hn : xs.length ≤ 2147483647) (d : Nat) : ∀ (k i : Nat) (acc : List Int), i + d = xs.length → d < k → acc.length ≤ i →
    mathutil_delete.l0 k (p : Int) acc xs (xs.length : Int) (i : Int) = some (acc ++ cut p i (xs.drop i)) := by
  induction d with
  | zero =>
    intro k i acc h hk ha
    obtain ⟨k, rfl⟩ : ∃ j, k = j + 1 := ⟨k - 1, by omega⟩
    simp only [mathutil_delete.l0]
    rw [if_neg (by omega), List.drop_eq_nil_of_le (by omega)]
    simp [cut]
  | succ d ih =>
    intro k i acc h hk ha
    obtain ⟨k, rfl⟩ : ∃ j, k = j + 1 := ⟨k - 1, by omega⟩
    simp only [mathutil_delete.l0]
    rw [if_pos (by omega), if_pos (by omega), if_pos (by omega), drop_at xs i (by omega), wr i xs.length (by omega) hn]
    by_cases hx : (i : Int) = (p : Int)
    · obtain rfl : i = p := by omega
      rw [if_pos rfl, ih k (i + 1) acc (by omega) (by omega) (by omega)]
      unfold cut
      rw [if_neg (by omega), if_pos (Nat.le_refl _), Nat.sub_self, List.eraseIdx_cons_zero]
    · rw [if_neg hx, if_pos (by omega), ih k (i + 1) _ (by omega) (by omega) (by simp; omega)]
      unfold cut
      by_cases hp : i ≤ p
      · rw [if_pos hp, if_pos (by omega), show p - i = (p - (i + 1)) + 1 by omega, List.eraseIdx_cons_succ]
        simp
      · rw [if_neg hp, if_neg (by omega)]; simp

theorem clone_is (l : List Int) (h : l.length ≤ 2147483647) : slices_Clone_int64_int64.f l = some l := by
  simp only [slices_Clone_int64_int64.f, Option.bind_some]
  rw [if_pos (by simp; omega)]; rfl

theorem delete_is (l : List Int) (h : l.length ≤ 2147483647) (p : Nat) (hp : p < l.length) (k : Nat) (hk : l.length < k) : impl_Delete.f k l (p : Int) = some (l.eraseIdx p) := by
  have hd := del_l p l h l.length k 0 [] (by omega) hk (by simp)
  have hl : (l.eraseIdx p).length = l.length - 1 := List.length_eraseIdx_of_lt hp
  simp only [impl_Delete.f, mathutil_ZZDelete.f, mathutil_delete.f, Option.bind_some]
  rw [if_neg (by omega), if_neg (by omega), if_pos (by simp; omega)]
  simp only [List.nil_append]
  rw [clone_is l h]
  simp only [Option.bind_some]
  have hd' : mathutil_delete.l0 k (p : Int) [] l (l.length : Int) 0 = some (l.eraseIdx p) := by
    have := hd
    simp [cut] at this
    exact this
  rw [hd']
  simp only [Option.bind_some, List.length_nil]
  rw [if_pos (by omega)]

theorem count_cut (l : List Int) (p : Nat) (hp : p < l.length) (n : Int) : l.count n = (l.eraseIdx p).count n + (if n = rd l (p : Int) then 1 else 0) := by
  have h := drop_at l p hp
  have e : l = l.take p ++ (rd l (p : Int) :: l.drop (p + 1)) := by rw [← h, List.take_append_drop]
  have e2 : l.eraseIdx p = l.take p ++ l.drop (p + 1) := List.eraseIdx_eq_take_drop_succ l p
  rw [e2, List.count_append]
  conv => lhs; rw [e, List.count_append, List.count_cons]
  by_cases hx : n = rd l (p : Int)
  · rw [if_pos hx, if_pos (by rw [hx]; simp)]; omega
  · rw [if_neg hx, if_neg (by simpa using fun g => hx g.symm)]; omega

theorem law_l (l : List Int) (h : l.length ≤ 1000) (p : Nat) (hp : p < l.length) (d : Nat) : ∀ (k i : Nat), i + d = l.length → l.length + d < k →
    laws_FnDelete.l0 k l (p : Int) [8] (l.eraseIdx p) l (l.length : Int) (i : Int) = some true := by
  have hl : (l.eraseIdx p).length = l.length - 1 := List.length_eraseIdx_of_lt hp
  induction d with
  | zero =>
    intro k i hi hk
    obtain ⟨k, rfl⟩ : ∃ j, k = j + 1 := ⟨k - 1, by omega⟩
    simp only [laws_FnDelete.l0]
    rw [if_neg (by omega), if_pos (by simp), if_pos (by simp), if_pos (by rfl), hl, w64]
    congr 1
    simp only [beq_iff_eq]; omega
  | succ d ih =>
    intro k i hi hk
    obtain ⟨k, rfl⟩ : ∃ j, k = j + 1 := ⟨k - 1, by omega⟩
    simp only [laws_FnDelete.l0]
    rw [if_pos (by omega), if_pos (by omega), if_pos (by omega), times_is _ l (by omega) k (by omega), times_is _ (l.eraseIdx p) (by omega) k (by omega), wr i l.length (by omega) (by omega), ih k (i + 1) (by omega) (by omega)]
    simp only [Option.bind_some]
    rw [if_pos (by omega), if_pos (by omega)]
    have hc := count_cut l p hp (rd l (i : Int))
    have hcb : l.count (rd l (i : Int)) ≤ l.length := List.count_le_length
    by_cases hx : rd l (i : Int) = rd l (p : Int)
    · rw [if_pos hx] at hc
      rw [if_pos hx, if_pos (by rw [w64]; omega)]
    · rw [if_neg hx] at hc
      rw [if_neg hx, if_pos (by omega)]

theorem FnDelete : laws_FnDelete.Pure := by
  intro l a _ _ _ _
  refine ⟨2 * l.length + 10, ?_⟩
  simp only [laws_FnDelete.f]
  by_cases hm : (l.length : Int) > 2147483647
  · rw [if_pos hm]
  · have h1 : impl_Delete.f (2 * l.length + 10) [7, 8] 0 = some [8] := delete_is [7, 8] (by simp) 0 (by simp) _ (by simp)
    rw [if_neg hm, h1]
    simp only [Option.bind_some]
    have j1 : laws_FnDelete.j0 (2 * l.length + 10) l a [8] true = some true := by
      rw [show 2 * l.length + 10 = (2 * l.length + 9) + 1 from rfl]; simp [laws_FnDelete.j0]
    by_cases h2 : (l.length : Int) > 1000
    · rw [if_pos h2, j1]
    · rw [if_neg h2]
      by_cases h3 : a < 0
      · rw [if_pos h3, j1]
      · rw [if_neg h3]
        by_cases h4 : a ≥ (l.length : Int)
        · rw [decide_eq_true h4, j1]
        · rw [decide_eq_false h4]
          obtain ⟨p, rfl⟩ := Int.eq_ofNat_of_zero_le (by omega : 0 ≤ a)
          rw [show 2 * l.length + 10 = (2 * l.length + 9) + 1 from rfl]
          simp only [laws_FnDelete.j0]
          rw [if_neg (by simp), delete_is l (by omega) p (by omega) _ (by omega)]
          simp only [Option.bind_some]
          exact law_l l (by omega) p (by omega) l.length _ 0 (by omega) (by omega)
end Go.Proofs.Ytjfefhjnpokcbaa.Pure
