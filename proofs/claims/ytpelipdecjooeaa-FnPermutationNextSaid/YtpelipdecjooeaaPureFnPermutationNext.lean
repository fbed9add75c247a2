/- Proved: the next permutation keeps as many numbers as it can; the first one that it changes becomes the least greater one of those behind it, which were in falling order and are in order then; there is none just where all are in falling order. Conditions: a list of whole numbers; no others. -/
import Derived.Test.YtpelipdecjooeaaPermFPermutationNext
namespace Go.Proofs.Ytpelipdecjooeaa.Pure
open Go Go.RowKit Go.Proofs.Ytpelipdecjooeaa.PFnPermutationNext Go.Proofs.Ytpelipdecjooeaa.PermFPermutationNext Go.Proofs.YtpelipdecjooeaaW.PrintWords Go.Proofs.Ytpelipdecjooeaa.PermD Go.Proofs.Ytpelipdecjooeaa.PermN
set_option linter.unusedVariables false
theorem last_l (l : List Int) (hn : l.length ≤ 2147483647) (d : Nat) : ∀ (k i : Nat), 1 ≤ i → i + d = l.length → d < k →
    ((∃ j : Nat, i ≤ j ∧ j < l.length ∧ rd l ((j - 1 : Nat) : Int) < rd l (j : Int)) ∧ spec_IsLast.l0 k l (i : Int) = some false) ∨ ((∀ j : Nat, i ≤ j → j < l.length → rd l (j : Int) ≤ rd l ((j - 1 : Nat) : Int)) ∧ spec_IsLast.l0 k l (i : Int) = some true) := by
  induction d with
  | zero =>
    intro k i h0 h hk
    obtain ⟨k, rfl⟩ : ∃ j, k = j + 1 := ⟨k - 1, by omega⟩
    exact .inr ⟨fun j h1 h2 => by omega, by rw [spec_IsLast.l0, if_neg (by omega)]⟩
  | succ d ih =>
    intro k i h0 h hk
    obtain ⟨k, rfl⟩ : ∃ j, k = j + 1 := ⟨k - 1, by omega⟩
    have e : wrap64 ((i : Int) - 1) = ((i - 1 : Nat) : Int) := by rw [w64in _ (by omega)]; omega
    have r : spec_IsLast.l0 (k + 1) l (i : Int) = if rd l (i : Int) > rd l ((i - 1 : Nat) : Int) then some false else spec_IsLast.l0 k l ((i + 1 : Nat) : Int) := by
      rw [spec_IsLast.l0, if_pos (by omega), if_pos (by omega), e, if_pos (by omega), if_pos (by omega), wr i (by omega)]
    rw [r]
    by_cases hc : rd l (i : Int) > rd l ((i - 1 : Nat) : Int)
    · rw [if_pos hc]
      exact .inl ⟨⟨i, Nat.le_refl _, by omega, hc⟩, rfl⟩
    · rw [if_neg hc]
      rcases ih k (i + 1) (by omega) (by omega) (by omega) with ⟨⟨j, g1, g2, g3⟩, g⟩ | ⟨g1, g⟩
      · exact .inl ⟨⟨j, by omega, g2, g3⟩, g⟩
      · refine .inr ⟨fun j h1 h2 => ?_, g⟩
        rcases Nat.lt_or_ge i j with h3 | h3
        · exact g1 j (by omega) h2
        · obtain rfl : j = i := by omega
          omega
theorem last_is (l : List Int) (hn : l.length ≤ 2147483647) (k : Nat) (hk : l.length + 1 < k) : (¬ Falls l ∧ spec_IsLast.f k l = some false) ∨ (Falls l ∧ spec_IsLast.f k l = some true) := by
  unfold spec_IsLast.f
  rcases Nat.eq_zero_or_pos l.length with h | h
  · obtain ⟨k, rfl⟩ : ∃ j, k = j + 1 := ⟨k - 1, by omega⟩
    refine .inr ⟨?_, by rw [spec_IsLast.l0, if_neg (by omega)]⟩
    rw [List.length_eq_zero_iff.mp h]
    exact List.Pairwise.nil
  · rcases last_l l hn (l.length - 1) k 1 (by omega) (by omega) (by omega) with ⟨⟨j, g1, g2, g3⟩, g⟩ | ⟨g1, g⟩
    · refine .inl ⟨fun hf => ?_, g⟩
      have := (List.pairwise_iff_getElem.mp hf) (j - 1) j (by omega) g2 (by omega)
      rw [rdn l j g2, rdn l (j - 1) (by omega)] at g3
      omega
    · refine .inr ⟨?_, g⟩
      unfold Falls
      rw [List.pairwise_iff_getElem]
      intro i j hi hj hij
      have hc : ∀ i, 0 ≤ i → i < l.length - 1 → l.toArray[i + 1]! ≤ l.toArray[i]! := by
        intro i _ h2
        have := g1 (i + 1) (by omega) (by omega)
        rw [rdn l (i + 1) (by omega), rdn l (i + 1 - 1) (by omega)] at this
        rw [at_list l (i + 1) (by omega), at_list l i (by omega)]
        exact this
      have := fall_chain l.toArray 0 (l.length - 1) hc (j - i) i (by omega) (by omega)
      rw [show i + (j - i) = j by omega, at_list _ _ hj, at_list _ _ hi] at this
      exact this
theorem rd_left (p r : List Int) (i : Nat) (h : i < p.length) : rd (p ++ r) (i : Int) = rd p (i : Int) := by
  rw [rdn p i h, rdn (p ++ r) i (by simp; omega), List.getElem_append_left h]
theorem rd_mid (p r : List Int) (v : Int) : rd (p ++ v :: r) (p.length : Int) = v := by
  rw [rdn (p ++ v :: r) p.length (by simp)]
  simp
theorem less_l (p s t : List Int) (v u : Int) (hlt : v < u) (hl : t.length = s.length) (hn : (p ++ v :: s).length ≤ 2147483647) (d : Nat) : ∀ (k i : Nat), i + d = p.length → d < k →
    spec_Less.l0 k (p ++ v :: s) (p ++ u :: t) ((p ++ v :: s).length : Int) (i : Int) = some true := by
  have h1 : (p ++ v :: s).length = p.length + (s.length + 1) := by simp
  have h2 : (p ++ u :: t).length = p.length + (s.length + 1) := by simp [hl]
  induction d with
  | zero =>
    intro k i h hk
    obtain ⟨k, rfl⟩ : ∃ j, k = j + 1 := ⟨k - 1, by omega⟩
    obtain rfl : i = p.length := by omega
    rw [spec_Less.l0, if_pos (by omega), if_pos (by omega), if_pos (by omega), if_pos (by omega), rd_mid, rd_mid, if_neg (by omega), decide_eq_true hlt]
  | succ d ih =>
    intro k i h hk
    obtain ⟨k, rfl⟩ : ∃ j, k = j + 1 := ⟨k - 1, by omega⟩
    rw [spec_Less.l0, if_pos (by omega), if_pos (by omega), if_pos (by omega), if_pos (by omega), rd_left _ _ i (by omega), rd_left _ _ i (by omega), if_pos rfl, wr i (by omega)]
    exact ih k (i + 1) (by omega) (by omega)
theorem drop_mid (p r : List Int) (v : Int) : (p ++ v :: r).drop (p.length + 1) = r := by simp
theorem law_l1 (p s t : List Int) (v u : Int) (hs : Falls s) (ht : Rises t) (hlt : v < u) (hb : ∀ m ∈ s, m ≤ v ∨ u ≤ m) (hl : t.length = s.length) (hn : (p ++ v :: s).length ≤ 2147483647) (d : Nat) : ∀ (k i : Nat), i + d = s.length → d + s.length + 2 < k →
    laws_FnPermutationNext.l1 k (p ++ v :: s) (p ++ u :: t) (p.length : Int) s (s.length : Int) (i : Int) = some true := by
  have h1 : (p ++ v :: s).length = p.length + (s.length + 1) := by simp
  have h2 : (p ++ u :: t).length = p.length + (s.length + 1) := by simp [hl]
  induction d with
  | zero =>
    intro k i h hk
    obtain ⟨k, rfl⟩ : ∃ j, k = j + 1 := ⟨k - 1, by omega⟩
    have hlast : spec_IsLast.f k s = some true := by
      rcases last_is s (by omega) k (by omega) with ⟨g, _⟩ | ⟨_, g⟩
      · exact absurd hs g
      · exact g
    rw [laws_FnPermutationNext.l1, if_neg (by omega), wr _ (by omega), if_pos (by omega), if_pos (by omega), Int.toNat_natCast, drop_mid, drop_mid, hlast, Option.bind_some, if_pos rfl, if_pos (by omega), sorted_is t (by omega) ht k (by omega), Option.bind_some]
  | succ d ih =>
    intro k i h hk
    obtain ⟨k, rfl⟩ : ∃ j, k = j + 1 := ⟨k - 1, by omega⟩
    have hm : rd s (i : Int) ∈ s := by rw [rdn s i (by omega)]; exact List.getElem_mem _
    rw [laws_FnPermutationNext.l1, if_pos (by omega), if_pos (by omega), if_pos (by omega), if_pos (by omega), if_pos (by omega), rd_mid, rd_mid, wr i (by omega), ih k (i + 1) (by omega) (by omega)]
    rcases hb _ hm with g | g
    · rw [if_neg (by omega)]
    · rw [if_pos (by omega), if_pos (by omega), if_neg (by omega)]
theorem law_l0 (p s t : List Int) (v u : Int) (hs : Falls s) (ht : Rises t) (hlt : v < u) (hb : ∀ m ∈ s, m ≤ v ∨ u ≤ m) (hl : t.length = s.length) (hn : (p ++ v :: s).length ≤ 2147483647) (d : Nat) : ∀ (k i : Nat), i + d = p.length → d + 2 * s.length + 3 < k →
    laws_FnPermutationNext.l0 k (p ++ v :: s) (p ++ u :: t) (i : Int) = some true := by
  have h1 : (p ++ v :: s).length = p.length + (s.length + 1) := by simp
  have h2 : (p ++ u :: t).length = p.length + (s.length + 1) := by simp [hl]
  induction d with
  | zero =>
    intro k i h hk
    obtain ⟨k, rfl⟩ : ∃ j, k = j + 1 := ⟨k - 1, by omega⟩
    obtain rfl : i = p.length := by omega
    rw [laws_FnPermutationNext.l0, if_pos (by omega), if_pos (by omega), if_pos (by omega), rd_mid, rd_mid, if_neg (by omega), wr _ (by omega), if_pos (by omega), if_pos (by omega), Int.toNat_natCast, drop_mid]
    exact law_l1 p s t v u hs ht hlt hb hl hn s.length k 0 (by omega) (by omega)
  | succ d ih =>
    intro k i h hk
    obtain ⟨k, rfl⟩ : ∃ j, k = j + 1 := ⟨k - 1, by omega⟩
    rw [laws_FnPermutationNext.l0, if_pos (by omega), if_pos (by omega), if_pos (by omega), rd_left _ _ i (by omega), rd_left _ _ i (by omega), if_pos rfl, wr i (by omega)]
    exact ih k (i + 1) (by omega) (by omega)
theorem FnPermutationNext : laws_FnPermutationNext.Pure := by
  intro l _ _ _
  refine ⟨4 * l.length + 20, ?_⟩
  have hf := len_next l
  rw [laws_FnPermutationNext.f]
  by_cases h1 : (l.length : Int) > 2147483647
  · rw [if_pos h1]
  · rw [if_neg h1, ordered_is _ (by omega)]
    by_cases h2 : (l.length : Int) > 1000
    · rw [if_pos h2, Option.bind_some]
    · rw [if_neg h2, next_is l (by omega), Option.bind_some, Option.bind_some, if_pos rfl]
      cases hb : (nextL l).2 with
      | false =>
        have hfa := next_false hb
        rcases last_is l (by omega) (4 * l.length + 20) (by omega) with ⟨g, _⟩ | ⟨_, g⟩
        · exact absurd hfa g
        · rw [g, Option.bind_some, show 4 * l.length + 20 = (4 * l.length + 19) + 1 from rfl, laws_FnPermutationNext.j0, if_neg (by simp), if_neg (by simp)]
      | true =>
        have hx := next_true hb
        have hnf := nx_not_falls hx
        have hp := nx_perm hx
        rcases last_is l (by omega) (4 * l.length + 20) (by omega) with ⟨_, g⟩ | ⟨g, _⟩
        · rw [g, Option.bind_some, show 4 * l.length + 20 = (4 * l.length + 18) + 1 + 1 from rfl, laws_FnPermutationNext.j0, if_neg (by simp), if_pos rfl, turned_is _ l (by omega) hp _ (by omega), Option.bind_some, if_pos rfl]
          obtain ⟨p, v, u, s, t, ex, ez, hs, ht, hlt, hm, hbb, hpp⟩ := hx
          rw [ez]
          subst ex
          have hl : t.length = s.length := by have := hpp.length_eq; simp at this; omega
          have hn : (p ++ v :: s).length = p.length + (s.length + 1) := by simp
          have e : spec_Less.f (4 * (p ++ v :: s).length + 18 + 1) (p ++ v :: s) (p ++ u :: t) = some true := less_l p s t v u hlt hl (by omega) p.length _ 0 (by omega) (by omega)
          rw [e, Option.bind_some, laws_FnPermutationNext.j1, if_neg (by simp)]
          exact law_l0 p s t v u hs ht hlt hbb hl (by omega) p.length _ 0 (by omega) (by omega)
        · exact absurd g hnf
end Go.Proofs.Ytpelipdecjooeaa.Pure
