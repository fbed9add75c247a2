/- What the next permutation is, in plain words: it keeps a first part, puts the least greater number behind it, and has the rest in order. No program in sight. -/
import Derived.Test.YtpelipdecjooeaaPermD
namespace Go.Proofs.Ytpelipdecjooeaa.PermN
open Go Go.Sort Go.Proofs.Ytpelipdecjooeaa.PermA Go.Proofs.Ytpelipdecjooeaa.PermB Go.Proofs.Ytpelipdecjooeaa.PermD
set_option linter.unusedVariables false
/-- y is the next permutation behind x -/
def Nx (x y : List Int) : Prop := ∃ (p : List Int) (v u : Int) (s t : List Int), x = p ++ v :: s ∧ y = p ++ u :: t ∧ s.Pairwise (fun a b => b ≤ a) ∧ t.Pairwise (fun a b => a ≤ b) ∧ v < u ∧ u ∈ s ∧ (∀ m ∈ s, m ≤ v ∨ u ≤ m) ∧ (v :: s).Perm (u :: t)
def Falls (x : List Int) : Prop := x.Pairwise (fun a b => b ≤ a)
def Rises (x : List Int) : Prop := x.Pairwise (fun a b => a ≤ b)

theorem nx_not_falls {x y : List Int} (h : Nx x y) : ¬ Falls x := by
  obtain ⟨p, v, u, s, t, rfl, _, _, _, hlt, hm, _⟩ := h
  intro hf
  have h1 := (List.pairwise_cons.mp (List.pairwise_append.mp hf).2.1).1 u hm
  omega
theorem nx_perm {x y : List Int} (h : Nx x y) : y.Perm x := by
  obtain ⟨p, v, u, s, t, rfl, rfl, _, _, _, _, _, hp⟩ := h
  exact (List.perm_append_left_iff p).mpr hp.symm
theorem no_longer {p q : List Int} {v w : Int} {s r : List Int} (h : p ++ v :: s = q ++ w :: r) (hs : Falls s) (hw : ∃ u ∈ r, w < u) : ¬ p.length < q.length := by
  intro hl
  rcases List.append_eq_append_iff.mp h with ⟨aa, rfl, e⟩ | ⟨bs, rfl, e⟩
  · rcases aa with _ | ⟨a, aa⟩
    · simp at hl
    · simp only [List.cons_append, List.cons.injEq] at e
      obtain ⟨u, hu, hlt⟩ := hw
      rw [e.2] at hs
      have h1 := (List.pairwise_cons.mp (List.pairwise_append.mp hs).2.1).1 u hu
      omega
  · simp at hl; omega
theorem nx_unique {x y z : List Int} (h1 : Nx x y) (h2 : Nx x z) : y = z := by
  obtain ⟨p, v, u, s, t, rfl, rfl, hs, ht, hlt, hm, hb, hp⟩ := h1
  obtain ⟨p', v', u', s', t', e, rfl, hs', ht', hlt', hm', hb', hp'⟩ := h2
  have l1 := no_longer e hs ⟨u', hm', hlt'⟩
  have l2 := no_longer e.symm hs' ⟨u, hm, hlt⟩
  obtain ⟨rfl, e0⟩ := List.append_inj e (by omega)
  injection e0 with e1 e2
  subst e1 e2
  obtain rfl : u = u' := by
    rcases hb u' hm' with g | g <;> rcases hb' u hm with g' | g' <;> omega
  have hpt : t.Perm t' := List.Perm.cons_inv (hp.symm.trans hp')
  rw [List.Perm.eq_of_pairwise (fun a b _ _ h1 h2 => by omega) ht ht' hpt]

/-! ### the code's search -/
theorem fk_none (d : Array Int) : ∀ m, fk d m = none → ∀ i, i < m → d[i + 1]! ≤ d[i]! := by
  intro m
  induction m with
  | zero => intro _ i hi; omega
  | succ m ih =>
    intro h i hi
    rw [fk_succ] at h
    split at h
    · cases h
    · rename_i hn
      rcases Nat.lt_or_ge i m with g | g
      · exact ih h i g
      · obtain rfl : i = m := by omega
        omega
theorem fk_some (d : Array Int) : ∀ m k, fk d m = some k → k < m ∧ d[k]! < d[k + 1]! ∧ ∀ i, k < i → i < m → d[i + 1]! ≤ d[i]! := by
  intro m
  induction m with
  | zero => intro k h; cases h
  | succ m ih =>
    intro k h
    rw [fk_succ] at h
    split at h
    · rename_i hn
      obtain rfl := Option.some.inj h
      exact ⟨by omega, hn, fun i h1 h2 => by omega⟩
    · rename_i hn
      obtain ⟨h1, h2, h3⟩ := ih k h
      refine ⟨by omega, h2, fun i g1 g2 => ?_⟩
      rcases Nat.lt_or_ge i m with g | g
      · exact h3 i g1 g
      · obtain rfl : i = m := by omega
        omega
theorem fl_is (d : Array Int) (k : Nat) (hk : d[k]! < d[k + 1]!) : ∀ l, k + 1 ≤ l → k < fl d k l ∧ fl d k l ≤ l ∧ d[k]! < d[fl d k l]! ∧ ∀ i, fl d k l < i → i ≤ l → d[i]! ≤ d[k]! := by
  intro l
  induction l with
  | zero => intro h; omega
  | succ l ih =>
    intro h
    rw [fl_succ]
    split
    · rename_i hn
      exact ⟨by omega, by omega, hn, fun i h1 h2 => by omega⟩
    · rename_i hn
      have hkl : k + 1 ≤ l := by
        rcases Nat.lt_or_ge k l with g | g
        · omega
        · obtain rfl : k = l := by omega
          exact absurd hk hn
      obtain ⟨h1, h2, h3, h4⟩ := ih hkl
      refine ⟨h1, by omega, h3, fun i g1 g2 => ?_⟩
      rcases Nat.lt_or_ge l i with g | g
      · obtain rfl : i = l + 1 := by omega
        omega
      · exact h4 i g1 g
theorem fall_chain (d : Array Int) (a b : Nat) (h : ∀ i, a ≤ i → i < b → d[i + 1]! ≤ d[i]!) : ∀ n i, a ≤ i → i + n ≤ b → d[i + n]! ≤ d[i]! := by
  intro n
  induction n with
  | zero => intro i _ _; exact Int.le_refl _
  | succ n ih =>
    intro i h1 h2
    have := ih i h1 (by omega)
    have h3 := h (i + n) (by omega) (by omega)
    rw [← Nat.add_assoc]
    omega
theorem rv_perm (f : Nat) : ∀ (i j : Nat) (d : Array Int), i < d.size → j < d.size → (rv f i j d).toList.Perm d.toList := by
  induction f with
  | zero => intro i j d _ _; exact List.Perm.refl _
  | succ f ih =>
    intro i j d hi hj
    unfold rv
    split
    · rename_i hij
      refine (ih (i + 1) (j - 1) (swp d i j) (by rw [size_swp]; omega) (by rw [size_swp]; omega)).trans ?_
      have := (swp_permIn d 0 d.size i j (by omega) hi (by omega) hj (Nat.le_refl _)).2.2
      have e1 : (swp d i j).extract 0 d.size = swp d i j := by
        have := size_swp d i j
        rw [← this]; exact Array.extract_size
      rw [e1, Array.extract_size] at this
      exact this
    · exact List.Perm.refl _
theorem rv_get (f : Nat) : ∀ (i j : Nat) (d : Array Int), j < d.size → j < i + f + f → i ≤ j + 1 → ∀ m, (rv f i j d)[m]! = if i ≤ m ∧ m ≤ j then d[i + j - m]! else d[m]! := by
  induction f with
  | zero =>
    intro i j d hj hf hij m
    unfold rv
    rw [if_neg (by omega)]
  | succ f ih =>
    intro i j d hj hf hij m
    unfold rv
    split
    · rename_i h
      rw [ih (i + 1) (j - 1) (swp d i j) (by rw [size_swp]; omega) (by omega) (by omega) m]
      rw [swp_get d (by omega) hj, swp_get d (by omega) hj]
      by_cases h1 : i + 1 ≤ m ∧ m ≤ j - 1
      · rw [if_pos h1, if_pos (show i ≤ m ∧ m ≤ j by omega), if_neg (show ¬ (i + 1 + (j - 1) - m = j) by omega), if_neg (show ¬ (i + 1 + (j - 1) - m = i) by omega)]
        congr 1; omega
      · rw [if_neg h1]
        by_cases h2 : m = j
        · rw [if_pos h2, if_pos (show i ≤ m ∧ m ≤ j by omega)]
          congr 1; omega
        · rw [if_neg h2]
          by_cases h3 : m = i
          · rw [if_pos h3, if_pos (show i ≤ m ∧ m ≤ j by omega)]
            congr 1; omega
          · rw [if_neg h3, if_neg (show ¬ (i ≤ m ∧ m ≤ j) by omega)]
    · rename_i h
      by_cases h1 : i ≤ m ∧ m ≤ j
      · rw [if_pos h1]
        congr 1; omega
      · rw [if_neg h1]
theorem at_list (l : List Int) (i : Nat) (h : i < l.length) : l.toArray[i]! = l[i] := by simp [h]
/-- the code's answer, where there is a next permutation -/
theorem next_true {x : List Int} (h : (nextL x).2 = true) : Nx x (nextL x).1 := by
  have h1 : (nextA x.toArray).1 = true := h
  cases hf : fk x.toArray (x.toArray.size - 1) with
  | none => rw [nextA_none hf] at h1; cases h1
  | some k =>
    have hz : (nextL x).1 = (rv x.toArray.size (k + 1) (x.toArray.size - 1) (swp x.toArray k (fl x.toArray k (x.toArray.size - 1)))).toList := by
      unfold nextL; rw [nextA_some hf]
    have hs : x.toArray.size = x.length := by simp
    obtain ⟨k1, k2, k3⟩ := fk_some _ _ _ hf
    obtain ⟨f1, f2, f3, f4⟩ := fl_is x.toArray k k2 (x.toArray.size - 1) (by omega)
    generalize fl x.toArray k (x.toArray.size - 1) = L at *
    rw [hs] at k1 k3 f2 f4 hz
    have hL : L < x.length := by omega
    have hk : k < x.length := by omega
    have fall : ∀ i j, k < i → i ≤ j → j < x.length → x.toArray[j]! ≤ x.toArray[i]! := by
      intro i j h1 h2 h3
      have := fall_chain x.toArray (k + 1) (x.length - 1) (fun i g1 g2 => k3 i (by omega) g2) (j - i) i (by omega) (by omega)
      rw [show i + (j - i) = j by omega] at this
      exact this
    have hperm : (nextL x).1.Perm x := by
      rw [hz]
      refine (rv_perm _ _ _ _ (by rw [size_swp]; omega) (by rw [size_swp]; omega)).trans ?_
      have := (swp_permIn x.toArray 0 x.toArray.size k L (by omega) (by omega) (by omega) (by omega) (Nat.le_refl _)).2.2
      have e1 : (swp x.toArray k L).extract 0 x.toArray.size = swp x.toArray k L := by
        have := size_swp x.toArray k L
        rw [← this]; exact Array.extract_size
      rw [e1, Array.extract_size] at this
      exact this
    have hlen : (nextL x).1.length = x.length := hperm.length_eq
    have hget : ∀ m, m < x.length → ∀ hm : m < (nextL x).1.length, (nextL x).1[m] = if k + 1 ≤ m ∧ m ≤ x.length - 1 then (swp x.toArray k L)[k + 1 + (x.length - 1) - m]! else (swp x.toArray k L)[m]! := by
      intro m hm hm'
      have g := rv_get x.length (k + 1) (x.length - 1) (swp x.toArray k L) (by rw [size_swp]; omega) (by omega) (by omega) m
      rw [← g, ← at_list _ m hm', hz, Array.toArray_toList]
    have hsw : ∀ m, (swp x.toArray k L)[m]! = if m = L then x.toArray[k]! else if m = k then x.toArray[L]! else x.toArray[m]! := swp_get x.toArray (by omega) (by omega)
    generalize (nextL x).1 = z at *
    have ex : x = x.take k ++ x[k] :: x.drop (k + 1) := by rw [← List.drop_eq_getElem_cons hk, List.take_append_drop]
    have ep : z.take k = x.take k := by
      apply List.ext_getElem
      · simp [hlen]
      · intro i h1 h2
        have hi : i < k := by simp at h1; omega
        rw [List.getElem_take, List.getElem_take, hget i (by omega) (by omega), if_neg (by omega), hsw, if_neg (by omega), if_neg (by omega), at_list _ _ (by omega)]
    have eu : z[k]'(by omega) = x[L] := by
      rw [hget k hk (by omega), if_neg (by omega), hsw, if_neg (by omega), if_pos rfl, at_list _ _ hL]
    have ez : z = x.take k ++ x[L] :: z.drop (k + 1) := by rw [← ep, ← eu, ← List.drop_eq_getElem_cons (by omega), List.take_append_drop]
    have hsw2 : ∀ i j, k < i → i < j → j < x.length → (swp x.toArray k L)[j]! ≤ (swp x.toArray k L)[i]! := by
      intro i j h1 h2 h3
      rw [hsw, hsw]
      by_cases hj : j = L
      · rw [if_pos hj, if_neg (by omega), if_neg (by omega)]
        have := fall i L h1 (by omega) hL
        omega
      · rw [if_neg hj, if_neg (by omega)]
        by_cases hi : i = L
        · rw [if_pos hi]; exact f4 j (by omega) (by omega)
        · rw [if_neg hi, if_neg (by omega)]; exact fall i j h1 (by omega) h3
    refine ⟨x.take k, x[k], x[L], x.drop (k + 1), z.drop (k + 1), ex, ez, ?_, ?_, ?_, ?_, ?_, ?_⟩
    · rw [List.pairwise_iff_getElem]
      intro i j hi hj hij
      rw [List.getElem_drop, List.getElem_drop]
      have := fall (k + 1 + i) (k + 1 + j) (by omega) (by omega) (by simp at hj; omega)
      rw [at_list _ _ (by simp at hj; omega), at_list _ _ (by simp at hi; omega)] at this
      exact this
    · rw [List.pairwise_iff_getElem]
      intro i j hi hj hij
      have hj' : k + 1 + j < x.length := by simp at hj; omega
      rw [List.getElem_drop, List.getElem_drop, hget (k + 1 + i) (by omega) (by omega), hget (k + 1 + j) hj' (by omega), if_pos (by omega), if_pos (by omega)]
      exact hsw2 _ _ (by omega) (by omega) (by omega)
    · rw [← at_list _ _ hk, ← at_list _ _ hL]; exact f3
    · rw [List.mem_iff_getElem]
      exact ⟨L - (k + 1), by simp; omega, by rw [List.getElem_drop]; congr 1; omega⟩
    · intro m hm
      obtain ⟨i, hi, rfl⟩ := List.mem_iff_getElem.mp hm
      have hi' : k + 1 + i < x.length := by simp at hi; omega
      rw [List.getElem_drop, ← at_list _ _ hi', ← at_list _ _ hk, ← at_list _ _ hL]
      rcases Nat.lt_or_ge L (k + 1 + i) with g | g
      · exact .inl (f4 _ g (by omega))
      · exact .inr (fall _ _ (by omega) g hL)
    · have hp2 : (x.take k ++ x[k] :: x.drop (k + 1)).Perm (x.take k ++ x[L] :: z.drop (k + 1)) := by rw [← ex, ← ez]; exact hperm.symm
      exact (List.perm_append_left_iff _).mp hp2
theorem next_false {x : List Int} (h : (nextL x).2 = false) : Falls x := by
  have h1 : (nextA x.toArray).1 = false := h
  cases hf : fk x.toArray (x.toArray.size - 1) with
  | some k => rw [nextA_some hf] at h1; cases h1
  | none =>
    have hn := fk_none _ _ hf
    have hs : x.toArray.size = x.length := by simp
    rw [hs] at hn
    unfold Falls
    rw [List.pairwise_iff_getElem]
    intro i j hi hj hij
    have := fall_chain x.toArray 0 (x.length - 1) (fun i _ g2 => hn i g2) (j - i) i (by omega) (by omega)
    rw [show i + (j - i) = j by omega, at_list _ _ hj, at_list _ _ hi] at this
    exact this
theorem next_of {x y : List Int} (h : Nx x y) : nextL x = (y, true) := by
  cases hb : (nextL x).2 with
  | false => exact absurd (next_false hb) (nx_not_falls h)
  | true =>
    have := nx_unique (next_true hb) h
    rw [← this, ← hb]
theorem next_none {x : List Int} (h : Falls x) : (nextL x).2 = false := by
  cases hb : (nextL x).2 with
  | false => rfl
  | true => exact absurd h (nx_not_falls (next_true hb))
theorem first_perm (x : List Int) : (firstL x).Perm x := by
  have h := (sorted_perm x.toArray).1
  have e : (sorted x.toArray).extract 0 x.toArray.size = sorted x.toArray := by rw [← h.1]; exact Array.extract_size
  have h2 := h.2.2
  rw [e, Array.extract_size] at h2
  exact h2
theorem first_rises (x : List Int) : Rises (firstL x) := by
  have h := (sorted_perm x.toArray).2
  have hl := len_first x
  unfold Rises
  rw [List.pairwise_iff_getElem]
  intro i j hi hj hij
  have h3 := h i j (by omega) hij (by simp; omega)
  unfold ltInt at h3
  rw [decide_eq_false_iff_not] at h3
  have e : ∀ m (hm : m < (firstL x).length), (sorted x.toArray)[m]! = (firstL x)[m] := fun m hm => by
    rw [← at_list _ m hm]
    unfold firstL
    rw [Array.toArray_toList]
  rw [e i hi, e j hj] at h3
  omega
theorem rises_unique {x y : List Int} (hx : Rises x) (hy : Rises y) (hp : x.Perm y) : x = y := List.Perm.eq_of_pairwise (fun a b _ _ h1 h2 => by omega) hx hy hp
end Go.Proofs.Ytpelipdecjooeaa.PermN
