/- Proved: from the first permutation on, one by one, all different orders of at most six numbers come, in lexicographic order. Conditions: a list of whole numbers; no others. -/
import Derived.Test.YtpelipdecjooeaaPermFPermutationAll
namespace Go.Proofs.Ytpelipdecjooeaa.Pure
open Go Go.RowKit Go.Proofs.Ytpelipdecjooeaa.PFnPermutationAll Go.Proofs.Ytpelipdecjooeaa.PermFPermutationAll Go.Proofs.YtpelipdecjooeaaW.PrintWords Go.Proofs.Ytpelipdecjooeaa.PermD Go.Proofs.Ytpelipdecjooeaa.PermN
set_option linter.unusedVariables false
/-- from y to z, each the next permutation behind the one before -/
inductive Sq : List Int → List Int → List (List Int) → Prop
  | one (y : List Int) : Sq y y [y]
  | step {y y2 z : List Int} {A : List (List Int)} (h : Nx y y2) (hs : Sq y2 z A) : Sq y z (y :: A)
theorem sq_append {y z : List Int} {A : List (List Int)} (h : Sq y z A) : ∀ {y2 z2 : List Int} {B : List (List Int)}, Nx z y2 → Sq y2 z2 B → Sq y z2 (A ++ B) := by
  induction h with
  | one y => intro y2 z2 B h hs; exact .step h hs
  | step h0 _ ih => intro y2 z2 B h hs; exact .step h0 (ih h hs)
theorem nx_cons {y z : List Int} (v : Int) (h : Nx y z) : Nx (v :: y) (v :: z) := by
  obtain ⟨p, w, u, s, t, rfl, rfl, h⟩ := h
  exact ⟨v :: p, w, u, s, t, rfl, rfl, h⟩
theorem sq_map {y z : List Int} {A : List (List Int)} (v : Int) (h : Sq y z A) : Sq (v :: y) (v :: z) (A.map (v :: ·)) := by
  induction h with
  | one y => exact .one _
  | step h0 _ ih => exact .step (nx_cons v h0) ih
def G (sm : Bool) (last n : Int) : Prop := sm = true → n > last
def Lst (l : List Int) (sm : Bool) (last : Int) (j : Nat) (at_ : Int) : Prop :=
  (at_ = -1 ∧ ∀ m : Nat, m < j → ¬ G sm last (rd l (m : Int))) ∨ ∃ a : Nat, at_ = a ∧ a < j ∧ G sm last (rd l (a : Int)) ∧ ∀ m : Nat, m < j → G sm last (rd l (m : Int)) → rd l (a : Int) ≤ rd l (m : Int)
theorem scan_step (l : List Int) (hn : l.length ≤ 2147483647) (out : List (List Int)) (last : Int) (sm : Bool) (i : Int) (k j : Nat) (at_ : Int) (hj : j < l.length) (h : Lst l sm last j at_) :
    ∃ at', Lst l sm last (j + 1) at' ∧ spec_All.l1 (k + 1) l out last sm at_ (l.length : Int) i l (l.length : Int) (j : Int) = spec_All.l1 k l out last sm at' (l.length : Int) i l (l.length : Int) ((j + 1 : Nat) : Int) := by
  have keep : ¬ G sm last (rd l (j : Int)) → Lst l sm last (j + 1) at_ := by
    intro hg
    rcases h with ⟨e, h⟩ | ⟨a, e, ha, hga, h⟩
    · refine .inl ⟨e, fun m hm => ?_⟩
      rcases Nat.lt_or_ge m j with g | g
      · exact h m g
      · obtain rfl : m = j := by omega
        exact hg
    · refine .inr ⟨a, e, by omega, hga, fun m hm hgm => ?_⟩
      rcases Nat.lt_or_ge m j with g | g
      · exact h m g hgm
      · obtain rfl : m = j := by omega
        exact absurd hgm hg
  have main : G sm last (rd l (j : Int)) → ∃ at', Lst l sm last (j + 1) at' ∧ (if at_ < 0 then spec_All.l1 k l out last sm (j : Int) (l.length : Int) i l (l.length : Int) ((j + 1 : Nat) : Int) else (if 0 ≤ at_ then (if at_ < (l.length : Int) then (if rd l (j : Int) < rd l at_ then spec_All.l1 k l out last sm (j : Int) (l.length : Int) i l (l.length : Int) ((j + 1 : Nat) : Int) else spec_All.l1 k l out last sm at_ (l.length : Int) i l (l.length : Int) ((j + 1 : Nat) : Int)) else none) else none)) = spec_All.l1 k l out last sm at' (l.length : Int) i l (l.length : Int) ((j + 1 : Nat) : Int) := by
    intro hg
    rcases h with ⟨rfl, h⟩ | ⟨a, rfl, ha, hga, h⟩
    · refine ⟨(j : Int), .inr ⟨j, rfl, by omega, hg, fun m hm hgm => ?_⟩, by rw [if_pos (by omega)]⟩
      rcases Nat.lt_or_ge m j with g | g
      · exact absurd hgm (h m g)
      · obtain rfl : m = j := by omega
        exact Int.le_refl _
    · by_cases hlt : rd l (j : Int) < rd l (a : Int)
      · refine ⟨(j : Int), .inr ⟨j, rfl, by omega, hg, fun m hm hgm => ?_⟩, by rw [if_neg (by omega), if_pos (by omega), if_pos (by omega), if_pos hlt]⟩
        rcases Nat.lt_or_ge m j with g | g
        · have := h m g hgm; omega
        · obtain rfl : m = j := by omega
          exact Int.le_refl _
      · refine ⟨(a : Int), .inr ⟨a, rfl, by omega, hga, fun m hm hgm => ?_⟩, by rw [if_neg (by omega), if_pos (by omega), if_pos (by omega), if_neg hlt]⟩
        rcases Nat.lt_or_ge m j with g | g
        · exact h m g hgm
        · obtain rfl : m = j := by omega
          omega
  rw [spec_All.l1, if_pos (by omega), if_pos (by omega), if_pos (by omega), wr j (by omega)]
  cases sm with
  | false =>
    rw [if_neg (by simp)]
    exact main (fun h => by cases h)
  | true =>
    rw [if_pos rfl]
    by_cases hg : rd l (j : Int) > last
    · rw [if_pos hg]
      exact main (fun _ => hg)
    · rw [if_neg hg]
      exact ⟨at_, keep (fun h => hg (h rfl)), rfl⟩
theorem scan (l : List Int) (hn : l.length ≤ 2147483647) (out : List (List Int)) (last : Int) (sm : Bool) (i : Int) (d : Nat) : ∀ (k j : Nat) (at_ : Int), j + d = l.length → Lst l sm last j at_ →
    ∃ at', Lst l sm last l.length at' ∧ spec_All.l1 (k + d) l out last sm at_ (l.length : Int) i l (l.length : Int) (j : Int) = spec_All.l1 k l out last sm at' (l.length : Int) i l (l.length : Int) (l.length : Int) := by
  induction d with
  | zero =>
    intro k j at_ hj h
    obtain rfl : j = l.length := by omega
    exact ⟨at_, h, rfl⟩
  | succ d ih =>
    intro k j at_ hj h
    obtain ⟨at1, h1, e1⟩ := scan_step l hn out last sm i (k + d) j at_ (by omega) h
    obtain ⟨at2, h2, e2⟩ := ih k (j + 1) at1 (by omega) h1
    exact ⟨at2, h2, by rw [← e2, ← e1]; rfl⟩
theorem scan_none (l : List Int) (out : List (List Int)) (last : Int) (sm : Bool) (i : Int) (k : Nat) : spec_All.l1 (k + 1) l out last sm (-1) (l.length : Int) i l (l.length : Int) (l.length : Int) = some out := by
  rw [spec_All.l1, if_neg (by omega), if_pos (by omega)]
theorem scan_at (l : List Int) (hn : l.length ≤ 2147483647) (out : List (List Int)) (last : Int) (sm : Bool) (i : Int) (k a : Nat) (ha : a < l.length) : spec_All.l1 (k + 1) l out last sm (a : Int) (l.length : Int) i l (l.length : Int) (l.length : Int) =
    (spec_All.f k (l.eraseIdx a)).bind fun t => spec_All.l2 k l out (rd l (a : Int)) true (l.length : Int) i t (t.length : Int) 0 := by
  rw [spec_All.l1, if_neg (by omega), if_neg (by omega), if_pos (by omega), if_pos (by omega), Option.bind_some, if_pos (by omega), Int.toNat_natCast, if_pos (by simp; omega), Option.bind_some, wr a (by omega), if_pos (by omega), if_pos (by omega), Int.toNat_natCast, if_pos (by simp; omega), List.nil_append, ← List.eraseIdx_eq_take_drop_succ]
theorem put (l : List Int) (v : Int) (i : Int) (t : List (List Int)) (ht : t.length ≤ 100000) (he : ∀ y ∈ t, y.length ≤ 100000) (d : Nat) : ∀ (k j : Nat) (out : List (List Int)), j + d = t.length → out.length + d ≤ 1000000 →
    spec_All.l2 (k + d) l out v true (l.length : Int) i t (t.length : Int) (j : Int) = spec_All.l2 k l (out ++ (t.drop j).map (v :: ·)) v true (l.length : Int) i t (t.length : Int) (t.length : Int) := by
  induction d with
  | zero =>
    intro k j out hj ho
    obtain rfl : j = t.length := by omega
    rw [List.drop_length, List.map_nil, List.append_nil]
    rfl
  | succ d ih =>
    intro k j out hj ho
    have hr : rd_L1 t (j : Int) = t[j] := by simp [rd_L1, show j < t.length by omega]
    have hm := he t[j] (List.getElem_mem _)
    rw [show k + (d + 1) = (k + d) + 1 from rfl, spec_All.l2, if_pos (by omega), if_pos (by omega), if_pos (by omega), hr, Option.bind_some, if_pos (by simp; omega), if_pos (by omega), wr j (by omega), ih k (j + 1) _ (by omega) (by simp; omega), List.drop_eq_getElem_cons (show j < t.length by omega), List.map_cons, List.append_assoc]
    rfl
theorem put_end (l : List Int) (v : Int) (i : Nat) (hi : i ≤ 2147483647) (t : List (List Int)) (k : Nat) (out : List (List Int)) :
    spec_All.l2 (k + 1) l out v true (l.length : Int) (i : Int) t (t.length : Int) (t.length : Int) = spec_All.l0 k l out v true (l.length : Int) ((i + 1 : Nat) : Int) := by
  rw [spec_All.l2, if_neg (by omega), wr i hi]
theorem count_lt (l : List Int) (x u : Int) (hx : x < u) (hu : u ∈ l) : l.countP (fun n => decide (n ≤ x)) + 1 ≤ l.countP (fun n => decide (n ≤ u)) := by
  induction l with
  | nil => cases hu
  | cons a l ih =>
    have mono : ∀ l : List Int, l.countP (fun n => decide (n ≤ x)) ≤ l.countP (fun n => decide (n ≤ u)) := fun l => List.countP_mono_left (fun n _ h => by simp at h ⊢; omega)
    rw [List.countP_cons, List.countP_cons]
    rcases List.mem_cons.mp hu with e | e
    · subst e
      have := mono l
      rw [if_neg (by simp; omega), if_pos (by simp)]
      omega
    · have := ih e
      by_cases h1 : a ≤ x
      · rw [if_pos (by simpa using h1), if_pos (by simp; omega)]; omega
      · rw [if_neg (by simpa using h1)]; omega
theorem count_full (l : List Int) (x : Int) (h : l.length ≤ l.countP (fun n => decide (n ≤ x))) : ∀ n ∈ l, n ≤ x := by
  have h1 : l.countP (fun n => decide (n ≤ x)) = l.length := Nat.le_antisymm List.countP_le_length h
  have h2 := List.countP_eq_length.mp h1
  intro n hn
  simpa using h2 n hn
/-- all orders of the numbers -/
def Whole (l : List Int) (b : Nat) (A : List (List Int)) : Prop := A.length ≤ b ∧ (∀ y ∈ A, y.length = l.length) ∧ ∃ y z, Rises y ∧ y.Perm l ∧ Falls z ∧ z.Perm l ∧ Sq y z A
/-- what lies ahead of a round -/
def State (l : List Int) (b : Nat) (i : Nat) (out : List (List Int)) (last : Int) (sm : Bool) : Prop :=
  out.length ≤ i * b ∧ (∀ y ∈ out, y.length = l.length) ∧ ((sm = false ∧ out = [] ∧ i = 0) ∨ (sm = true ∧ i ≤ l.countP (fun n => decide (n ≤ last)) ∧ ∃ y tl, Rises y ∧ y.Perm l ∧ Falls tl ∧ (last :: tl).Perm l ∧ Sq y (last :: tl) out))
theorem rounds (l : List Int) (hl : 0 < l.length) (hl6 : l.length ≤ 6) (b F : Nat) (hb : b ≤ 10000) (ih : ∀ k, F ≤ k → ∀ r : List Int, r.length + 1 = l.length → ∃ A, spec_All.f k r = some A ∧ Whole r b A) (d : Nat) :
    ∀ (k i : Nat) (out : List (List Int)) (last : Int) (sm : Bool), i + d = l.length → d * (l.length + b + 3) + F + 1 ≤ k → State l b i out last sm →
    ∃ A, spec_All.l0 k l out last sm (l.length : Int) (i : Int) = some A ∧ Whole l (l.length * b) A := by
  have full : ∀ (i : Nat) (out : List (List Int)) (last : Int), i ≤ l.length → State l b i out last true → (∀ n ∈ l, n ≤ last) → Whole l (l.length * b) out := by
    intro i out last hi ⟨h1, h2, h3⟩ hmax
    rcases h3 with ⟨h, _⟩ | ⟨_, _, y, tl, hy, hyp, htl, hzp, hs⟩
    · cases h
    · refine ⟨Nat.le_trans h1 (Nat.mul_le_mul_right b hi), h2, y, last :: tl, hy, hyp, ?_, hzp, hs⟩
      exact List.pairwise_cons.mpr ⟨fun n hn => hmax n (hzp.mem_iff.mp (List.mem_cons_of_mem _ hn)), htl⟩
  induction d with
  | zero =>
    intro k i out last sm hi hk hst
    obtain ⟨k, rfl⟩ : ∃ j, k = j + 1 := ⟨k - 1, by omega⟩
    refine ⟨out, by rw [spec_All.l0, if_neg (by omega)], ?_⟩
    cases sm with
    | false =>
      obtain ⟨_, _, ⟨_, _, h0⟩ | ⟨h, _⟩⟩ := hst
      · omega
      · cases h
    | true =>
      refine full i out last (by omega) hst (count_full l last ?_)
      obtain ⟨_, _, ⟨h, _⟩ | ⟨_, hc, _⟩⟩ := hst
      · cases h
      · omega
  | succ d ihd =>
    intro k i out last sm hi hk hst
    rw [Nat.succ_mul] at hk
    obtain ⟨k, rfl⟩ : ∃ j, k = j + 1 + l.length + 1 := ⟨k - (l.length + 2), by omega⟩
    rw [spec_All.l0, if_pos (by omega)]
    obtain ⟨at_, hat, e⟩ := scan l (by omega) out last sm (i : Int) l.length (k + 1) 0 (-1) (by omega) (.inl ⟨rfl, fun m hm => by omega⟩)
    rw [show ((0 : Nat) : Int) = 0 from rfl] at e
    rw [e]
    rcases hat with ⟨rfl, hno⟩ | ⟨a, rfl, ha, hga, hle⟩
    · rw [scan_none]
      refine ⟨out, rfl, ?_⟩
      cases sm with
      | false => exact absurd (fun h => by cases h) (hno 0 hl)
      | true =>
        refine full i out last (by omega) hst (fun n hn => ?_)
        obtain ⟨m, hm, rfl⟩ := List.mem_iff_getElem.mp hn
        have := hno m hm
        unfold G at this
        rw [rdn l m hm] at this
        rcases Int.lt_or_le last l[m] with g | g
        · exact absurd (fun _ => g) this
        · exact g
    · rw [scan_at l (by omega) out last sm (i : Int) k a ha]
      have hlen : (l.eraseIdx a).length + 1 = l.length := by rw [List.length_eraseIdx_of_lt ha]; omega
      obtain ⟨B, hB, hBl, hBe, b0, bz, hb0, hb0p, hbz, hbzp, hBs⟩ := ih k (by omega) (l.eraseIdx a) hlen
      have hu : rd l (a : Int) = l[a] := rdn l a ha
      have hmin : ∀ n ∈ l, G sm last n → l[a] ≤ n := by
        intro n hn hg
        obtain ⟨m, hm, rfl⟩ := List.mem_iff_getElem.mp hn
        have := hle m hm (by rw [rdn l m hm]; exact hg)
        rw [rdn l m hm, hu] at this
        exact this
      rw [hu] at hga
      have hpu : (l[a] :: l.eraseIdx a).Perm l := by
        have e1 := List.drop_eq_getElem_cons ha
        rw [List.eraseIdx_eq_take_drop_succ]
        refine List.Perm.trans (List.perm_middle (a := l[a])).symm ?_
        rw [← e1, List.take_append_drop]
      have hyp : (l[a] :: b0).Perm l := (hb0p.cons _).trans hpu
      have hzp : (l[a] :: bz).Perm l := (hbzp.cons _).trans hpu
      rw [hB, Option.bind_some, hu]
      have hob : out.length ≤ 6 * b := Nat.le_trans hst.1 (Nat.mul_le_mul_right b (by omega))
      obtain ⟨k, rfl⟩ : ∃ j, k = j + 1 + B.length := ⟨k - (B.length + 1), by omega⟩
      rw [show (0 : Int) = ((0 : Nat) : Int) from rfl, put l l[a] (i : Int) B (by omega) (fun y hy => by rw [hBe y hy]; omega) B.length (k + 1) 0 out (by omega) (by omega), put_end l l[a] i (by omega), List.drop_zero]
      refine ihd k (i + 1) _ l[a] true (by omega) (by omega) ⟨?_, ?_, .inr ⟨rfl, ?_, ?_⟩⟩
      · rw [List.length_append, List.length_map, Nat.succ_mul]
        have := hst.1
        omega
      · intro y hy
        rcases List.mem_append.mp hy with h | h
        · exact hst.2.1 y h
        · obtain ⟨t, ht, rfl⟩ := List.mem_map.mp h
          rw [List.length_cons, hBe t ht]; omega
      · obtain ⟨_, _, ⟨rfl, rfl, rfl⟩ | ⟨rfl, hc, _⟩⟩ := hst
        · have : 0 < l.countP (fun n => decide (n ≤ l[a])) := List.countP_pos_iff.mpr ⟨l[a], List.getElem_mem _, by simp⟩
          omega
        · have := count_lt l last l[a] (hga rfl) (List.getElem_mem _)
          omega
      · obtain ⟨_, _, ⟨rfl, rfl, rfl⟩ | ⟨rfl, _, y, tl, hy, hyp2, htl, hzp2, hs⟩⟩ := hst
        · refine ⟨l[a] :: b0, bz, List.pairwise_cons.mpr ⟨fun n hn => hmin n (hyp.mem_iff.mp (List.mem_cons_of_mem _ hn)) (fun h => by cases h), hb0⟩, hyp, hbz, hzp, ?_⟩
          rw [List.nil_append]
          exact sq_map l[a] hBs
        · refine ⟨y, bz, hy, hyp2, hbz, hzp, sq_append hs ?_ (sq_map l[a] hBs)⟩
          have hlt : last < l[a] := hga rfl
          refine ⟨[], last, l[a], tl, b0, rfl, rfl, htl, hb0, hlt, ?_, ?_, hzp2.trans hyp.symm⟩
          · rcases List.mem_cons.mp (hzp2.mem_iff.mpr (List.getElem_mem ha)) with g | g
            · omega
            · exact g
          · intro m hm
            rcases Int.lt_or_le last m with g | g
            · exact .inr (hmin m (hzp2.mem_iff.mp (List.mem_cons_of_mem _ hm)) (fun _ => g))
            · exact .inl g
theorem all_is : ∀ n : Nat, n ≤ 6 → ∃ b F : Nat, b ≤ 6 ^ n ∧ ∀ k, F ≤ k → ∀ l : List Int, l.length = n → ∃ A, spec_All.f k l = some A ∧ Whole l b A := by
  intro n
  induction n with
  | zero =>
    intro _
    refine ⟨1, 1, by omega, fun k hk l hl => ?_⟩
    obtain ⟨k, rfl⟩ : ∃ j, k = j + 1 := ⟨k - 1, by omega⟩
    obtain rfl := List.length_eq_zero_iff.mp hl
    refine ⟨[[]], by rw [spec_All.f, if_pos (by rfl)], by simp, by simp, [], [], List.Pairwise.nil, List.Perm.refl _, List.Pairwise.nil, List.Perm.refl _, .one _⟩
  | succ n ih =>
    intro hn
    obtain ⟨b, F, hb, h⟩ := ih (by omega)
    have hp : 6 ^ n ≤ 6 ^ 5 := Nat.pow_le_pow_right (by omega) (by omega)
    have h65 : 6 ^ 5 = 7776 := by decide
    refine ⟨(n + 1) * b, (n + 1) * (n + 1 + b + 3) + F + 2, ?_, fun k hk l hl => ?_⟩
    · rw [Nat.pow_succ, Nat.mul_comm]
      exact Nat.mul_le_mul hb hn
    · obtain ⟨k, rfl⟩ : ∃ j, k = j + 1 := ⟨k - 1, by omega⟩
      obtain ⟨A, e, hA⟩ := rounds l (by omega) (by omega) b F (by omega) (fun k hk r hr => h k hk r (by omega)) l.length k 0 [] 0 false (by omega) (by rw [hl]; omega) ⟨by simp, by simp, .inl ⟨rfl, rfl, rfl⟩⟩
      rw [hl] at hA
      refine ⟨A, ?_, hA⟩
      rw [spec_All.f, if_neg (by omega)]
      exact e
theorem law_l0 (A : List (List Int)) (hA : A.length ≤ 100000) (z : List Int) (hz : Falls z) {y : List Int} {B : List (List Int)} (h : Sq y z B) : (∀ x ∈ B, x.length ≤ 6) → ∀ (k i : Nat), A.drop i = B → B.length + 20 < k →
    laws_FnPermutationAll.l0 k y A A (A.length : Int) (i : Int) = some true := by
  induction h with
  | one y =>
    intro he k i hd hk
    obtain ⟨k, rfl⟩ : ∃ j, k = j + 1 + 1 := ⟨k - 2, by omega⟩
    have hl := congrArg List.length hd
    rw [List.length_drop, List.length_singleton] at hl
    have hr : rd_L1 A (i : Int) = y := by
      have := List.drop_eq_getElem_cons (show i < A.length by omega)
      rw [hd] at this
      simp only [List.cons.injEq] at this
      simp [rd_L1, show i < A.length by omega, this.1]
    have hy := he y (List.mem_singleton.mpr rfl)
    rw [laws_FnPermutationAll.l0, if_pos (by omega), if_pos (by omega), if_pos (by omega), hr, same_is y (by omega) (k + 1) (by simp at hk; omega), Option.bind_some, if_pos rfl, next_is y (by omega), Option.bind_some, next_none hz, wr i (by omega), decide_eq_false (by omega), if_neg (by simp), laws_FnPermutationAll.l0, if_neg (by omega), ordered_is k (by simp at hk; omega), Option.bind_some]
  | @step y y2 z B h0 hs ih =>
    intro he k i hd hk
    obtain ⟨k, rfl⟩ : ∃ j, k = j + 1 := ⟨k - 1, by omega⟩
    have hl := congrArg List.length hd
    rw [List.length_drop, List.length_cons] at hl
    have hBpos : 0 < B.length := by cases hs <;> simp
    have hc := List.drop_eq_getElem_cons (show i < A.length by omega)
    rw [hd] at hc
    simp only [List.cons.injEq] at hc
    have hr : rd_L1 A (i : Int) = y := by simp [rd_L1, show i < A.length by omega, hc.1]
    have hy := he y (List.mem_cons_self ..)
    rw [List.length_cons] at hk
    rw [laws_FnPermutationAll.l0, if_pos (by omega), if_pos (by omega), if_pos (by omega), hr, same_is y (by omega) k (by omega), Option.bind_some, if_pos rfl, next_is y (by omega), Option.bind_some, next_of h0, wr i (by omega), decide_eq_true (by omega), if_neg (by simp)]
    exact ih hz (fun x hx => he x (List.mem_cons_of_mem _ hx)) k (i + 1) hc.2.symm (by omega)
theorem FnPermutationAll : laws_FnPermutationAll.Pure := by
  intro l _ _ _
  by_cases h2 : (l.length : Int) > 6
  · refine ⟨3, ?_⟩
    rw [laws_FnPermutationAll.f]
    by_cases h1 : (l.length : Int) > 2147483647
    · rw [if_pos h1]
    · rw [if_neg h1, if_pos h2, ordered_is 3 (by omega), Option.bind_some]
  · obtain ⟨b, F, hb, h⟩ := all_is l.length (by omega)
    have hp : 6 ^ l.length ≤ 6 ^ 6 := Nat.pow_le_pow_right (by omega) (by omega)
    have h66 : 6 ^ 6 = 46656 := by decide
    obtain ⟨A, e, hAl, hAe, y, z, hy, hyp, hz, hzp, hs⟩ := h (F + b + 30) (by omega) l rfl
    refine ⟨F + b + 30, ?_⟩
    rw [laws_FnPermutationAll.f, if_neg (by omega), if_neg h2, first_is l (by omega), Option.bind_some, e, Option.bind_some, rises_unique (first_rises l) hy ((first_perm l).trans hyp.symm)]
    exact law_l0 A (by omega) z hz hs (fun x hx => by rw [hAe x hx]; omega) (F + b + 30) 0 rfl (by omega)
end Go.Proofs.Ytpelipdecjooeaa.Pure
