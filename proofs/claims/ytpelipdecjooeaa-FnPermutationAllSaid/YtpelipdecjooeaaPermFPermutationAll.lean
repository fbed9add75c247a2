/- What the functions of the law 'FnPermutationAll' answer: no walk in sight. -/
import Derived.Test.YtpelipdecjooeaaOFnPermutationAllx3
import Derived.Test.YtpelipdecjooeaaPermN
namespace Go.Proofs.Ytpelipdecjooeaa.PermFPermutationAll
open Go Go.RowKit Go.Proofs.Ytpelipdecjooeaa.PFnPermutationAll Go.Proofs.YtpelipdecjooeaaW.PrintWords Go.Proofs.YtpelipdecjooeaaW.PrintLast Go.Proofs.Ytpelipdecjooeaa.PermD Go.Proofs.Ytpelipdecjooeaa.PermN
set_option linter.unusedVariables false
theorem w64in (n : Int) (h : -9223372036854775808 ≤ n ∧ n ≤ 9223372036854775807) : wrap64 n = n := by unfold wrap64; omega
theorem wr (i : Nat) (h : i ≤ 2147483647) : wrap64 ((i : Int) + 1) = ((i + 1 : Nat) : Int) := by rw [w64in _ (by omega)]; rfl
theorem rdn (l : List Int) (i : Nat) (h : i < l.length) : rd l (i : Int) = l[i] := by simp [rd, h]
theorem same_l (l : List Int) (hn : l.length ≤ 2147483647) (d : Nat) : ∀ (k i : Nat), i + d = l.length → d < k → spec_Same.l0 k l l (l.length : Int) (i : Int) = some true := by
  induction d with
  | zero =>
    intro k i h hk
    obtain ⟨k, rfl⟩ : ∃ j, k = j + 1 := ⟨k - 1, by omega⟩
    rw [spec_Same.l0, if_neg (by omega)]
  | succ d ih =>
    intro k i h hk
    obtain ⟨k, rfl⟩ : ∃ j, k = j + 1 := ⟨k - 1, by omega⟩
    rw [spec_Same.l0, if_pos (by omega), if_pos (by omega), if_pos (by omega), if_pos (by omega), if_pos rfl, wr i (by omega)]
    exact ih k (i + 1) (by omega) (by omega)
theorem same_is (l : List Int) (hn : l.length ≤ 2147483647) (k : Nat) (hk : l.length < k) : spec_Same.f k l l = some true := by
  unfold spec_Same.f
  rw [if_pos rfl]
  exact same_l l hn l.length k 0 (by omega) hk
theorem clone_is (l : List Int) (h : l.length ≤ 2147483647) : slices_Clone_int_int.f l = some l := by
  unfold slices_Clone_int_int.f
  rw [Option.bind_some, if_pos (by simp; omega), List.nil_append]
theorem first_is (l : List Int) (h : l.length ≤ 2147483647) : impl_PermutationFirst.f l = some (firstL l) := by
  have hl := len_first l
  unfold impl_PermutationFirst.f mathutil_ZZPermutationFirst.f
  rw [Option.bind_some, Option.bind_some, if_pos (by simp; omega), List.nil_append, clone_is l h, Option.bind_some, Option.bind_some, if_pos (by simp; omega), List.nil_append]
theorem next_is (l : List Int) (h : l.length ≤ 2147483647) : impl_PermutationNext.f l = some (nextL l) := by
  have hl := len_next l
  unfold impl_PermutationNext.f mathutil_ZZPermutationNext.f
  rw [Option.bind_some, if_pos (by simp; omega), List.nil_append, clone_is l h, Option.bind_some, Option.bind_some, Option.bind_some, if_pos (by simp; omega), List.nil_append]
theorem nx12 : Nx [1, 2] [2, 1] := ⟨[], 1, 2, [2], [1], rfl, rfl, List.pairwise_singleton _ _, List.pairwise_singleton _ _, by omega, List.mem_singleton.mpr rfl, fun m hm => .inr (by rw [List.mem_singleton.mp hm]; omega), List.Perm.swap 2 1 []⟩
theorem first21 : firstL [2, 1] = [1, 2] := by
  refine rises_unique (first_rises _) ?_ ((first_perm _).trans (List.Perm.swap 1 2 []))
  unfold Rises
  simp
theorem ordered_is (k : Nat) (hk : 2 < k) : laws_ordered.f k = some true := by
  unfold laws_ordered.f
  rw [next_is [1, 2] (by simp), next_of nx12, Option.bind_some, if_pos rfl, same_is [2, 1] (by simp) k (by simpa using hk), Option.bind_some, if_pos rfl, first_is [2, 1] (by simp), Option.bind_some, first21, same_is [1, 2] (by simp) k (by simpa using hk), Option.bind_some]
end Go.Proofs.Ytpelipdecjooeaa.PermFPermutationAll
