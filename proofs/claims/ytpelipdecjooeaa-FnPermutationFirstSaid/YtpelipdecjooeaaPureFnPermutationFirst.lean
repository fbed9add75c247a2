/- Proved: the first permutation of numbers has them in order. Conditions: a list of whole numbers; no others. -/
import Derived.Test.YtpelipdecjooeaaPermFPermutationFirst
namespace Go.Proofs.Ytpelipdecjooeaa.Pure
open Go Go.RowKit Go.Proofs.Ytpelipdecjooeaa.PFnPermutationFirst Go.Proofs.Ytpelipdecjooeaa.PermFPermutationFirst Go.Proofs.Ytpelipdecjooeaa.PermD Go.Proofs.Ytpelipdecjooeaa.PermN
theorem FnPermutationFirst : laws_FnPermutationFirst.Pure := by
  intro l _ _ _
  refine ⟨2 * l.length + 10, ?_⟩
  have hf := len_first l
  rw [laws_FnPermutationFirst.f]
  by_cases h1 : (l.length : Int) > 2147483647
  · rw [if_pos h1]
  · rw [if_neg h1, ordered_is _ (by omega)]
    by_cases h2 : (l.length : Int) > 1000
    · rw [if_pos h2, Option.bind_some]
    · rw [if_neg h2, first_is l (by omega), Option.bind_some, Option.bind_some, if_pos rfl, sorted_is _ (by omega) (first_rises l) _ (by omega), Option.bind_some, if_pos rfl, turned_is _ l (by omega) (first_perm l) _ (by omega), Option.bind_some]
end Go.Proofs.Ytpelipdecjooeaa.Pure
