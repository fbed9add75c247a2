/- Proved: the package compares two fractions as their products crosswise. Conditions: four numbers of 32 bits without a sign; no others. -/
import Derived.Test.YtjfefhjnpokcbaaPFnQCmpx1
import Derived.Test.YtjfefhjnpokcbaaCom
namespace Go.Proofs.Ytjfefhjnpokcbaa.Pure
open Go.RowKit Go.Proofs.Ytjfefhjnpokcbaa.PFnQCmp Go.Proofs.YtjfefhjnpokcbaaW.PrintWords Go.Proofs.YtjfefhjnpokcbaaW.PrintLast Go.Com

theorem FnQCmp : laws_FnQCmp.Pure := by
  intro a b c d _ _ _ _
  refine ⟨1, ?_⟩
  have h1 : impl_QCmp.f 1 2 1 3 = some 1 := by simp [impl_QCmp.f, mathutil_QCmpUint32.f, IntKind.wrap_u64]
  simp only [laws_FnQCmp.f, h1, Option.bind_some, laws_FnQCmp.j0]
  simp only [impl_QCmp.f, mathutil_QCmpUint32.f]
  have e : IntKind.u64.wrap (IntKind.u64.wrap c * IntKind.u64.wrap b) = IntKind.u64.wrap (IntKind.u64.wrap b * IntKind.u64.wrap c) := by rw [Int.mul_comm]
  rw [e]
  generalize IntKind.u64.wrap (IntKind.u64.wrap b * IntKind.u64.wrap c) = y
  generalize IntKind.u64.wrap (IntKind.u64.wrap a * IntKind.u64.wrap d) = x
  rcases Int.lt_trichotomy x y with h | h | h
  · simp [h]
  · subst h; simp
  · have h' : ¬ x < y := by omega
    have h'' : ¬ x = y := by omega
    simp [h, h', h'']

end Go.Proofs.Ytjfefhjnpokcbaa.Pure
