/- Proved: the upper and the lower 64 bits of a sum of two numbers of 64 bits, as the package tells them, are those of the reference. Conditions: both are numbers of 64 bits without a sign; no others. -/
import Derived.Test.YtjfefhjnpokcbaaPFnPlus128x1
import Derived.Test.YtjfefhjnpokcbaaCom
namespace Go.Proofs.Ytjfefhjnpokcbaa.Pure
open Go.RowKit Go.Proofs.Ytjfefhjnpokcbaa.PFnPlus128 Go.Proofs.YtjfefhjnpokcbaaW.PrintWords Go.Proofs.YtjfefhjnpokcbaaW.PrintLast Go.Com

theorem FnPlus128 : laws_FnPlus128.Pure := by
  intro a b ha hb
  simp only [laws_FnPlus128.f, impl_AddUint128.f, mathutil_AddUint128_64.f, spec_Plus.f, IntKind.wrap_u64]
  split <;> simp

end Go.Proofs.Ytjfefhjnpokcbaa.Pure
