/- The walk of the law FnRoot32Squares: with the roots that ISqrt tells. -/
import Derived.Test.YtjfefhjnpokcbaaOFnRoot32x1
import Derived.Test.YtjfefhjnpokcbaaPureFnRoot32
import Derived.Test.YtjfefhjnpokcbaaCom
import Derived.Test.YtjfefhjnpokcbaaNums
import Derived.Outline
import Derived.WalkLawsBesides
namespace Go.Proofs.Ytjfefhjnpokcbaa.WalkSq
open Go Go.RowKit Go.Com Go.Proofs.Ytjfefhjnpokcbaa.PFnRoot32 Go.Proofs.YtjfefhjnpokcbaaW.PrintWords Go.Proofs.YtjfefhjnpokcbaaW.PrintLast
set_option linter.unusedVariables false

theorem root_any (n s : Int) (h0 : 0 ≤ n) (h1 : n < 4294967296) (hs : 0 ≤ s) (h2 : s * s ≤ n) (h3 : n < (s + 1) * (s + 1)) (w : World) :
    Calls Try.prog 29 #[.int .u32 n] w fun e w' => e = .returned (.int .u32 s) ∧ Drawn0 w w' :=
  impl_ISqrt.calls (n.toNat + 1) n s w (Pure.sqrt_is h0 h1 hs h2 h3 _ (by omega))

theorem zero (w : World) : Calls Try.prog 11 #[.int .u16 0] w fun e w' => e = .returned (.bool true) ∧ Drawn0 w w' := by
  have c9 := fun w => root_any 9 3 (by omega) (by omega) (by omega) (by omega) (by omega) w
  have c0 := fun w => root_any 0 0 (by omega) (by omega) (by omega) (by omega) (by omega) w
  go_enter Try.func11, Try.ntmps11
  go_wp2_with (first
    | (go_at_call 29; (with_reducible refine (c9 _).mono ?_); rintro e w' ⟨rfl, ⟨nd, rfl⟩⟩)
    | (go_at_call 29; (with_reducible refine (c0 _).mono ?_); rintro e w' ⟨rfl, ⟨nd, rfl⟩⟩))
  go_ret
  exact ⟨rfl, ⟨_, rfl⟩⟩

theorem some_ (x : Int) (h0 : 1 ≤ x) (h1 : x ≤ 65535) (w : World) : Calls Try.prog 11 #[.int .u16 x] w fun e w' => e = .returned (.bool true) ∧ Drawn0 w w' := by
  have hq : 1 ≤ x * x := by have := Nums.sq_le (a := 1) (b := x) (by omega) (by omega); omega
  have hq2 : x * x ≤ 4294836225 := by have := Nums.sq_le (a := x) (b := 65535) (by omega) (by omega); omega
  have hx1 : (x + 1) * (x + 1) = x * x + 2 * x + 1 := by grind
  have e5 : (x - 1) * (x - 1) = x * x - 2 * x + 1 := by grind
  have e6 : (x - 1 + 1) * (x - 1 + 1) = x * x := by grind
  have c9 := fun w => root_any 9 3 (by omega) (by omega) (by omega) (by omega) (by omega) w
  have cx := fun w => root_any (x * x) x (by omega) (by omega) (by omega) (by omega) (by omega) w
  have cy := fun w => root_any (x * x - 1) (x - 1) (by omega) (by omega) (by omega) (by omega) (by omega) w
  have hz : (x == 0) = false := by rw [beq_eq_false_iff_ne]; omega
  clear hx1 e5 e6
  go_enter Try.func11, Try.ntmps11
  go_wp2_with (first
    | (go_at_call 29; (with_reducible refine (c9 _).mono ?_); rintro e w' ⟨rfl, ⟨nd, rfl⟩⟩)
    | (go_at_call 29; (with_reducible refine (cx _).mono ?_); rintro e w' ⟨rfl, ⟨nd, rfl⟩⟩)
    | (go_at_call 29; (with_reducible refine (cy _).mono ?_); rintro e w' ⟨rfl, ⟨nd, rfl⟩⟩))
  go_ret
  exact ⟨rfl, ⟨_, rfl⟩⟩

theorem walk (x : Int) (h : (Lit.int .u16 x).wf = true) (w : World) : Calls Try.prog 11 #[.int .u16 x] w fun e w' => e = .returned (.bool true) ∧ Below w.heap.size w w' := by
  obtain ⟨h0, h1⟩ := b_u16 h
  have key : Calls Try.prog 11 #[.int .u16 x] w fun e w' => e = .returned (.bool true) ∧ Drawn0 w w' := by
    by_cases hz : x = 0
    · subst hz; exact zero w
    · exact some_ x (by omega) (by omega) w
  refine key.mono ?_
  rintro e w' ⟨rfl, ⟨n, rfl⟩⟩
  exact ⟨rfl, pw_below_drewN (Below.refl _ _) n⟩

end Go.Proofs.Ytjfefhjnpokcbaa.WalkSq
