/- Proved: the given statement of 'FnProbably64', and its card. Conditions: those of the given row (the four variables of math/big as the program's text lays them); no others. -/
import Derived.Test.YtmmnopmccamjcaaDoorProbP
import Derived.Test.YtmmnopmccamjcaaDoorDoorP
import Derived.Test.YtmmnopmccamjcaaDoorTie
import Derived.Test.YtmmnopmccamjcaaDoorCards
import Derived.Test.YtmmnopmccamjcaaDoorCom
import Derived.LaidOnce
import GoSem.ClaimSeven
import Derived.ChangeAlike
import Derived.SevenTiedAt
import Derived.WalkKit
import Derived.ChangeOld
import Derived.SizedLaws
namespace Go.Proofs.YtmmnopmccamjcaaDoor.RowFnProbably64
open Go Go.ChangeShapes Go.WideShapes Go.ChangeAt Go.RowKit Go.Proofs.YtmmnopmccamjcaaDoor.DoorP
set_option linter.unusedVariables false
set_option maxRecDepth 100000

theorem laid_eq : Rows.fnProbably64Row.laid = DoorP.theLaid := by kernel_rfl

theorem lifted (os : Os) (started : os.Started) (H : Type) (enc : TypeId × Value → H) :
    ReturnsInHanded {} Tryd.checked os 3 .any (fun w args => (Rows.fnProbably64Spec.pre enc Tryd.prog Tryd.f3 [] false w args ∧ laidMetH Tryd.prog Rows.fnProbably64Row.laid w) ∧ sizedMet enc Tryd.prog Tryd.f3 (OpenSpec.ofChange Rows.fnProbably64Spec) false w args)
      (Rows.fnProbably64Spec.post enc Tryd.prog Tryd.f3 false true false false) := by
  refine returnsInHanded_of_change_and (C := Tryd.checked) (X := fun w _ => laidMetH Tryd.prog Rows.fnProbably64Row.laid w) (fun _ _ _ hh h => h.of_heap hh) own started (by kernel_rfl) Tryd.func3
    (ChangeSpec.witness_shaped (enc := enc) (C := Tryd.checked) (os := os) (X := fun w _ => laidMetH Tryd.prog Rows.fnProbably64Row.laid w) false (World.doorLaid Tryd.prog 25 os) #[.int .u64 0, .int .u32 0] 8 rfl (World.shaped_of_RefB (by kernel_rfl) (by kernel_rfl)) (by kernel_rfl) (by kernel_rfl) (by kernel_rfl) (by rw [laid_eq]; exact DoorP.door_met os _)) ?_
  intro W base args ds gs before hval0 hW _ _ hL _
  have hval : ∀ (j : Nat) t v, Tryd.f3.params[j]? = some t → args[j]? = some v → Value.okWide Tryd.prog W .any base t v := hval0
  have hW' := hW
  obtain ⟨p, q, hA0, hV0, rfl, hfz, hnd⟩ := hW
  have hA : DataW.TrodAll enc Tryd.prog W 0 (fun _ => true) true Tryd.f3.params.toList args.toList ds p := hA0
  have hV : DataW.TrodVars enc Tryd.prog W (fun _ => true) names gs q := hV0
  rw [Tryd.params3] at hA hval
  obtain ⟨v0, vs0, d0, ds0, p0, q0, hargs, rfl, rfl, h0, r0⟩ := trodAll_cons hA
  obtain ⟨v1, vs1, d1, ds1, p1, q1, rfl, rfl, rfl, h1, r1⟩ := trodAll_cons r0
  obtain ⟨rfl, rfl, rfl⟩ := trodAll_nil r1
  obtain rfl : args = #[v0, v1] := by cases args; simp_all
  obtain ⟨a0, rfl, rfl, rfl, w0⟩ := open_int Tryd.underlying22 (hval 0 22 v0 rfl rfl) h0
  obtain ⟨a1, rfl, rfl, rfl, w1⟩ := open_int Tryd.underlying23 (hval 1 23 v1 rfl rfl) h1
  obtain ⟨e1, e2, e3, e4, rfl⟩ : ∃ e1 e2 e3 e4, gs = [e1, e2, e3, e4] := by
    have hl := DoorP.vars_len hV
    rcases gs with _ | ⟨e1, _ | ⟨e2, _ | ⟨e3, _ | ⟨e4, _ | ⟨e5, gs⟩⟩⟩⟩⟩ <;> simp [names] at hl
    exact ⟨e1, e2, e3, e4, rfl⟩
  clear hA0 hV0 hval0
  refine (ProbP.walk a0 a1 W w0 w1).mono fun e W' ⟨he, bel⟩ => ?_
  subst he
  have hvars : ∀ sp : Nat → Bool, DataW.TrodVars enc Tryd.prog W' sp names [e1, e2, e3, e4] q := fun sp => DoorP.vars_kept bel DoorP.ints hV
  exact ⟨_, rfl, _, _, _, [], _, _, hW', trodAll_mk1 (shut_bool Tryd.underlying4 _), (trodAll_cons_mk (shut_int Tryd.underlying22 w0) (trodAll_cons_mk (shut_int Tryd.underlying23 w1) trodAll_mk0)), hvars _, bel.frame _, fun h => by cases h⟩

end Go.Proofs.YtmmnopmccamjcaaDoor.RowFnProbably64
namespace Go.Proofs.YtmmnopmccamjcaaDoor
open Go
set_option maxRecDepth 100000
theorem fnProbably64_row : Rows.FnProbably64Said :=
  OpenClaim.holds_of_wide 3 Tryd.f3 rfl rfl rfl rfl rfl rfl rfl ⟨rfl, rfl, rfl, rfl, rfl⟩ rfl rfl rfl rfl rfl (by kernel_rfl) Tryd.func3 (by kernel_rfl)
    (of_decide_eq_true (by kernel_rfl)) (by unfold Func.isWrapper; first | (rw [if_pos (by decide +kernel)]; kernel_rfl) | (rw [if_neg (by decide +kernel)]; exact ⟨rfl, rfl⟩))
    (fun os started H enc _ => RowFnProbably64.lifted os started H enc)
theorem fnProbably64_holds : Rows.FnProbably64CardSaid :=
  Claim7.holds_tied_plain_at .later [] [.data, .data, .data, .data] true (true, "56146e1d67976f6a616cc78ca3cbbcd88f68601bfb025534f0c03ca3313099bd") false
    fnProbably64_row (fun _ h => by cases h) (by kernel_rfl) (fun _ h => by cases h) fnProbably64_row_tie rfl ⟨rfl, rfl⟩ (by kernel_rfl) rfl
    (fun f fn hf hfn => by
      obtain rfl : f = 3 := Option.some.inj ((show Tryd.prog.funcNamed "loop.example/pub-g01479/laws.FnProbably64" = some 3 by kernel_rfl).symm.trans hf) |>.symm
      obtain rfl : fn = Tryd.f3 := (Option.some.inj (Tryd.func3.symm.trans hfn)).symm
      exact ⟨by kernel_rfl, fun j t ht => by
        rw [Tryd.params3] at ht
        rcases j with _ | _ | j
        · obtain rfl : 22 = t := by simpa using ht
          exact (show Tryd.prog.wantsStandIn 22 = false by kernel_rfl)
        · obtain rfl : 23 = t := by simpa using ht
          exact (show Tryd.prog.wantsStandIn 23 = false by kernel_rfl)
        · simp at ht⟩)
    (by kernel_rfl)
end Go.Proofs.YtmmnopmccamjcaaDoor
