/- Proved: the given statement of 'FnModPow', and its card. Conditions: those of the given row (the four variables of math/big as the program's text lays them); no others. -/
import Derived.Test.YtmmnopmccamjcaaGreatDoorPowL
import Derived.Test.YtmmnopmccamjcaaGreatDoorDoorP
import Derived.Test.YtmmnopmccamjcaaGreatDoorTie
import Derived.Test.YtmmnopmccamjcaaGreatDoorCards
import Derived.Test.YtmmnopmccamjcaaGreatDoorCom
import Derived.LaidOnce
import GoSem.ClaimSeven
import Derived.ChangeAlike
import Derived.SevenTiedAt
import Derived.WalkKit
import Derived.ChangeOld
import Derived.SizedLaws
namespace Go.Proofs.YtmmnopmccamjcaaGreatDoor.RowFnModPow
open Go Go.ChangeShapes Go.WideShapes Go.ChangeAt Go.RowKit Go.Proofs.YtmmnopmccamjcaaGreatDoor.DoorP
set_option linter.unusedVariables false
set_option maxRecDepth 100000

theorem laid_eq : Rows.fnModPowRow.laid = DoorP.theLaid := by kernel_rfl

theorem lifted (os : Os) (started : os.Started) (H : Type) (enc : TypeId × Value → H) :
    ReturnsInHanded {} Tryz.checked os 3 .any (fun w args => (Rows.fnModPowSpec.pre enc Tryz.prog Tryz.f3 [] false w args ∧ laidMetH Tryz.prog Rows.fnModPowRow.laid w) ∧ sizedMet enc Tryz.prog Tryz.f3 (OpenSpec.ofChange Rows.fnModPowSpec) false w args)
      (Rows.fnModPowSpec.post enc Tryz.prog Tryz.f3 false true false false) := by
  refine returnsInHanded_of_change_and (C := Tryz.checked) (X := fun w _ => laidMetH Tryz.prog Rows.fnModPowRow.laid w) (fun _ _ _ hh h => h.of_heap hh) own started (by kernel_rfl) Tryz.func3
    (ChangeSpec.witness_shaped (enc := enc) (C := Tryz.checked) (os := os) (X := fun w _ => laidMetH Tryz.prog Rows.fnModPowRow.laid w) false (World.doorLaid Tryz.prog 25 os) #[.int .i64 0, .int .u64 0, .int .u64 0, .int .u64 0] 8 rfl (World.shaped_of_RefB (by kernel_rfl) (by kernel_rfl)) (by kernel_rfl) (by kernel_rfl) (by kernel_rfl) (by rw [laid_eq]; exact DoorP.door_met os _)) ?_
  intro W base args ds gs before hval0 hW _ _ hL _
  have hval : ∀ (j : Nat) t v, Tryz.f3.params[j]? = some t → args[j]? = some v → Value.okWide Tryz.prog W .any base t v := hval0
  have hW' := hW
  obtain ⟨p, q, hA0, hV0, rfl, hfz, hnd⟩ := hW
  have hA : DataW.TrodAll enc Tryz.prog W 0 (fun _ => true) true Tryz.f3.params.toList args.toList ds p := hA0
  have hV : DataW.TrodVars enc Tryz.prog W (fun _ => true) names gs q := hV0
  rw [Tryz.params3] at hA hval
  obtain ⟨v0, vs0, d0, ds0, p0, q0, hargs, rfl, rfl, h0, r0⟩ := trodAll_cons hA
  obtain ⟨v1, vs1, d1, ds1, p1, q1, rfl, rfl, rfl, h1, r1⟩ := trodAll_cons r0
  obtain ⟨v2, vs2, d2, ds2, p2, q2, rfl, rfl, rfl, h2, r2⟩ := trodAll_cons r1
  obtain ⟨v3, vs3, d3, ds3, p3, q3, rfl, rfl, rfl, h3, r3⟩ := trodAll_cons r2
  obtain ⟨rfl, rfl, rfl⟩ := trodAll_nil r3
  obtain rfl : args = #[v0, v1, v2, v3] := by cases args; simp_all
  obtain ⟨a0, rfl, rfl, rfl, w0⟩ := open_int Tryz.underlying3 (hval 0 3 v0 rfl rfl) h0
  obtain ⟨a1, rfl, rfl, rfl, w1⟩ := open_int Tryz.underlying22 (hval 1 22 v1 rfl rfl) h1
  obtain ⟨a2, rfl, rfl, rfl, w2⟩ := open_int Tryz.underlying22 (hval 2 22 v2 rfl rfl) h2
  obtain ⟨a3, rfl, rfl, rfl, w3⟩ := open_int Tryz.underlying22 (hval 3 22 v3 rfl rfl) h3
  obtain ⟨e1, e2, e3, e4, rfl⟩ : ∃ e1 e2 e3 e4, gs = [e1, e2, e3, e4] := by
    have hl := DoorP.vars_len hV
    rcases gs with _ | ⟨e1, _ | ⟨e2, _ | ⟨e3, _ | ⟨e4, _ | ⟨e5, gs⟩⟩⟩⟩⟩ <;> simp [names] at hl
    exact ⟨e1, e2, e3, e4, rfl⟩
  clear hA0 hV0 hval0
  refine (PowL.walk a0 a1 a2 a3 W w0 w1 w2 w3).mono fun e W' ⟨he, bel⟩ => ?_
  subst he
  have hvars : ∀ sp : Nat → Bool, DataW.TrodVars enc Tryz.prog W' sp names [e1, e2, e3, e4] q := fun sp => DoorP.vars_kept bel DoorP.ints hV
  exact ⟨_, rfl, _, _, _, [], _, _, hW', trodAll_mk1 (shut_bool Tryz.underlying4 _), (trodAll_cons_mk (shut_int Tryz.underlying3 w0) (trodAll_cons_mk (shut_int Tryz.underlying22 w1) (trodAll_cons_mk (shut_int Tryz.underlying22 w2) (trodAll_cons_mk (shut_int Tryz.underlying22 w3) trodAll_mk0)))), hvars _, bel.frame _, fun h => by cases h⟩

end Go.Proofs.YtmmnopmccamjcaaGreatDoor.RowFnModPow
namespace Go.Proofs.YtmmnopmccamjcaaGreatDoor
open Go
set_option maxRecDepth 100000
theorem fnModPow_row : Rows.FnModPowSaid :=
  OpenClaim.holds_of_wide 3 Tryz.f3 rfl rfl rfl rfl rfl rfl rfl ⟨rfl, rfl, rfl, rfl, rfl⟩ rfl rfl rfl rfl rfl (by kernel_rfl) Tryz.func3 (by kernel_rfl)
    (of_decide_eq_true (by kernel_rfl)) (by unfold Func.isWrapper; first | (rw [if_pos (by decide +kernel)]; kernel_rfl) | (rw [if_neg (by decide +kernel)]; exact ⟨rfl, rfl⟩))
    (fun os started H enc _ => RowFnModPow.lifted os started H enc)
theorem fnModPow_holds : Rows.FnModPowCardSaid :=
  Claim7.holds_tied_plain_at .later [] [.data, .data, .data, .data] true (true, "69e173fdcaa92dee71195f1d76daf5e0f2abf0aa9472fa1ac066441a1cd07990") false
    fnModPow_row (fun _ h => by cases h) (by kernel_rfl) (fun _ h => by cases h) fnModPow_row_tie rfl ⟨rfl, rfl⟩ (by kernel_rfl) rfl
    (fun f fn hf hfn => by
      obtain rfl : f = 3 := Option.some.inj ((show Tryz.prog.funcNamed "loop.example/pub-g01479/laws.FnModPow" = some 3 by kernel_rfl).symm.trans hf) |>.symm
      obtain rfl : fn = Tryz.f3 := (Option.some.inj (Tryz.func3.symm.trans hfn)).symm
      exact ⟨by kernel_rfl, fun j t ht => by
        rw [Tryz.params3] at ht
        rcases j with _ | _ | _ | _ | j
        · obtain rfl : 3 = t := by simpa using ht
          exact (show Tryz.prog.wantsStandIn 3 = false by kernel_rfl)
        · obtain rfl : 22 = t := by simpa using ht
          exact (show Tryz.prog.wantsStandIn 22 = false by kernel_rfl)
        · obtain rfl : 22 = t := by simpa using ht
          exact (show Tryz.prog.wantsStandIn 22 = false by kernel_rfl)
        · obtain rfl : 22 = t := by simpa using ht
          exact (show Tryz.prog.wantsStandIn 22 = false by kernel_rfl)
        · simp at ht⟩)
    (by kernel_rfl)
end Go.Proofs.YtmmnopmccamjcaaGreatDoor
