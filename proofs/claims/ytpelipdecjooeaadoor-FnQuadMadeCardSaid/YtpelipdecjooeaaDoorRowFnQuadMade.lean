/- Proved: the given statement of 'FnQuadMade', and its card. Conditions: those of the given row (the table as the program's text lays it); no others. -/
import Derived.Test.YtpelipdecjooeaaDoorQmN
import Derived.Test.YtpelipdecjooeaaDoorDoor
import Derived.Test.YtpelipdecjooeaaDoorTie
import Derived.Test.YtpelipdecjooeaaDoorCards
import Derived.Test.YtpelipdecjooeaaDoorCom
import Derived.LaidOnce
import GoSem.ClaimSeven
import Derived.ChangeAlike
import Derived.SevenTiedAt
namespace Go.Proofs.YtpelipdecjooeaaDoor.RowFnQuadMade
open Go Go.ChangeShapes Go.WideShapes Go.ChangeAt Go.RowKit Go.Proofs.YtpelipdecjooeaaDoor.Tab

set_option maxRecDepth 100000

theorem laid_eq : Rows.fnQuadMadeRow.laid = Door.theLaid := by kernel_rfl

theorem lifted (os : Os) (started : os.Started) (H : Type) (enc : TypeId × Value → H) :
    ReturnsInHanded {} Tryd.checked os 5 .any (fun w args => (Rows.fnQuadMadeSpec.pre enc Tryd.prog Tryd.f5 [] false w args ∧ laidMetH Tryd.prog Rows.fnQuadMadeRow.laid w) ∧ sizedMet enc Tryd.prog Tryd.f5 (OpenSpec.ofChange Rows.fnQuadMadeSpec) false w args)
      (Rows.fnQuadMadeSpec.post enc Tryd.prog Tryd.f5 false true false false) := by
  refine returnsInHanded_of_change_and (C := Tryd.checked) (X := fun w _ => laidMetH Tryd.prog Rows.fnQuadMadeRow.laid w) (fun _ _ _ hh h => h.of_heap hh) own started (by kernel_rfl) Tryd.func5
    (ChangeSpec.witness_shaped (enc := enc) (C := Tryd.checked) (os := os) (X := fun w _ => laidMetH Tryd.prog Rows.fnQuadMadeRow.laid w) false (World.doorLaid Tryd.prog 14 os) #[.int .i64 0, .int .i64 0, .int .i64 0, .int .i64 0, .int .i64 0] 8 rfl (World.shaped_of_RefB (by kernel_rfl) (by kernel_rfl)) (by kernel_rfl) (by kernel_rfl) (by kernel_rfl) (by rw [laid_eq]; exact Door.door_met os _)) ?_
  intro W base args ds gs before hval0 hW _ _ hL _
  have hval : ∀ (j : Nat) t v, Tryd.f5.params[j]? = some t → args[j]? = some v → Value.okWide Tryd.prog W .any base t v := hval0
  have hW' := hW
  obtain ⟨p, q, hA0, hV0, rfl, hfz, hnd⟩ := hW
  have hA : DataW.TrodAll enc Tryd.prog W 0 (fun _ => true) true Tryd.f5.params.toList args.toList ds p := hA0
  have hV : DataW.TrodVars enc Tryd.prog W (fun _ => true) [nLog] gs q := hV0
  rw [Tryd.params5] at hA hval
  obtain ⟨v0, vs0, d0, ds0, p0, q0, hargs, rfl, rfl, h0, r0⟩ := trodAll_cons hA
  obtain ⟨v1, vs1, d1, ds1, p1, q1, rfl, rfl, rfl, h1, r1⟩ := trodAll_cons r0
  obtain ⟨v2, vs2, d2, ds2, p2, q2, rfl, rfl, rfl, h2, r2⟩ := trodAll_cons r1
  obtain ⟨v3, vs3, d3, ds3, p3, q3, rfl, rfl, rfl, h3, r3⟩ := trodAll_cons r2
  obtain ⟨v4, vs4, d4, ds4, p4, q4, rfl, rfl, rfl, h4, r4⟩ := trodAll_cons r3
  obtain ⟨rfl, rfl, rfl⟩ := trodAll_nil r4
  obtain rfl : args = #[v0, v1, v2, v3, v4] := by cases args; simp_all
  obtain ⟨a, rfl, rfl, rfl, w0⟩ := open_int Tryd.underlying3 (hval 0 3 v0 rfl rfl) h0
  obtain ⟨b, rfl, rfl, rfl, w1⟩ := open_int Tryd.underlying3 (hval 1 3 v1 rfl rfl) h1
  obtain ⟨c, rfl, rfl, rfl, w2⟩ := open_int Tryd.underlying3 (hval 2 3 v2 rfl rfl) h2
  obtain ⟨d, rfl, rfl, rfl, w3⟩ := open_int Tryd.underlying3 (hval 3 3 v3 rfl rfl) h3
  obtain ⟨e, rfl, rfl, rfl, w4⟩ := open_int Tryd.underlying3 (hval 4 3 v4 rfl rfl) h4
  rw [laid_eq] at hL
  unfold Door.theLaid at hL
  have T : Tabs W := of_laid hL
  obtain ⟨g0, t0, cs0, f0, e0, r0, rfl, hg0, ht0, hv0, hd0, rfl⟩ := trodVars_one hV
  obtain rfl := Option.some.inj (gLog.symm.trans hg0)
  obtain rfl := Option.some.inj (tLog.symm.trans ht0)
  obtain rfl := Option.some.inj (Eq.trans (Eq.symm T) hv0)
  obtain ⟨rfl, rfl⟩ := DataW.Trod.unique (v := .agg (logs.map fun z => Value.int .i64 z).toArray) ⟨f0, hd0⟩ ⟨3, reads_log enc W _⟩
  clear hA0 hV0 hval0
  refine (PFnQuadMade.laws_FnQuadMade.walk QmN.FnQuadMade a b c d e W ⟨T⟩ w0 w1 w2 w3 w4).mono fun e W' ⟨he, bel⟩ => ?_
  subst he
  have T' : Tabs W' := QpdC.tabs_below ⟨T⟩ bel
  have hvars : ∀ sp : Nat → Bool, DataW.TrodVars enc Tryd.prog W' sp [nLog] [Lib.tabData .i64 logs] (MemPlace.row ⟨0, 0, none⟩ (logs.map fun z => Value.int .i64 z).toArray.size ++ [] ++ []) := fun sp =>
    ⟨0, 51, _, 3, [], _, gLog, tLog, T', reads_log enc W' sp, rfl, rfl⟩
  exact ⟨_, rfl, _, _, _, [], _, _, hW', trodAll_mk1 (shut_bool Tryd.underlying4 _), (trodAll_cons_mk (shut_int Tryd.underlying3 w0) (trodAll_cons_mk (shut_int Tryd.underlying3 w1) (trodAll_cons_mk (shut_int Tryd.underlying3 w2) (trodAll_cons_mk (shut_int Tryd.underlying3 w3) (trodAll_cons_mk (shut_int Tryd.underlying3 w4) trodAll_mk0))))), hvars _, bel.frame _, fun h => by cases h⟩

end Go.Proofs.YtpelipdecjooeaaDoor.RowFnQuadMade
namespace Go.Proofs.YtpelipdecjooeaaDoor
open Go
set_option maxRecDepth 100000
theorem fnQuadMade_row : Rows.FnQuadMadeSaid :=
  OpenClaim.holds_of_wide 5 Tryd.f5 rfl rfl rfl rfl rfl rfl rfl ⟨rfl, rfl, rfl, rfl, rfl⟩ rfl rfl rfl rfl rfl (by kernel_rfl) Tryd.func5 (by kernel_rfl)
    (of_decide_eq_true (by kernel_rfl)) (by unfold Func.isWrapper; first | (rw [if_pos (by decide +kernel)]; kernel_rfl) | (rw [if_neg (by decide +kernel)]; exact ⟨rfl, rfl⟩))
    (fun os started H enc _ => RowFnQuadMade.lifted os started H enc)
theorem fnQuadMade_holds : Rows.FnQuadMadeCardSaid :=
  Claim7.holds_tied_plain_at .later [] [.data] true (true, "400332dbed49300a73d4dc7fd8fcd4cb175f9155342e71f66bccf65ff26bbfd8") false
    fnQuadMade_row (fun _ h => by cases h) (by kernel_rfl) (fun _ h => by cases h) fnQuadMade_row_tie rfl ⟨rfl, rfl⟩ (by kernel_rfl) rfl
    (fun f fn hf hfn => by
      obtain rfl : f = 5 := Option.some.inj ((show Tryd.prog.funcNamed "loop.example/pub-g01479/laws.FnQuadMade" = some 5 by kernel_rfl).symm.trans hf) |>.symm
      obtain rfl : fn = Tryd.f5 := (Option.some.inj (Tryd.func5.symm.trans hfn)).symm
      exact ⟨by kernel_rfl, fun j t ht => by
        rw [Tryd.params5] at ht
        rcases j with _ | _ | _ | _ | _ | j
        · obtain rfl : 3 = t := by simpa using ht
          exact (show Tryd.prog.wantsStandIn 3 = false by kernel_rfl)
        · obtain rfl : 3 = t := by simpa using ht
          exact (show Tryd.prog.wantsStandIn 3 = false by kernel_rfl)
        · obtain rfl : 3 = t := by simpa using ht
          exact (show Tryd.prog.wantsStandIn 3 = false by kernel_rfl)
        · obtain rfl : 3 = t := by simpa using ht
          exact (show Tryd.prog.wantsStandIn 3 = false by kernel_rfl)
        · obtain rfl : 3 = t := by simpa using ht
          exact (show Tryd.prog.wantsStandIn 3 = false by kernel_rfl)
        · simp at ht⟩)
    (by kernel_rfl)
end Go.Proofs.YtpelipdecjooeaaDoor
