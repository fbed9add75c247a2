/- Proved: the given statement of 'FnPopCount', and its card. Conditions: those of the given row (the two tables as the program's text lays them); no others. -/
import Derived.Test.YtfoifemajoebpaaDoorLaws
import Derived.Test.YtfoifemajoebpaaDoorDoor
import Derived.Test.YtfoifemajoebpaaDoorTie
import Derived.Test.YtfoifemajoebpaaDoorCards
import Derived.Test.YtfoifemajoebpaaDoorCom
import Derived.LaidOnce
import GoSem.ClaimSeven
import Derived.ChangeAlike
import Derived.SevenTiedAt
namespace Go.Proofs.YtfoifemajoebpaaDoor.RowFnPopCount
open Go Go.ChangeShapes Go.WideShapes Go.ChangeAt Go.RowKit Go.Proofs.YtfoifemajoebpaaDoor.Tab

set_option maxRecDepth 100000

theorem laid_eq : Rows.fnPopCountRow.laid = Door.theLaid := by kernel_rfl

theorem lifted (os : Os) (started : os.Started) (H : Type) (enc : TypeId × Value → H) :
    ReturnsInHanded {} Tryd.checked os 5 .any (fun w args => (Rows.fnPopCountSpec.pre enc Tryd.prog Tryd.f5 [] false w args ∧ laidMetH Tryd.prog Rows.fnPopCountRow.laid w) ∧ sizedMet enc Tryd.prog Tryd.f5 (OpenSpec.ofChange Rows.fnPopCountSpec) false w args)
      (Rows.fnPopCountSpec.post enc Tryd.prog Tryd.f5 false true false false) := by
  refine returnsInHanded_of_change_and (C := Tryd.checked) (X := fun w _ => laidMetH Tryd.prog Rows.fnPopCountRow.laid w) (fun _ _ _ hh h => h.of_heap hh) own started (by kernel_rfl) Tryd.func5
    (ChangeSpec.witness_shaped (enc := enc) (C := Tryd.checked) (os := os) (X := fun w _ => laidMetH Tryd.prog Rows.fnPopCountRow.laid w) false (World.doorLaid Tryd.prog 19 os) #[.int .i64 0, .int .u64 0] 8 rfl (World.shaped_of_RefB (by kernel_rfl) (by kernel_rfl)) (by kernel_rfl) (by kernel_rfl) (by kernel_rfl) (by rw [laid_eq]; exact Door.door_met os _)) ?_
  intro W base args ds gs before hval0 hW _ _ hL _
  have hval : ∀ (j : Nat) t v, Tryd.f5.params[j]? = some t → args[j]? = some v → Value.okWide Tryd.prog W .any base t v := hval0
  have hW' := hW
  obtain ⟨p, q, hA0, hV0, rfl, hfz, hnd⟩ := hW
  have hA : DataW.TrodAll enc Tryd.prog W 0 (fun _ => true) true Tryd.f5.params.toList args.toList ds p := hA0
  have hV : DataW.TrodVars enc Tryd.prog W (fun _ => true) [nLog, nPop] gs q := hV0
  rw [Tryd.params5] at hA hval
  obtain ⟨v0, v1, d0, d1, p0, p1, rfl, rfl, rfl, h0, h1⟩ := trodAll_two hA
  obtain ⟨a, rfl, rfl, rfl, w0⟩ := open_int Tryd.underlying3 (hval 0 3 v0 rfl rfl) h0
  obtain ⟨b, rfl, rfl, rfl, w1⟩ := open_int Tryd.underlying22 (hval 1 22 v1 rfl rfl) h1
  rw [laid_eq] at hL
  unfold Door.theLaid at hL
  have T : Tabs W := of_laid hL
  obtain ⟨g0, t0, cs0, f0, e0, r0, g1, t1, cs1, f1, e1, r1, rfl, hg0, ht0, hv0, hd0, hg1, ht1, hv1, hd1, rfl⟩ := trodVars_two hV
  obtain rfl := Option.some.inj (gLog.symm.trans hg0)
  obtain rfl := Option.some.inj (gPop.symm.trans hg1)
  obtain rfl := Option.some.inj (tLog.symm.trans ht0)
  obtain rfl := Option.some.inj (tPop.symm.trans ht1)
  obtain rfl := Option.some.inj (T.1.symm.trans hv0)
  obtain rfl := Option.some.inj (T.2.symm.trans hv1)
  obtain ⟨rfl, rfl⟩ := DataW.Trod.unique (v := .agg (logs.map fun z => Value.int .i64 z).toArray) ⟨f0, hd0⟩ ⟨3, reads_log enc W _⟩
  obtain ⟨rfl, rfl⟩ := DataW.Trod.unique (v := .agg (pops.map fun z => Value.int .u8 z).toArray) ⟨f1, hd1⟩ ⟨3, reads_pop enc W _⟩
  clear hA0 hV0 hval0
  have hvars : ∀ sp : Nat → Bool, DataW.TrodVars enc Tryd.prog W sp [nLog, nPop] [Lib.tabData .i64 logs, Lib.tabData .u8 pops] (MemPlace.row ⟨0, 0, none⟩ (logs.map fun z => Value.int .i64 z).toArray.size ++ [] ++ (MemPlace.row ⟨1, 0, none⟩ (pops.map fun z => Value.int .u8 z).toArray.size ++ [] ++ [])) := fun sp =>
    ⟨0, 39, _, 3, [], _, gLog, tLog, T.1, reads_log enc W sp, ⟨1, 40, _, 3, [], _, gPop, tPop, T.2, reads_pop enc W sp, rfl, rfl⟩, rfl⟩
  have fin : Rows.fnPopCountSpec.post enc Tryd.prog Tryd.f5 false true false false W #[.int .i64 a, .int .u64 b] (.bool true) W :=
    post_of_same (pa := []) hW' (fun _ _ _ => trodAll_mk1 (shut_bool Tryd.underlying4 true)) (fun sp _ => trodAll_mk2 (shut_int Tryd.underlying3 w0) (shut_int Tryd.underlying22 w1)) (fun sp _ => hvars sp) (by simp only [List.append_nil, List.nil_append])
      (World.keptBut_refl _ _) (fun _ => rfl) (ok_one (by kernel_rfl) rfl (okWide_bool_mk Tryd.underlying4 _))
  obtain ⟨l1, u1⟩ := Go.Com.b_u64 w1
  refine (LawsW.popCount a b l1 u1 W T).mono fun e W' ⟨he, m, hw⟩ => ?_
  subst he; subst hw
  exact ⟨_, rfl, ChangeSpec.post_alike fin (World.drewN_alike W m)⟩

end Go.Proofs.YtfoifemajoebpaaDoor.RowFnPopCount
namespace Go.Proofs.YtfoifemajoebpaaDoor
open Go
set_option maxRecDepth 100000
theorem fnPopCount_row : Rows.FnPopCountSaid :=
  OpenClaim.holds_of_wide 5 Tryd.f5 rfl rfl rfl rfl rfl rfl rfl ⟨rfl, rfl, rfl, rfl, rfl⟩ rfl rfl rfl rfl rfl (by kernel_rfl) Tryd.func5 (by kernel_rfl)
    (of_decide_eq_true (by kernel_rfl)) (by unfold Func.isWrapper; first | (rw [if_pos (by decide +kernel)]; kernel_rfl) | (rw [if_neg (by decide +kernel)]; exact ⟨rfl, rfl⟩))
    (fun os started H enc _ => RowFnPopCount.lifted os started H enc)
theorem fnPopCount_holds : Rows.FnPopCountCardSaid :=
  Claim7.holds_tied_plain_at .later [] [.data, .data] true (true, "72e151b56e0d8ed89e10c6bdb79c13aecc03c53c46063a76b375bac30d8c5118") false
    fnPopCount_row (fun _ h => by cases h) (by kernel_rfl) (fun _ h => by cases h) fnPopCount_row_tie rfl ⟨rfl, rfl⟩ (by kernel_rfl) rfl
    (fun f fn hf hfn => by
      obtain rfl : f = 5 := Option.some.inj ((show Tryd.prog.funcNamed "loop.example/pub-g01479/laws.FnPopCount" = some 5 by kernel_rfl).symm.trans hf) |>.symm
      obtain rfl : fn = Tryd.f5 := (Option.some.inj (Tryd.func5.symm.trans hfn)).symm
      exact ⟨by kernel_rfl, fun j t ht => by
        rw [Tryd.params5] at ht
        rcases j with _ | _ | j
        · obtain rfl : 3 = t := by simpa using ht
          exact (show Tryd.prog.wantsStandIn 3 = false by kernel_rfl)
        · obtain rfl : 22 = t := by simpa using ht
          exact (show Tryd.prog.wantsStandIn 22 = false by kernel_rfl)
        · simp at ht⟩)
    (by kernel_rfl)
end Go.Proofs.YtfoifemajoebpaaDoor

