/- Numbers in memory that are set and made: SetUint64, NewInt. -/
import Derived.Test.YtmmnopmccamjcaaGreatDoorMemL
namespace Go.Proofs.YtmmnopmccamjcaaGreatDoor.MemM
open Go Go.Proofs Go.RowKit Go.Proofs.YtmmnopmccamjcaaGreatDoor.PBig Go.Proofs.YtmmnopmccamjcaaGreatDoorW.PrintWords Go.Proofs.YtmmnopmccamjcaaGreatDoorW.PrintMore Go.Proofs.YtmmnopmccamjcaaGreatDoor.BigW Go.Proofs.YtmmnopmccamjcaaGreatDoor.MemA Go.Proofs.YtmmnopmccamjcaaGreatDoor.MemB Go.Proofs.YtmmnopmccamjcaaGreatDoor.MemC Go.Proofs.YtmmnopmccamjcaaGreatDoor.MemD Go.Proofs.YtmmnopmccamjcaaGreatDoor.MemE Go.Proofs.YtmmnopmccamjcaaGreatDoor.MemJ Go.Proofs.YtmmnopmccamjcaaGreatDoor.MemL
set_option linter.unusedVariables false
set_option linter.unusedSimpArgs false
set_option maxHeartbeats 4000000 in
theorem setU (A : Option Addr) (len cap : Nat) (ws : List Int) (hl : len ≤ cap) (x : Int) (h0 : 0 ≤ x) (hx : x < 18446744073709551616) (w : World) (h : Nt w A cap ws) :
    Calls Tryz.prog 23 #[.slice A len cap, .int .u64 x] w fun e w' => Out w A x e w' := by
  have h33 := setWord A len cap ws hl x h0 hx w h
  clear h
  go_enter Tryz.func23, Tryz.ntmps23
  go_wp2_with (go_at_call 35; refine h33.mono ?_; rintro e w1 ⟨A', cap', rfl, hN, hF, hR⟩; have KN := Aside0.mk hN; have KF := Aside0.mk hF; have KR := Aside0.mk hR; clear hN hF hR)
  go_ret
  exact ⟨A', cap', rfl, KN.out, KF.out, KR.out⟩
set_option maxHeartbeats 4000000 in
theorem setUint64 (p : Nat) (A : Option Addr) (cap : Nat) {n : Int} (x : Int) (h0 : 0 ≤ x) (hx : x < 18446744073709551616) (w : World) (hN : Num w p A cap n) :
    Calls Tryz.prog 16 #[.pointer (some ⟨p, 0, none⟩), .int .u64 x] w fun e w' => e = .returned (.pointer (some ⟨p, 0, none⟩)) ∧ Turned w p A x w' := by
  obtain ⟨hc0, hc1, _, _⟩ := num_cells hN
  have h23 := setU A _ cap (Wds n) hN.2.len.1 x h0 hx w hN.2
  have HN := Aside0.mk hN
  clear hN
  go_enter Tryz.func16, Tryz.ntmps16
  go_wp2_with (go_at_call 23; refine h23.mono ?_; rintro e w1 ⟨A', cap', rfl, hN', hF', hR'⟩; obtain ⟨hb0, hb1, hz0, hz1, hh⟩ := var_kept HN.out HN.out.2 (⟨hR'.os, hR'.tape, hR'.output, hR'.size, hR'.block⟩ : Fr (fun k => A = some ⟨k, 0, none⟩) w.drew w1); have KN := Aside0.mk hN'; have KF := Aside0.mk hF'; have KR := Aside0.mk hR'; have KH := Aside0.mk hh; obtain ⟨_, hs0, hs1, hsz, _⟩ := var_set (s' := .slice A' (Wds x).length cap') hh; clear hN' hF' hR' hh)
  go_ret
  exact ⟨rfl, turned_of KN.out KF.out ⟨KR.out.os, KR.out.tape, KR.out.output, KR.out.size, KR.out.block⟩ KH.out 0⟩
/-- a number that is new -/
def Made (w : World) (x : Int) (e : Ending) (w' : World) : Prop := ∃ p A cap, e = .returned (.pointer (some ⟨p, 0, none⟩)) ∧ w.heap.size ≤ p ∧ Num w' p A cap x ∧ (∀ g, A = some ⟨g, 0, none⟩ → w.heap.size ≤ g) ∧ Fr (fun _ => False) w w'
set_option maxHeartbeats 4000000 in
theorem newInt0 (w : World) : Calls Tryz.prog 15 #[.int .i64 0] w fun e w' => Made w 0 e w' := by
  go_enter Tryz.func15, Tryz.ntmps15
  go_wp2
  go_ret
  exact ⟨w.heap.size, none, 0, rfl, Nat.le_refl _, ⟨Array.getElem?_push_size .., .inl ⟨rfl, rfl, rfl⟩⟩, (fun g h => by cases h), Fr.alloc w _ _⟩
set_option maxHeartbeats 4000000 in
theorem newInt1 (w : World) : Calls Tryz.prog 15 #[.int .i64 1] w fun e w' => Made w 1 e w' := by
  go_enter Tryz.func15, Tryz.ntmps15
  go_wp2
  go_ret
  have e1 : Wds 1 = [1] := rfl
  refine ⟨w.heap.size + 1, some ⟨w.heap.size, 0, none⟩, 1, rfl, by omega, ⟨?_, .inr ⟨w.heap.size, rfl, ⟨#[.int .u64 1], ?_, rfl, Nat.le_refl _, fun i hi => ?_⟩, by omega⟩⟩, fun g h => ?_, (Fr.alloc w _ _).trans (Fr.alloc _ _ _)⟩
  · have h := Array.getElem?_push_size (xs := w.heap.push (Obj.cells #[Value.int IntKind.u64 1] 45 (0, 0))) (x := Obj.cells #[Value.bool false, Value.slice (some ⟨w.heap.size, 0, none⟩) (Wds 1).length 1] 48 (0, 0))
    rw [Array.size_push] at h
    exact h
  · show ((w.heap.push _).push _)[w.heap.size]? = _
    simp [Array.getElem?_push]
  · have : i = 0 := by simpa [e1] using hi
    subst this
    rfl
  · cases h; omega
end Go.Proofs.YtmmnopmccamjcaaGreatDoor.MemM
