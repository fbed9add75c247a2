/- The package's product of numbers in memory: Int.mul, Int.Mul. -/
import Derived.Test.YtmmnopmccamjcaaGreatDoorMemE
namespace Go.Proofs.YtmmnopmccamjcaaGreatDoor.MemF
open Go Go.Proofs Go.RowKit Go.Proofs.YtmmnopmccamjcaaGreatDoor.PBig Go.Proofs.YtmmnopmccamjcaaGreatDoorW.PrintWords Go.Proofs.YtmmnopmccamjcaaGreatDoorW.PrintMore Go.Proofs.YtmmnopmccamjcaaGreatDoor.BigW Go.Proofs.YtmmnopmccamjcaaGreatDoor.MemA Go.Proofs.YtmmnopmccamjcaaGreatDoor.MemB Go.Proofs.YtmmnopmccamjcaaGreatDoor.MemC Go.Proofs.YtmmnopmccamjcaaGreatDoor.MemD Go.Proofs.YtmmnopmccamjcaaGreatDoor.MemE
set_option linter.unusedVariables false
set_option linter.unusedSimpArgs false
set_option maxHeartbeats 4000000 in
set_option maxRecDepth 100000 in
theorem imul_sq (p : Nat) (A : Option Addr) (cap : Nat) {n : Int} (h0 : 0 ≤ n) (h1 : n < 18446744073709551616) (w : World) (hN : Num w p A cap n) :
    Calls Tryz.prog 34 #[.pointer (some ⟨p, 0, none⟩), .pointer none, .pointer (some ⟨p, 0, none⟩), .pointer (some ⟨p, 0, none⟩)] w fun e w' => e = .returned (.tuple #[]) ∧ Turned w p A (n * n) w' := by
  obtain ⟨hc0, hc1, _, _⟩ := num_cells hN
  have HN := Aside0.mk hN
  have hq := ptr_same p
  clear hN
  go_enter Tryz.func34, Tryz.ntmps34
  go_wp2
  go_region_with (go_at_call 45; refine (sqr A cap h0 h1 w.drew (show Nt w.drew A cap (Wds n) from HN.out.2)).mono ?_; rintro e w1 ⟨A', cap', rfl, hN', hF', hR'⟩; obtain ⟨hb0, hb1, hz0, hz1, hh⟩ := var_kept HN.out HN.out.2 hR'; have KN := Aside0.mk hN'; have KF := Aside0.mk hF'; have KR := Aside0.mk hR'; have KH := Aside0.mk hh; obtain ⟨_, hs0, hs1, hsz, _⟩ := var_set (s' := .slice A' (Wds (n * n)).length cap') hh; clear hN' hF' hR' hh)
  all_goals go_wp2
  all_goals ((try simp only [Exit.inBlock, Exit.then]); refine bodyPost_ret (results_none rfl _ _ _) rfl ?_)
  all_goals exact ⟨rfl, turned_of KN.out KF.out KR.out KH.out 0⟩
set_option maxHeartbeats 8000000 in
set_option maxRecDepth 100000 in
theorem imul (p q : Nat) (A B : Option Addr) (ca cb : Nat) {a b : Int} (hpq : p ≠ q) (ha : 0 ≤ a ∧ a < 18446744073709551616) (hb : 0 ≤ b ∧ b < 18446744073709551616) (w : World) (hP : Num w p A ca a) (hQ : Num w q B cb b) :
    Calls Tryz.prog 34 #[.pointer (some ⟨p, 0, none⟩), .pointer none, .pointer (some ⟨p, 0, none⟩), .pointer (some ⟨q, 0, none⟩)] w fun e w' => e = .returned (.tuple #[]) ∧ Turned w p A (a * b) w' := by
  obtain ⟨hp0, hp1, _, _⟩ := num_cells hP
  obtain ⟨hq0, hq1, _, _⟩ := num_cells hQ
  have hne := ptr_other hpq hP.1 hQ.1
  have HP := Aside0.mk hP
  have HQ := Aside0.mk hQ
  clear hP hQ
  obtain ⟨L, eL⟩ : ∃ L, (Wds (a * b)).length = L := ⟨_, rfl⟩
  have hL := wds_len3 (a * b)
  rw [eL] at hL
  go_enter Tryz.func34, Tryz.ntmps34
  go_wp2
  go_region_with (go_at_call 46; refine (nmul A B ca cb ha hb w.drew (show Nt w.drew A ca (Wds a) from HP.out.2) (show Nt w.drew B cb (Wds b) from HQ.out.2)).mono ?_; rintro e w1 ⟨A', cap', rfl, hN', hF', hR'⟩; rw [eL]; obtain ⟨hb0, hb1, hz0, hz1, hh⟩ := var_kept HP.out HP.out.2 hR'; obtain ⟨hc0, hc1, _, _, hhq⟩ := var_kept HQ.out HP.out.2 hR'; have KN := Aside0.mk hN'; have KF := Aside0.mk hF'; have KR := Aside0.mk hR'; have KH := Aside0.mk hh; have KQ := Aside0.mk hhq; obtain ⟨_, hs0, hs1, hsz, _⟩ := var_set (s' := .slice A' L cap') hh; clear hN' hF' hR' hh hhq)
  all_goals rcases hL with rfl | rfl | rfl
  all_goals go_wp2
  all_goals go_region
  all_goals go_end0
  all_goals (have T := turned_of KN.out KF.out KR.out KH.out 1; rw [eL] at T; exact ⟨rfl, T⟩)
end Go.Proofs.YtmmnopmccamjcaaGreatDoor.MemF
