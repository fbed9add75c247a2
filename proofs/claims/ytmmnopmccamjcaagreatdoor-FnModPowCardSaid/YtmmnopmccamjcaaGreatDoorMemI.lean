/- QuoRem, where the quotient's variable is a new one and the remainder's variable is the dividend's. -/
import Derived.Test.YtmmnopmccamjcaaGreatDoorMemH
namespace Go.Proofs.YtmmnopmccamjcaaGreatDoor.MemI
open Go Go.Proofs Go.RowKit Go.Proofs.YtmmnopmccamjcaaGreatDoor.PBig Go.Proofs.YtmmnopmccamjcaaGreatDoorW.PrintWords Go.Proofs.YtmmnopmccamjcaaGreatDoorW.PrintMore Go.Proofs.YtmmnopmccamjcaaGreatDoor.BigW Go.Proofs.YtmmnopmccamjcaaGreatDoor.MemA Go.Proofs.YtmmnopmccamjcaaGreatDoor.MemB Go.Proofs.YtmmnopmccamjcaaGreatDoor.MemC Go.Proofs.YtmmnopmccamjcaaGreatDoor.MemD Go.Proofs.YtmmnopmccamjcaaGreatDoor.MemE Go.Proofs.YtmmnopmccamjcaaGreatDoor.MemG Go.Proofs.YtmmnopmccamjcaaGreatDoor.MemH
set_option linter.unusedVariables false
set_option linter.unusedSimpArgs false
/-- the second variable of an Int -/
def Var (w : World) (b : Nat) (s : Value) : Prop := w.heap[b]? = some (.cells #[.bool false, s] 48 (0, 0))
theorem Var.cells {w : World} {b : Nat} {s : Value} (h : Var w b s) : w.cell? ⟨b, 0, none⟩ = some (.bool false) ∧ w.cell? ⟨b, 1, none⟩ = some s ∧ w.frozen? ⟨b, 0, none⟩ = false ∧ w.frozen? ⟨b, 1, none⟩ = false := by
  have h : w.heap[b]? = some (.cells #[.bool false, s] 48 (0, 0)) := h
  exact ⟨by simp [World.cell?, h], by simp [World.cell?, h], by simp [World.frozen?, h], by simp [World.frozen?, h]⟩
theorem Var.set {w : World} {b : Nat} {s : Value} (h : Var w b s) (s' : Value) : Var (w.setCell ⟨b, 1, none⟩ s') b s' := by
  have h : w.heap[b]? = some (.cells #[.bool false, s] 48 (0, 0)) := h
  show (World.heap _)[b]? = _
  rw [row_set h]; rfl
theorem Var.set0 {w : World} {b : Nat} {s : Value} (h : Var w b s) : Var (w.setCell ⟨b, 0, none⟩ (.bool false)) b s := by
  have h : w.heap[b]? = some (.cells #[.bool false, s] 48 (0, 0)) := h
  show (World.heap _)[b]? = _
  rw [row_set h]; rfl
theorem Var.other {w : World} {b p : Nat} {s : Value} (h : Var w b s) (hne : b ≠ p) (i : Nat) (v : Value) : Var (w.setCell ⟨p, i, none⟩ v) b s := (Below.heap_setCell w ⟨p, i, none⟩ v b hne).trans h
theorem Var.keep {S : Nat → Prop} {w w' : World} {b : Nat} {s : Value} (h : Var w b s) (hf : Fr S w w') (hS : ¬ S b) : Var w' b s := by
  have hl : b < w.heap.size := by
    rcases Nat.lt_or_ge b w.heap.size with hh | hh
    · exact hh
    · have h : w.heap[b]? = some (.cells #[.bool false, s] 48 (0, 0)) := h
      rw [Array.getElem?_eq_none hh] at h; cases h
  exact (hf.block b hl hS).trans h
theorem Nt.not_var {w : World} {b : Nat} {s : Value} {B : Option Addr} {cb : Nat} {ws : List Int} (h : Var w b s) (hB : Nt w B cb ws) : ¬ (B = some ⟨b, 0, none⟩) := by
  rintro rfl
  rcases hB with ⟨h', _⟩ | ⟨g, e, ⟨cur, h2, _⟩, _⟩
  · cases h'
  · cases e
    have h : w.heap[b]? = some (.cells #[.bool false, s] 48 (0, 0)) := h
    rw [h] at h2
    cases h2
/-- what QuoRem leaves -/
def Turn2 (w : World) (b p : Nat) (A : Option Addr) (r : Int) (w' : World) : Prop := ∃ A' cap', Num w' p A' cap' r ∧ From w A A' ∧ Fr (fun k => k = p ∨ k = b ∨ A = some ⟨k, 0, none⟩) w w'
/-- behind the first region -/
def Mid (w : World) (b p q : Nat) (A B : Option Addr) (cb : Nat) (y r : Int) (Q : Option Addr) (lq cq : Nat) (A' : Option Addr) (cap' : Nat) (w' : World) : Prop :=
  (lq = 0 ∨ lq = 1 ∨ lq = 2) ∧ From w A A' ∧ Nt w' A' cap' (Wds r) ∧ Fr (fun k => k = p ∨ k = b ∨ A = some ⟨k, 0, none⟩) w w' ∧ Var w' b (.slice Q lq cq) ∧ Var w' p (.slice A' (Wds r).length cap') ∧ Var w' q (.slice B (Wds y).length cb)
theorem mid_of {w w1 w' : World} {b p q : Nat} {A B : Option Addr} {cb : Nat} {y r : Int} {Q : Option Addr} {lq cq : Nat} {A' : Option Addr} {cap' : Nat} {s1 s2 : Value} (hlq : lq = 0 ∨ lq = 1 ∨ lq = 2) (KN : Nt w1 A' cap' (Wds r)) (KF : From w.drew A A') (KR : Fr (fun k => A = some ⟨k, 0, none⟩) w.drew w1) (hb : Var w1 b s1) (hp : Var w1 p s2) (hq : Var w1 q (.slice B (Wds y).length cb)) (hbp : b ≠ p) (hbq : b ≠ q) (hpq : p ≠ q)
    (h : w' = (w1.setCell ⟨b, 1, none⟩ (.slice Q lq cq)).setCell ⟨p, 1, none⟩ (.slice A' (Wds r).length cap')) : Mid w b p q A B cb y r Q lq cq A' cap' w' := by
  have f : Fr (fun k => k = p ∨ k = b) w1 w' := by
    subst h
    exact (Fr.set w1 _ _ (S := fun k => k = p ∨ k = b) (.inr rfl)).trans (Fr.set _ _ _ (.inl rfl))
  refine ⟨hlq, KF, KN.keep f (fun g hg e => ?_), ?_, ?_, ?_, ?_⟩
  · rcases e with rfl | rfl
    · exact Nt.not_var hp KN hg
    · exact Nt.not_var hb KN hg
  · have KR : Fr (fun k => A = some ⟨k, 0, none⟩) w w1 := ⟨KR.os, KR.tape, KR.output, KR.size, KR.block⟩
    exact (KR.mono (S' := fun k => k = p ∨ k = b ∨ A = some ⟨k, 0, none⟩) (fun k _ h => .inr (.inr h))).trans (f.mono (fun k _ h => h.elim .inl (fun h => .inr (.inl h))))
  · subst h; exact (hb.set _).other hbp _ _
  · subst h; exact (hp.other hbp.symm _ _).set _
  · subst h; exact (hq.other hbq.symm _ _).other hpq.symm _ _
theorem turn2_of {w w1 w' : World} {b p q : Nat} {A B : Option Addr} {cb : Nat} {y r : Int} {Q : Option Addr} {lq cq : Nat} {A' : Option Addr} {cap' : Nat} (M : Mid w b p q A B cb y r Q lq cq A' cap' w1) (hbp : b ≠ p) (m : Nat) (h : w' = ((w1.setCell ⟨b, 0, none⟩ (.bool false)).setCell ⟨p, 0, none⟩ (.bool false)).drewN m) : Turn2 w b p A r w' := by
  obtain ⟨_, KF, KN, KR, hb, hp, _⟩ := M
  have f : Fr (fun k => k = p ∨ k = b) w1 w' := by
    subst h
    exact ((Fr.set w1 _ _ (S := fun k => k = p ∨ k = b) (.inr rfl)).trans (Fr.set _ _ _ (.inl rfl))).drewN m
  refine ⟨A', cap', ⟨?_, KN.keep f (fun g hg e => ?_)⟩, KF, KR.trans (f.mono (fun k _ h => h.elim .inl (fun h => .inr (.inl h))))⟩
  · subst h; exact (hp.other hbp.symm _ _).set0
  · rcases e with rfl | rfl
    · exact Nt.not_var hp KN hg
    · exact Nt.not_var hb KN hg
set_option maxHeartbeats 40000000 in
set_option maxRecDepth 100000 in
theorem quoRem (b p q : Nat) (hbp : b ≠ p) (hbq : b ≠ q) (hpq : p ≠ q) (A B : Option Addr) (ca cb : Nat) {n y r : Int} (w : World) (hb : Var w b (.slice none 0 0)) (hA : Num w p A ca n) (hB : Num w q B cb y) (hAB : ∀ g, A = some ⟨g, 0, none⟩ → ¬ B = some ⟨g, 0, none⟩)
    (hd : Calls Tryz.prog 42 #[.slice none 0 0, .pointer none, .slice A (Wds n).length ca, .slice A (Wds n).length ca, .slice B (Wds y).length cb] w.drew fun e w' => Divd w.drew A r e w') :
    Calls Tryz.prog 31 #[.pointer (some ⟨b, 0, none⟩), .pointer (some ⟨p, 0, none⟩), .pointer (some ⟨q, 0, none⟩), .pointer (some ⟨p, 0, none⟩)] w fun e w' => e = .returned (.tuple #[.pointer (some ⟨b, 0, none⟩), .pointer (some ⟨p, 0, none⟩)]) ∧ Turn2 w b p A r w' := by
  have hb1 := hb.cells.2.1
  have hp1 := (show Var w p _ from hA.1).cells.2.1
  have hq1 := (show Var w q _ from hB.1).cells.2.1
  have VB := Aside0.mk (show Var w.drew b _ from hb)
  have VP := Aside0.mk (show Var w.drew p _ from hA.1)
  have VQ := Aside0.mk (show Var w.drew q _ from hB.1)
  have RB := Aside0.mk (Nt.not_var hb hA.2)
  have RP := Aside0.mk (Nt.not_var (show Var w p _ from hA.1) hA.2)
  have RQ := Aside0.mk (Nt.not_var (show Var w q _ from hB.1) hA.2)
  have HBP := Aside0.mk hbp
  have HBQ := Aside0.mk hbq
  have HPQ := Aside0.mk hpq
  clear hb hA hB hAB hbp hbq hpq
  go_enter Tryz.func31, Tryz.ntmps31
  go_wp2
  refine Code.wp_mono (Q := fun e a' w' => match e with | .normal => ∃ (Q : Option Addr) (lq cq : Nat) (A' : Option Addr) (cap' : Nat), a' = ⟨List.toArray (Value.pointer (some ⟨b, 0, none⟩) :: Value.pointer (some ⟨p, 0, none⟩) :: Value.pointer (some ⟨q, 0, none⟩) :: Value.pointer (some ⟨p, 0, none⟩) :: undef :: undef :: undef :: undef :: Value.pointer none :: Value.pointer none :: Value.tuple #[.slice Q lq cq, .slice A' (Wds r).length cap'] :: Value.pointer (some ⟨b, 0, none⟩) :: Value.pointer (some ⟨p, 0, none⟩) :: Value.pointer (some ⟨b, 0, none⟩) :: Value.pointer (some ⟨b, 0, none⟩) :: Value.pointer (some ⟨b, 1, none⟩) :: Value.slice none 0 0 :: Value.pointer (some ⟨p, 0, none⟩) :: Value.pointer (some ⟨p, 0, none⟩) :: Value.pointer (some ⟨p, 1, none⟩) :: Value.slice A (Wds n).length ca :: Value.pointer (some ⟨p, 0, none⟩) :: Value.pointer (some ⟨p, 0, none⟩) :: Value.pointer (some ⟨p, 1, none⟩) :: Value.slice A (Wds n).length ca :: Value.pointer (some ⟨q, 0, none⟩) :: Value.pointer (some ⟨q, 0, none⟩) :: Value.pointer (some ⟨q, 1, none⟩) :: Value.slice B (Wds y).length cb :: Value.tuple #[.slice Q lq cq, .slice A' (Wds r).length cap'] :: Value.slice Q lq cq :: Value.slice A' (Wds r).length cap' :: Value.pointer (some ⟨b, 0, none⟩) :: Value.pointer (some ⟨b, 1, none⟩) :: Value.pointer (some ⟨p, 0, none⟩) :: Value.pointer (some ⟨p, 1, none⟩) :: undef :: undef :: undef :: undef :: undef :: undef :: undef :: undef :: undef :: undef :: undef :: undef :: undef :: undef :: undef :: undef :: undef :: undef :: undef :: undef :: undef :: undef :: undef :: undef :: undef :: undef :: undef :: undef :: undef :: undef :: undef :: undef :: undef :: undef :: undef :: undef :: undef :: []), []⟩ ∧ Mid w b p q A B cb y r Q lq cq A' cap' w' | _ => False) ?cont ?reg
  case reg =>
    rename_i x1 x2 x3
    clear x1 x2 x3
    go_region_with (go_at_call 42; refine hd.mono ?_; rintro e w1 ⟨Q, lq, cq, A', cap', rfl, hlq, hN, hF, hR⟩; have v1 := VB.out.keep hR RB.out; have v2 := VP.out.keep hR RP.out; have v3 := VQ.out.keep hR RQ.out; have k1 := v1.cells.2.1; have k2 := v1.cells.2.2.2; have k5 := (v2.other HBP.out.symm 1 (.slice Q lq cq)).cells.2.1; have k6 := (v2.other HBP.out.symm 1 (.slice Q lq cq)).cells.2.2.2; have KL := Aside0.mk hlq; have KN := Aside0.mk hN; have KF := Aside0.mk hF; have KR := Aside0.mk hR; have V1 := Aside0.mk v1; have V2 := Aside0.mk v2; have V3 := Aside0.mk v3; clear hlq hN hF hR v1 v2 v3)
    all_goals exact ⟨Q, lq, cq, A', cap', rfl, mid_of KL.out KN.out KF.out KR.out V1.out V2.out V3.out HBP.out HBQ.out HPQ.out rfl⟩
  case cont =>
    intro e a' w1 h
    cases e with
    | normal =>
      obtain ⟨Q, lq, cq, A', cap', rfl, M⟩ := h
      have KM := Aside0.mk M
      obtain ⟨hl, _, _, _, v1, v2, v3⟩ := M
      obtain ⟨b0, b1, zb, _⟩ := v1.cells
      obtain ⟨p0, p1, zp, _⟩ := v2.cells
      obtain ⟨q0, _, _, _⟩ := v3.cells
      obtain ⟨t1, _, t2, _⟩ := (v2.other HBP.out.symm 0 (.bool false)).cells
      have hL := wds_len3 r
      obtain ⟨L, eL⟩ : ∃ L, (Wds r).length = L := ⟨_, rfl⟩
      rw [eL] at hL p1 ⊢
      clear v1 v2 v3 hd
      rcases hl with rfl | rfl | rfl <;> rcases hL with rfl | rfl | rfl
      all_goals go_wp2
      all_goals go_region
      all_goals go_wp2
      all_goals go_ret2
      all_goals exact ⟨rfl, turn2_of KM.out HBP.out 1 rfl⟩
    | _ => exact h.elim
end Go.Proofs.YtmmnopmccamjcaaGreatDoor.MemI
