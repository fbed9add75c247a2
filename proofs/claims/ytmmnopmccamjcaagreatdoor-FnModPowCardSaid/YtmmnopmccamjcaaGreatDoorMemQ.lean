/- ModPowUint64. -/
import Derived.Test.YtmmnopmccamjcaaGreatDoorMemP
namespace Go.Proofs.YtmmnopmccamjcaaGreatDoor.MemQ
open Go Go.Proofs Go.RowKit Go.Proofs.YtmmnopmccamjcaaGreatDoor.PBig Go.Proofs.YtmmnopmccamjcaaGreatDoorW.PrintWords Go.Proofs.YtmmnopmccamjcaaGreatDoorW.PrintMore Go.Proofs.YtmmnopmccamjcaaGreatDoor.BigW Go.Proofs.YtmmnopmccamjcaaGreatDoor.MemA Go.Proofs.YtmmnopmccamjcaaGreatDoor.MemB Go.Proofs.YtmmnopmccamjcaaGreatDoor.MemC Go.Proofs.YtmmnopmccamjcaaGreatDoor.MemD Go.Proofs.YtmmnopmccamjcaaGreatDoor.MemE Go.Proofs.YtmmnopmccamjcaaGreatDoor.MemG Go.Proofs.YtmmnopmccamjcaaGreatDoor.MemI Go.Proofs.YtmmnopmccamjcaaGreatDoor.MemJ Go.Proofs.YtmmnopmccamjcaaGreatDoor.MemK Go.Proofs.YtmmnopmccamjcaaGreatDoor.MemL Go.Proofs.YtmmnopmccamjcaaGreatDoor.MemM Go.Proofs.YtmmnopmccamjcaaGreatDoor.MemP
set_option linter.unusedVariables false
set_option linter.unusedSimpArgs false
/-- a number that was made since world w -/
structure New (w w' : World) (p : Nat) (A : Option Addr) (cap : Nat) (x : Int) : Prop where
  num : Num w' p A cap x
  hp : w.heap.size ≤ p
  hA : ∀ g, A = some ⟨g, 0, none⟩ → w.heap.size ≤ g
  fr : Fr (fun _ => False) w w'
theorem New.set {w w1 w2 : World} {p : Nat} {A : Option Addr} {cap : Nat} {x y : Int} (h : New w w1 p A cap x) (t : Turned w1 p A y w2) : ∃ A' cap', New w w2 p A' cap' y := by
  obtain ⟨A', cap', hN, hF, hR⟩ := t
  refine ⟨A', cap', hN, h.hp, fun g hg => ?_, ?_⟩
  · rcases hF with rfl | ⟨g', e, hg'⟩
    · exact h.hA g hg
    · rw [e] at hg; cases hg; exact Nat.le_trans h.fr.size hg'
  · refine ⟨hR.os.trans h.fr.os, hR.tape.trans h.fr.tape, hR.output.trans h.fr.output, Nat.le_trans h.fr.size hR.size, fun k hk hs => ?_⟩
    rw [hR.block k (Nat.lt_of_lt_of_le hk h.fr.size) (fun e => ?_)]
    · exact h.fr.block k hk hs
    · rcases e with rfl | e
      · have := h.hp; omega
      · have := h.hA k e; omega
theorem three {w w2 w4 w6 : World} {p1 p2 p3 : Nat} {A1 A2 A3 : Option Addr} {c1 c2 c3 : Nat} {x1 x2 x3 : Int} (k1 : New w w2 p1 A1 c1 x1) (k2 : New w2 w4 p2 A2 c2 x2) (k3 : New w4 w6 p3 A3 c3 x3) :
    w.heap.size ≤ w6.heap.size ∧ Num w6 p1 A1 c1 x1 ∧ Num w6 p2 A2 c2 x2 ∧ p1 ≠ p2 ∧ p1 ≠ p3 ∧ Ap A1 A2 ∧ Ap A1 A3 ∧ Fr (fun _ => False) w w6 := by
  have f := (k1.fr.trans k2.fr).trans k3.fr
  have s2 := k1.fr.size
  have s4 := k2.fr.size
  have l1 := num_lt k1.num
  have h2 := k2.hp
  have h3 := k3.hp
  refine ⟨f.size, Num.keep (Num.keep k1.num k2.fr (fun h => h) (fun _ _ h => h)) k3.fr (fun h => h) (fun _ _ h => h), Num.keep k2.num k3.fr (fun h => h) (fun _ _ h => h), by omega, by omega, fun g a b => ?_, fun g a b => ?_, f⟩
  · have := k1.num.2.lt g a; have := k2.hA g b; omega
  · have := k1.num.2.lt g a; have := k3.hA g b; omega
theorem below_of {w w1 w2 : World} (f : Fr (fun _ => False) w w1) (h : Fr (fun k => w.heap.size ≤ k) w1 w2) : Below w.heap.size w w2 :=
  ⟨h.os.trans f.os, h.tape.trans f.tape, h.output.trans f.output, Nat.le_trans f.size h.size, fun k hk => (h.block k (Nat.lt_of_lt_of_le hk f.size) (by omega)).trans (f.block k hk (fun h => h))⟩
theorem out_lt {a m out : Nat} (h : a % m = out) (hm : 1 ≤ m ∧ m < 18446744073709551616) : out < 18446744073709551616 := by
  have := Nat.mod_lt a (show 0 < m by omega)
  omega
set_option maxHeartbeats 8000000 in
set_option maxRecDepth 100000 in
theorem modPow64 {vb ve vm : Nat} (hvb : vb < 18446744073709551616) (hve : ve < 18446744073709551616) (hvm : 1 ≤ vm ∧ vm < 18446744073709551616) (hbe : ¬ (vb = 0 ∧ ve = 0)) (w : World) :
    Calls Tryz.prog 12 #[.int .u64 vb, .int .u64 ve, .int .u64 vm] w fun e w' => e = .returned (.int .u64 ((vb ^ ve % vm : Nat) : Int)) ∧ Below w.heap.size w w' := by
  obtain ⟨out, eo⟩ : ∃ out : Nat, vb ^ ve % vm = out := ⟨_, rfl⟩
  rw [eo]
  by_cases h1 : vm = 1
  · subst h1
    obtain rfl : out = 0 := by rw [← eo, Nat.mod_one]
    by_cases h0 : vb = 0
    · subst h0
      have he : ((ve : Int) == 0) = false := beq_eq_false_iff_ne.mpr (by omega)
      clear eo hbe
      go_enter Tryz.func12, Tryz.ntmps12
      go_wp2
      go_ret
      exact ⟨rfl, Below.refl _ _⟩
    · have hb : ((vb : Int) == 0) = false := beq_eq_false_iff_ne.mpr (by omega)
      clear eo hbe
      go_enter Tryz.func12, Tryz.ntmps12
      go_wp2
      go_ret
      exact ⟨rfl, Below.refl _ _⟩
  · have hm1 : ((vm : Int) == 1) = false := beq_eq_false_iff_ne.mpr (by omega)
    have hm2 : 2 ≤ vm := by omega
    have VB := Aside0.mk hvb
    have VE := Aside0.mk hve
    have VM := Aside0.mk hvm
    have M2 := Aside0.mk hm2
    have EO := Aside0.mk eo
    have G1 : True := trivial
    have G2 : True := trivial
    have G3 : True := trivial
    have T1 : True := trivial
    have T2 : True := trivial
    have T3 : True := trivial
    have hguard : (((vb : Int) == 0) = false) ∨ (((vb : Int) == 0) = true ∧ ((ve : Int) == 0) = false) := by
      by_cases h0 : vb = 0
      · exact .inr ⟨beq_iff_eq.mpr (by omega), beq_eq_false_iff_ne.mpr (by omega)⟩
      · exact .inl (beq_eq_false_iff_ne.mpr (by omega))
    clear hvb hve hvm hm2 eo h1 hbe
    rcases hguard with hb | ⟨hb0, hb⟩
    all_goals go_enter Tryz.func12, Tryz.ntmps12
    all_goals go_wp2_with (first
      | (go_at_call 15; clear G1; refine (newInt0 _).mono ?_; rintro e' w1 ⟨p1, A1, c1, rfl, h1a, h1b, h1c, h1d⟩; have N1 := Aside0.mk (New.mk h1b h1a h1c h1d); clear h1a h1b h1c h1d)
      | (go_at_call 16; clear T1; refine (setUint64 p1 A1 c1 _ (by omega) (by have := VB.out; omega) _ N1.out.num).mono ?_; rintro e' w2 ⟨rfl, hT⟩; obtain ⟨A1', c1', N1'⟩ := N1.out.set hT; have K1 := Aside0.mk N1'; clear hT N1')
      | (go_at_call 15; clear G2; refine (newInt0 _).mono ?_; rintro e' w3 ⟨p2, A2, c2, rfl, h1a, h1b, h1c, h1d⟩; have N2 := Aside0.mk (New.mk h1b h1a h1c h1d); clear h1a h1b h1c h1d)
      | (go_at_call 16; clear T2; refine (setUint64 p2 A2 c2 _ (by omega) (by have := VE.out; omega) _ N2.out.num).mono ?_; rintro e' w4 ⟨rfl, hT⟩; obtain ⟨A2', c2', N2'⟩ := N2.out.set hT; have K2 := Aside0.mk N2'; clear hT N2')
      | (go_at_call 15; clear G3; refine (newInt0 _).mono ?_; rintro e' w5 ⟨p3, A3, c3, rfl, h1a, h1b, h1c, h1d⟩; have N3 := Aside0.mk (New.mk h1b h1a h1c h1d); clear h1a h1b h1c h1d)
      | (go_at_call 16; clear T3; refine (setUint64 p3 A3 c3 _ (by omega) (by have := VM.out; omega) _ N3.out.num).mono ?_; rintro e' w6 ⟨rfl, hT⟩; obtain ⟨A3', c3', N3'⟩ := N3.out.set hT; have K3 := Aside0.mk N3'; clear hT N3')
      | (go_at_call 14; have H := three K1.out K2.out K3.out; refine (modPow w.heap.size p1 p2 p3 A1' A2' A3' c1' c2' c3' VB.out VE.out ⟨M2.out, VM.out.2⟩ _ H.1 H.2.1 H.2.2.1 K3.out.num H.2.2.2.1 H.2.2.2.2.1 H.2.2.2.2.2.1 H.2.2.2.2.2.2.1 K1.out.hp K1.out.hA).mono ?_; rintro e' w7 ⟨r, R, cr, rfl, hN, hF⟩; rw [EO.out] at hN; have KR := Aside0.mk hN; have KF := Aside0.mk (below_of H.2.2.2.2.2.2.2 hF); clear hN hF H)
      | (go_at_call 17; refine (uint64 r R cr (by omega) (by have := out_lt EO.out VM.out; omega) _ KR.out).mono ?_; rintro e' w8 ⟨rfl, m8, rfl⟩))
    all_goals go_ret
    all_goals exact ⟨rfl, KF.out.os, KF.out.tape, KF.out.output, KF.out.size, KF.out.block⟩
end Go.Proofs.YtmmnopmccamjcaaGreatDoor.MemQ
