/- Mod, at a divisor of one word. -/
import Derived.Test.YtmmnopmccamjcaaGreatDoorMemI
import Derived.Test.YtmmnopmccamjcaaGreatDoorMemJ
namespace Go.Proofs.YtmmnopmccamjcaaGreatDoor.MemK
open Go Go.Proofs Go.RowKit Go.Proofs.YtmmnopmccamjcaaGreatDoor.PBig Go.Proofs.YtmmnopmccamjcaaGreatDoorW.PrintWords Go.Proofs.YtmmnopmccamjcaaGreatDoorW.PrintMore Go.Proofs.YtmmnopmccamjcaaGreatDoor.BigW Go.Proofs.YtmmnopmccamjcaaGreatDoor.MemA Go.Proofs.YtmmnopmccamjcaaGreatDoor.MemB Go.Proofs.YtmmnopmccamjcaaGreatDoor.MemC Go.Proofs.YtmmnopmccamjcaaGreatDoor.MemD Go.Proofs.YtmmnopmccamjcaaGreatDoor.MemE Go.Proofs.YtmmnopmccamjcaaGreatDoor.MemF Go.Proofs.YtmmnopmccamjcaaGreatDoor.MemG Go.Proofs.YtmmnopmccamjcaaGreatDoor.MemH Go.Proofs.YtmmnopmccamjcaaGreatDoor.MemI Go.Proofs.YtmmnopmccamjcaaGreatDoor.MemJ
set_option linter.unusedVariables false
set_option linter.unusedSimpArgs false
theorem Num.keep {S : Nat → Prop} {w w' : World} {p : Nat} {A : Option Addr} {cap : Nat} {n : Int} (h : Num w p A cap n) (hf : Fr S w w') (hp : ¬ S p) (hA : ∀ g, A = some ⟨g, 0, none⟩ → ¬ S g) : Num w' p A cap n :=
  ⟨(show Var w p _ from h.1).keep hf hp, h.2.keep hf hA⟩
/-- QuoRem's turning, seen from the world in which its quotient's variable was not yet there -/
theorem turned_from {w w1 w' : World} {b p : Nat} {A : Option Addr} {r : Int} (hf : Fr (fun _ => False) w w1) (hb : w.heap.size ≤ b) (h : Turn2 w1 b p A r w') : Turned w p A r w' := by
  obtain ⟨A', cap', h1, h2, h3⟩ := h
  refine ⟨A', cap', h1, From.trans (.inl rfl) h2 hf.size, (hf.mono (fun _ _ h => h.elim)).trans ?_ |>.mono (S := fun k => k = p ∨ k = b ∨ A = some ⟨k, 0, none⟩) (fun k hk h => ?_)⟩
  · exact h3
  · rcases h with h | h | h
    · exact .inl h
    · omega
    · exact .inr h
set_option maxHeartbeats 8000000 in
set_option maxRecDepth 100000 in
theorem imod (p q : Nat) (A B : Option Addr) (ca cb : Nat) {n y : Int} (hpq : p ≠ q) (hn : 0 ≤ n ∧ n < 340282366920938463463374607431768211456) (hy : 2 ≤ y ∧ y < 18446744073709551616) (w : World) (hP : Num w p A ca n) (hQ : Num w q B cb y) (hAB : ∀ g, A = some ⟨g, 0, none⟩ → ¬ B = some ⟨g, 0, none⟩) :
    Calls Tryz.prog 21 #[.pointer (some ⟨p, 0, none⟩), .pointer (some ⟨p, 0, none⟩), .pointer (some ⟨q, 0, none⟩)] w fun e w' => e = .returned (.pointer (some ⟨p, 0, none⟩)) ∧ Turned w p A (n % y) w' := by
  have hal := fun w' h1 h2 => alias A B _ ca _ cb (us := Wds n) (vs := Wds y) hP.2.len.1 hQ.2.len.1 w' h1 h2 hAB
  have hp1 := (show Var w p _ from hP.1).cells.2.1
  have hq1 := (show Var w q _ from hQ.1).cells.2.1
  have hne := ptr_other (w := w.drew) hpq hP.1 hQ.1
  have hqr : ∀ (w1 : World) (b : Nat), Fr (fun _ => False) w w1 → w.heap.size ≤ b → Var w1 b (.slice none 0 0) → Calls Tryz.prog 31 #[.pointer (some ⟨b, 0, none⟩), .pointer (some ⟨p, 0, none⟩), .pointer (some ⟨q, 0, none⟩), .pointer (some ⟨p, 0, none⟩)] w1 fun e w' => e = .returned (.tuple #[.pointer (some ⟨b, 0, none⟩), .pointer (some ⟨p, 0, none⟩)]) ∧ Turned w p A (n % y) w' := by
    intro w1 b hf hb hv
    have lp := num_lt hP
    have lq := num_lt hQ
    have P1 := Num.keep hP hf (fun h => h) (fun _ _ h => h)
    have Q1 := Num.keep hQ hf (fun h => h) (fun _ _ h => h)
    refine (quoRem b p q (by omega) (by omega) hpq A B ca cb w1 hv P1 Q1 hAB (natdiv A B ca cb hn hy w1.drew P1.2 Q1.2)).mono ?_
    rintro e w' ⟨rfl, h⟩
    exact ⟨rfl, turned_from hf hb h⟩
  have HA := Aside0.mk (hal w.drew hP.2 hQ.2)
  have HQ := Aside0.mk hqr
  clear hal hqr hP hQ hAB hpq hn hy
  go_enter Tryz.func21, Tryz.ntmps21
  go_wp2
  go_region_with (go_at_call 29; refine HA.out.mono ?_; rintro e w1 ⟨rfl, m, rfl⟩)
  all_goals go_wp2_with (go_at_call 31; refine (HQ.out _ _ (by exact ((Fr.refl _ w).drewN _).trans (Fr.alloc _ _ _)) (Nat.le_refl _) (by exact Array.getElem?_push_size ..)).mono ?_; rintro e w2 ⟨rfl, hT⟩; have k0 : w2.cell? ⟨p, 0, none⟩ = some (.bool false) := (by obtain ⟨A', cap', hN2, _⟩ := hT; exact (num_cells hN2).1); have KT := Aside0.mk hT; clear hT)
  all_goals go_ret
  all_goals exact ⟨rfl, KT.out⟩
end Go.Proofs.YtmmnopmccamjcaaGreatDoor.MemK
