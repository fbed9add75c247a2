/- The package's product of two numbers' words, and the square. -/
import Derived.Test.YtmmnopmccamjcaaGreatDoorMemC
namespace Go.Proofs.YtmmnopmccamjcaaGreatDoor.MemD
open Go Go.Proofs Go.RowKit Go.Proofs.YtmmnopmccamjcaaGreatDoor.PBig Go.Proofs.YtmmnopmccamjcaaGreatDoorW.PrintWords Go.Proofs.YtmmnopmccamjcaaGreatDoorW.PrintMore Go.Proofs.YtmmnopmccamjcaaGreatDoor.BigW Go.Proofs.YtmmnopmccamjcaaGreatDoor.MemA Go.Proofs.YtmmnopmccamjcaaGreatDoor.MemB Go.Proofs.YtmmnopmccamjcaaGreatDoor.MemC
set_option linter.unusedVariables false
set_option linter.unusedSimpArgs false
def Wp (x : Int) : Prop := 0 < x ∧ x < 18446744073709551616
/-- what comes out of a function that hands back a row for n, made in place of the row at A or anew -/
def Out (w : World) (A : Option Addr) (n : Int) (e : Ending) (w' : World) : Prop :=
  ∃ (A' : Option Addr) (cap' : Nat), e = .returned (.slice A' (Wds n).length cap') ∧ Nt w' A' cap' (Wds n) ∧ From w A A' ∧ Fr (fun k => A = some ⟨k, 0, none⟩) w w'
theorem out_zero {w : World} {A : Option Addr} {cap : Nat} {ws : List Int} (h : Nt w A cap ws) (m : Nat) : Out w A 0 (.returned (.slice A 0 cap)) (w.drewN m) := by
  refine ⟨A, cap, rfl, ?_, .inl rfl, (Fr.refl _ w).drewN m⟩
  rcases h.empty with h | ⟨g, hA, hr, hc⟩
  · exact .inl h
  · exact .inr ⟨g, hA, hr, hc⟩
theorem fr_again {w w1 : World} {A : Option Addr} {g i : Nat} (hf : Fr (fun k => A = some ⟨k, 0, none⟩) w w1) (ha : From w A (some ⟨g, 0, none⟩)) (v : Value) : Fr (fun k => A = some ⟨k, 0, none⟩) w (w1.setCell ⟨g, i, none⟩ v) := by
  have h1 := Fr.set w1 ⟨g, i, none⟩ v (S := fun k => k = g) rfl
  refine ⟨h1.os.trans hf.os, h1.tape.trans hf.tape, h1.output.trans hf.output, Nat.le_trans hf.size h1.size, fun k hk hs => ?_⟩
  have hne : k ≠ g := by
    rintro rfl
    rcases ha with rfl | ⟨g', e, hg⟩
    · exact hs rfl
    · cases e; omega
  rw [h1.block k (Nat.lt_of_lt_of_le hk hf.size) hne]
  exact hf.block k hk hs
set_option maxHeartbeats 4000000 in
theorem mulAddWW (A : Option Addr) (lz cz : Nat) (ws : List Int) (h cx : Nat) {x y : Int} (hx : Wp x) (hy : Wp y) (w : World) (hl : lz ≤ cz) (hN : Nt w A cz ws) (hc1 : 1 ≤ cx) (hc2 : cx ≤ 1000) (hcell : w.cell? ⟨h, 0, none⟩ = some (.int .u64 x)) :
    Calls Tryz.prog 61 #[.slice A lz cz, .slice (some ⟨h, 0, none⟩) 1 cx, .int .u64 y, .int .u64 0] w fun e w' => Out w A (x * y) e w' := by
  have hm := make A lz cz 2 ws (.inr rfl) hl w hN
  have hlt := World.block_lt_of_cell? w _ hcell
  have hmul := fun w => cMulAdd (x := x) (y := y) (c := 0) ⟨Int.le_of_lt hx.1, hx.2⟩ ⟨Int.le_of_lt hy.1, hy.2⟩ ⟨Int.le_refl _, by omega⟩ w
  rw [Int.add_zero] at hmul
  have hcs := hN.len.2
  have hb : (y == 0) = false := beq_eq_false_iff_ne.mpr (Int.ne_of_gt hy.1)
  have HN := Aside0.mk hN
  have HX := Aside0.mk hx
  have HY := Aside0.mk hy
  have HC := Aside0.mk hcell
  have HM := Aside0.mk hmul
  have HL := Aside0.mk hlt
  clear hN hx hy hcell hmul hlt
  go_enter Tryz.func61, Tryz.ntmps61
  go_wp2_with (first
    | (go_at_call 36; refine hm.mono ?_; rintro e w1 ⟨g, cap', rfl, ⟨cur, hg1, hg2⟩, hcap, hcap2, hfrom, hfr⟩; have hc1' := (hfr.block h HL.out (fun h => h)); have hcl : w1.cell? ⟨h, 0, none⟩ = some (.int .u64 x) := (by rw [← HC.out]; exact World.cell?_of_block hc1'); have h78 := mulAddVWW g cap' h cx x y (x * y % 18446744073709551616) (x * y / 18446744073709551616) w1 HM.out (by omega) hc1 hc2 hcap2 hcl ⟨cur[0]'(by omega), (by simp [World.cell?, hg1, show 0 < cur.size by omega])⟩ (by simp [World.frozen?, hg1]); have HG := Aside0.mk hg1; have HF := Aside0.mk hfrom; have HR := Aside0.mk hfr; clear hg1 hfrom hfr hcl hc1')
    | (go_at_call 80; refine h78.mono ?_; rintro e w2 ⟨rfl, m2, rfl⟩; have ht : ∃ v, ((w1.setCell ⟨g, 0, none⟩ (.int .u64 (x * y % 18446744073709551616))).drewN m2).cell? ⟨g, 1, none⟩ = some v := ⟨(cur.setIfInBounds 0 (.int .u64 (x * y % 18446744073709551616)))[1]'(by simp; omega), (by show World.cell? (w1.setCell _ _) _ = _; simp [World.cell?, row_set HG.out, show 1 < cur.size by omega])⟩; obtain ⟨v1, hv1⟩ := ht; have hz1 : ((w1.setCell ⟨g, 0, none⟩ (.int .u64 (x * y % 18446744073709551616))).drewN m2).frozen? ⟨g, 1, none⟩ = false := (by show World.frozen? (w1.setCell _ _) _ = _; simp [World.frozen?, row_set HG.out]); have hrow := Aside0.mk (row_two HG.out hg2 hcap (x * y % 18446744073709551616) (x * y / 18446744073709551616)).1; have h51 := norm_prod g cap' HX.out HY.out (((w1.setCell ⟨g, 0, none⟩ (.int .u64 (x * y % 18446744073709551616))).drewN m2).setCell ⟨g, 1, none⟩ (.int .u64 (x * y / 18446744073709551616))) hrow.out hcap2)
    | (go_at_call 41; refine h51.mono ?_; rintro e w3 ⟨rfl, hrow3, m3, rfl⟩))
  go_ret
  exact ⟨some ⟨g, 0, none⟩, cap', rfl, .inr ⟨g, rfl, hrow3, hcap2⟩, HF.out, (fr_again ((fr_store HR.out HF.out _).drewN m2) HF.out _).drewN m3⟩
set_option maxHeartbeats 4000000 in
/-- the square: the number's own row is written over, or a new one is made -/
theorem sqr (A : Option Addr) (cap : Nat) {n : Int} (h0 : 0 ≤ n) (h1 : n < 18446744073709551616) (w : World) (hN : Nt w A cap (Wds n)) :
    Calls Tryz.prog 45 #[.slice A (Wds n).length cap, .pointer none, .slice A (Wds n).length cap] w fun e w' => Out w A (n * n) e w' := by
  have hcs := hN.len
  by_cases hz : n = 0
  · subst hz
    have HN := Aside0.mk hN
    clear hN
    rw [wds_zero] at *
    go_enter Tryz.func45, Tryz.ntmps45
    go_wp2
    go_ret
    exact out_zero HN.out 0
  · have hW : Wp n := ⟨by omega, h1⟩
    have hm := make A (Wds n).length cap 2 _ (.inr rfl) hcs.1 w hN
    have hmul := fun w => cMul (x := n) (y := n) ⟨h0, h1⟩ ⟨h0, h1⟩ w
    rw [wds_one hz h1] at *
    obtain ⟨h, rfl, hr, _⟩ : ∃ h, A = some ⟨h, 0, none⟩ ∧ Row w h cap [n] ∧ cap ≤ 1000 := by
      rcases hN with ⟨_, _, hh⟩ | hh
      · cases hh
      · exact hh
    have hcell : w.cell? ⟨h, 0, none⟩ = some (.int .u64 n) := hr.cell 0 (by simp)
    have HM := Aside0.mk hmul
    have HW := Aside0.mk hW
    have hc1 : 1 ≤ cap := by simpa using hcs.1
    have hc2 := hcs.2
    clear hN hr hmul hW hz
    go_enter Tryz.func45, Tryz.ntmps45
    go_wp2_with (first
      | (go_at_call 36; refine hm.mono ?_; rintro e w1 ⟨g, cap', rfl, ⟨cur, hg1, hg2⟩, hcap, hcap2, hfrom, hfr⟩; have HG := Aside0.mk hg1; have HF := Aside0.mk hfrom; have HR := Aside0.mk hfr; clear hg1 hfrom hfr)
      | (go_at_call 57; refine (HM.out _).mono ?_; rintro e w2 ⟨rfl, m2, rfl⟩; have ht1 : ∃ v, (w1.drewN m2).cell? ⟨g, 1, none⟩ = some v := ⟨cur[1]'(by omega), (by show World.cell? w1 _ = _; simp [World.cell?, HG.out, show 1 < cur.size by omega])⟩; obtain ⟨v1, hv1⟩ := ht1; have hz1 : (w1.drewN m2).frozen? ⟨g, 1, none⟩ = false := (by show World.frozen? w1 _ = _; simp [World.frozen?, HG.out]); have ht0 : ∃ v, ((w1.drewN m2).setCell ⟨g, 1, none⟩ (.int .u64 (n * n / 18446744073709551616))).cell? ⟨g, 0, none⟩ = some v := ⟨cur[0]'(by omega), (by show World.cell? (w1.setCell _ _) _ = _; simp [World.cell?, row_set HG.out, show 0 < cur.size by omega])⟩; obtain ⟨v0, hv0⟩ := ht0; have hz0 : ((w1.drewN m2).setCell ⟨g, 1, none⟩ (.int .u64 (n * n / 18446744073709551616))).frozen? ⟨g, 0, none⟩ = false := (by show World.frozen? (w1.setCell _ _) _ = _; simp [World.frozen?, row_set HG.out]); have hrow := Aside0.mk (row_two HG.out hg2 hcap (n * n % 18446744073709551616) (n * n / 18446744073709551616)).2; have h51 := norm_prod g cap' HW.out HW.out (((w1.drewN m2).setCell ⟨g, 1, none⟩ (.int .u64 (n * n / 18446744073709551616))).setCell ⟨g, 0, none⟩ (.int .u64 (n * n % 18446744073709551616))) hrow.out hcap2)
      | (go_at_call 41; refine h51.mono ?_; rintro e w3 ⟨rfl, hrow3, m3, rfl⟩))
    go_ret
    exact ⟨some ⟨g, 0, none⟩, cap', rfl, .inr ⟨g, rfl, hrow3, hcap2⟩, HF.out, (fr_again (fr_store (HR.out.drewN m2) HF.out _) HF.out _).drewN m3⟩
end Go.Proofs.YtmmnopmccamjcaaGreatDoor.MemD
