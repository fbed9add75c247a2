/- The package's division of a number's words: divW, nat.div at a divisor of one word. -/
import Derived.Test.YtmmnopmccamjcaaGreatDoorMemG
namespace Go.Proofs.YtmmnopmccamjcaaGreatDoor.MemH
open Go Go.Proofs Go.RowKit Go.Proofs.YtmmnopmccamjcaaGreatDoor.PBig Go.Proofs.YtmmnopmccamjcaaGreatDoorW.PrintWords Go.Proofs.YtmmnopmccamjcaaGreatDoorW.PrintMore Go.Proofs.YtmmnopmccamjcaaGreatDoor.BigW Go.Proofs.YtmmnopmccamjcaaGreatDoor.MemA Go.Proofs.YtmmnopmccamjcaaGreatDoor.MemB Go.Proofs.YtmmnopmccamjcaaGreatDoor.MemC Go.Proofs.YtmmnopmccamjcaaGreatDoor.MemD Go.Proofs.YtmmnopmccamjcaaGreatDoor.MemE Go.Proofs.YtmmnopmccamjcaaGreatDoor.MemG
set_option linter.unusedVariables false
set_option linter.unusedSimpArgs false
theorem Fr.none {w w' : World} (h : Fr (fun k => (none : Option Addr) = some ⟨k, 0, none⟩) w w') : Fr (fun _ => False) w w' := h.mono (fun k _ e => by cases e)
theorem no_size (w : World) : ¬ (none : Option Addr) = some ⟨w.heap.size, 0, none⟩ := by intro h; cases h
/-- the row that make makes of nothing -/
theorem make_nil (n : Nat) (hn2 : n = 1 ∨ n = 2) (w : World) :
    Calls Tryz.prog 36 #[.slice none 0 0, .int .i64 n] w fun e w' => ∃ cap' : Nat, e = .returned (.slice (some ⟨w.heap.size, 0, none⟩) n cap') ∧ n ≤ cap' ∧ cap' ≤ 1000 ∧ (∃ cur : Array Value, w'.heap[w.heap.size]? = some (.cells cur 45 (0, 0)) ∧ cur.size = cap') ∧ Fr (fun _ => False) w w' := by
  refine (make_new none 0 0 n (by omega) hn2 (Nat.le_refl _) w).mono ?_
  rintro e w' ⟨cap', rfl, h1, h2, cur, h3, m, rfl⟩
  exact ⟨cap', rfl, h1, by omega, ⟨cur, Array.getElem?_push_size .., h3⟩, (Fr.alloc w _ _).drewN m⟩
/-- a store into the fresh row -/
theorem fr_fresh {w w1 : World} (hf : Fr (fun _ => False) w w1) (i : Nat) (v : Value) : Fr (fun _ => False) w (w1.setCell ⟨w.heap.size, i, none⟩ v) := by
  have h1 := Fr.set w1 ⟨w.heap.size, i, none⟩ v (S := fun k => k = w.heap.size) rfl
  refine ⟨h1.os.trans hf.os, h1.tape.trans hf.tape, h1.output.trans hf.output, Nat.le_trans hf.size h1.size, fun k hk hs => ?_⟩
  rw [h1.block k (Nat.lt_of_lt_of_le hk hf.size) (by omega)]
  exact hf.block k hk hs
/-- what divW leaves: a row for the quotient, the remainder -/
def Quo (w : World) (r : Int) (e : Ending) (w' : World) : Prop := ∃ (Q : Option Addr) (lq cq : Nat), e = .returned (.tuple #[.slice Q lq cq, .int .u64 r]) ∧ (lq = 0 ∨ lq = 1 ∨ lq = 2) ∧ Fr (fun _ => False) w w'
set_option maxHeartbeats 4000000 in
theorem divW (A : Option Addr) (ca : Nat) {n y : Int} (hn : 0 ≤ n ∧ n < 340282366920938463463374607431768211456) (hy : 2 ≤ y ∧ y < 18446744073709551616) (w : World) (hA : Nt w A ca (Wds n)) :
    Calls Tryz.prog 51 #[.slice none 0 0, .slice A (Wds n).length ca, .int .u64 y] w fun e w' => Quo w (n % y) e w' := by
  have hy0 : (y == 0) = false := beq_eq_false_iff_ne.mpr (by omega)
  have hy1 : (y == 1) = false := beq_eq_false_iff_ne.mpr (by omega)
  have hw : Wp y := ⟨by omega, hy.2⟩
  have hcs := hA.len
  by_cases h0 : n = 0
  · subst h0
    rw [Int.zero_emod]
    rw [wds_zero] at *
    clear hA hw hy hn
    go_enter Tryz.func51, Tryz.ntmps51
    go_wp2
    go_ret2
    exact ⟨none, 0, 0, rfl, .inl rfl, Fr.refl _ _⟩
  · by_cases h1 : n < 18446744073709551616
    · obtain ⟨h, rfl, hr⟩ : ∃ h, A = some ⟨h, 0, none⟩ ∧ Row w h ca (Wds n) := by
        rcases hA with ⟨_, _, hh⟩ | ⟨g, a, b, _⟩
        · rw [wds_one h0 h1] at hh; cases hh
        · exact ⟨g, a, b⟩
      rw [wds_one h0 h1] at *
      have hcell : w.cell? ⟨h, 0, none⟩ = some (.int .u64 n) := hr.cell 0 (by simp)
      have hlt := hr.lt
      have hm := make_nil 1 (.inl rfl) w
      have hc1 : 1 ≤ ca := by simpa using hcs.1
      have hc2 := hcs.2
      have HD := Aside0.mk (fun (g cz : Nat) (w : World) (cur : Array Value) a b c d e => divWVW1 g cz h ca (x := n) ⟨hn.1, h1⟩ hw w cur a b c hc1 hc2 d e)
      have HL := Aside0.mk hlt
      have HC := Aside0.mk hcell
      clear hA hw hy hn hr hcs hcell hlt h0 h1
      go_enter Tryz.func51, Tryz.ntmps51
      go_wp2_with (first
        | (go_at_call 36; refine hm.mono ?_; rintro e w1 ⟨cap', rfl, hcap, hcap2, ⟨cur, hg1, hg2⟩, hfr⟩; have hcl : w1.cell? ⟨h, 0, none⟩ = some (.int .u64 n) := (by rw [← HC.out]; exact World.cell?_of_block (hfr.block h HL.out (fun h => h))); have h65 := HD.out w.heap.size cap' w1 cur hg1 hg2 hcap hcap2 hcl; have HG := Aside0.mk hg1; have HR := Aside0.mk hfr; clear hg1 hfr hcl)
        | (go_at_call 69; refine h65.mono ?_; rintro e w2 ⟨rfl, m2, rfl⟩; have h51 := norm w.heap.size cap' [n / y] ((w1.setCell ⟨w.heap.size, 0, none⟩ (.int .u64 (n / y))).drewN m2) (row_one HG.out hg2 hcap (n / y)) hcap2)
        | (go_at_call 41; refine h51.mono ?_; rintro e w3 ⟨i, rfl, hi, -, -, m3, rfl⟩; have HI : i = 0 ∨ i = 1 := (by simp at hi; omega)))
      go_ret2
      exact ⟨_, i, cap', rfl, by omega, (fr_fresh HR.out 0 _).drewN _⟩
    · have hn1 : 18446744073709551616 ≤ n := by omega
      obtain ⟨h, rfl, hr⟩ : ∃ h, A = some ⟨h, 0, none⟩ ∧ Row w h ca (Wds n) := by
        rcases hA with ⟨_, _, hh⟩ | ⟨g, a, b, _⟩
        · rw [wds_two hn1] at hh; cases hh
        · exact ⟨g, a, b⟩
      rw [wds_two hn1] at *
      have en : n / 18446744073709551616 * 18446744073709551616 + n % 18446744073709551616 = n := by omega
      have hx0 : 0 ≤ n % 18446744073709551616 ∧ n % 18446744073709551616 < 18446744073709551616 := by omega
      have hx1 : 0 ≤ n / 18446744073709551616 ∧ n / 18446744073709551616 < 18446744073709551616 := by omega
      have hcell0 : w.cell? ⟨h, 0, none⟩ = some (.int .u64 (n % 18446744073709551616)) := hr.cell 0 (by simp)
      have hcell1 : w.cell? ⟨h, 1, none⟩ = some (.int .u64 (n / 18446744073709551616)) := hr.cell 1 (by simp)
      have hlt := hr.lt
      have hm := make_nil 2 (.inr rfl) w
      have hc1 : 2 ≤ ca := by simpa using hcs.1
      have hc2 := hcs.2
      have hD := fun (g cz : Nat) (w : World) (cur : Array Value) (hgh : g ≠ h) a b c d e f => divWVW2 g cz h ca hgh (x1 := n / 18446744073709551616) (x0 := n % 18446744073709551616) hx1 hx0 hw w cur a b c hc1 hc2 d e f
      rw [en] at hD
      have HD := Aside0.mk hD
      have HL := Aside0.mk hlt
      have HC0 := Aside0.mk hcell0
      have HC1 := Aside0.mk hcell1
      clear hA hw hy hn hr hcs hcell0 hcell1 hlt h0 h1 hD en hx0 hx1 hn1
      go_enter Tryz.func51, Tryz.ntmps51
      go_wp2_with (first
        | (go_at_call 36; refine hm.mono ?_; rintro e w1 ⟨cap', rfl, hcap, hcap2, ⟨cur, hg1, hg2⟩, hfr⟩; have hcl0 : w1.cell? ⟨h, 0, none⟩ = some (.int .u64 (n % 18446744073709551616)) := (by rw [← HC0.out]; exact World.cell?_of_block (hfr.block h HL.out (fun h => h))); have hcl1 : w1.cell? ⟨h, 1, none⟩ = some (.int .u64 (n / 18446744073709551616)) := (by rw [← HC1.out]; exact World.cell?_of_block (hfr.block h HL.out (fun h => h))); obtain ⟨q1, q0, h65⟩ := HD.out w.heap.size cap' w1 cur (fun e => by have := HL.out; omega) hg1 hg2 hcap hcap2 hcl0 hcl1; have HG := Aside0.mk hg1; have HR := Aside0.mk hfr; clear hg1 hfr hcl0 hcl1)
        | (go_at_call 69; refine h65.mono ?_; rintro e w2 ⟨rfl, m2, rfl⟩; have h51 := norm w.heap.size cap' [q0, q1] (((w1.setCell ⟨w.heap.size, 1, none⟩ (.int .u64 q1)).setCell ⟨w.heap.size, 0, none⟩ (.int .u64 q0)).drewN m2) (row_two HG.out hg2 hcap q0 q1).2 hcap2)
        | (go_at_call 41; refine h51.mono ?_; rintro e w3 ⟨i, rfl, hi, -, -, m3, rfl⟩; have HI : i = 0 ∨ i = 1 ∨ i = 2 := (by simp at hi; omega)))
      go_ret2
      exact ⟨_, i, cap', rfl, HI, (fr_fresh (fr_fresh HR.out 1 _) 0 _).drewN _⟩
/-- what nat.div leaves: a row for the quotient, the remainder's row in the elder place or anew -/
def Divd (w : World) (A : Option Addr) (r : Int) (e : Ending) (w' : World) : Prop := ∃ (Q : Option Addr) (lq cq : Nat) (A' : Option Addr) (cap' : Nat), e = .returned (.tuple #[.slice Q lq cq, .slice A' (Wds r).length cap']) ∧ (lq = 0 ∨ lq = 1 ∨ lq = 2) ∧ Nt w' A' cap' (Wds r) ∧ From w A A' ∧ Fr (fun k => A = some ⟨k, 0, none⟩) w w'
set_option maxHeartbeats 4000000 in
theorem natdiv (A B : Option Addr) (ca cb : Nat) {n y : Int} (hn : 0 ≤ n ∧ n < 340282366920938463463374607431768211456) (hy : 2 ≤ y ∧ y < 18446744073709551616) (w : World) (hA : Nt w A ca (Wds n)) (hB : Nt w B cb (Wds y)) :
    Calls Tryz.prog 42 #[.slice none 0 0, .pointer none, .slice A (Wds n).length ca, .slice A (Wds n).length ca, .slice B (Wds y).length cb] w fun e w' => Divd w A (n % y) e w' := by
  have hd := divW A ca hn hy w hA
  have hle := hA.len
  have hr0 := Int.emod_nonneg n (show y ≠ 0 by omega)
  have hr1 : n % y < 18446744073709551616 := Int.lt_trans (Int.emod_lt_of_pos n (by omega)) hy.2
  have ey := wds_one (show y ≠ 0 by omega) hy.2
  rw [ey] at hB ⊢
  obtain ⟨h, rfl, hr⟩ : ∃ h, B = some ⟨h, 0, none⟩ ∧ Row w h cb [y] := by
    rcases hB with ⟨_, _, hh⟩ | ⟨g, a, b, _⟩
    · cases hh
    · exact ⟨g, a, b⟩
  have hcell : w.cell? ⟨h, 0, none⟩ = some (.int .u64 y) := hr.cell 0 (by simp)
  have hc1 : 1 ≤ cb := by obtain ⟨_, _, _, h, _⟩ := hr; simpa using h
  have HA := Aside0.mk hA
  have H0 := Aside0.mk hr0
  have H1 := Aside0.mk hr1
  have HLE := Aside0.mk hle
  clear hA hB hr hr0 hr1 ey hy hn hle
  generalize n % y = r at *
  generalize Wds n = ws at *
  show Calls Tryz.prog 42 #[.slice none 0 0, .pointer none, .slice A ws.length ca, .slice A ws.length ca, .slice (some ⟨h, 0, none⟩) 1 cb] w _
  go_enter Tryz.func42, Tryz.ntmps42
  go_wp2_with (first
    | (go_at_call 51; refine hd.mono ?_; rintro e w1 ⟨Q, lq, cq, rfl, hlq, hfr⟩; have h33 := setWord A ws.length ca ws HLE.out.1 r H0.out H1.out w1 (HA.out.keep hfr (fun _ _ h => h)); have HQ := Aside0.mk hlq; have HR := Aside0.mk hfr; clear hlq hfr)
    | (go_at_call 35; refine h33.mono ?_; rintro e w2 ⟨A', cap', rfl, hN, hF, hR⟩; have KN := Aside0.mk hN; have KF := Aside0.mk hF; have KR := Aside0.mk hR; clear hN hF hR))
  go_ret2
  exact ⟨Q, lq, cq, A', cap', rfl, HQ.out, KN.out, From.trans (.inl rfl) KF.out HR.out.size, (HR.out.mono (fun _ _ h => h.elim)).trans KR.out⟩
end Go.Proofs.YtmmnopmccamjcaaGreatDoor.MemH
