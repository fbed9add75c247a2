/- A number's words in memory: setWord, and the product of numbers of one word. -/
import Derived.Test.YtmmnopmccamjcaaGreatDoorMemA
namespace Go.Proofs.YtmmnopmccamjcaaGreatDoor.MemB
open Go Go.Proofs Go.RowKit Go.Proofs.YtmmnopmccamjcaaGreatDoor.PBig Go.Proofs.YtmmnopmccamjcaaGreatDoorW.PrintWords Go.Proofs.YtmmnopmccamjcaaGreatDoorW.PrintMore Go.Proofs.YtmmnopmccamjcaaGreatDoor.BigW Go.Proofs.YtmmnopmccamjcaaGreatDoor.MemA
set_option linter.unusedVariables false
set_option linter.unusedSimpArgs false
/-- a number's words, the lowest one first -/
def Wds (n : Int) : List Int := if n = 0 then [] else if n < 18446744073709551616 then [n] else [n % 18446744073709551616, n / 18446744073709551616]
theorem wds_zero : Wds 0 = [] := rfl
theorem wds_one {n : Int} (h : n ≠ 0) (h1 : n < 18446744073709551616) : Wds n = [n] := by unfold Wds; rw [if_neg h, if_pos h1]
theorem wds_two {n : Int} (h1 : 18446744073709551616 ≤ n) : Wds n = [n % 18446744073709551616, n / 18446744073709551616] := by unfold Wds; rw [if_neg (by omega), if_neg (by omega)]
/-- a row of words, nil or made -/
def Nt (w : World) (A : Option Addr) (cap : Nat) (ws : List Int) : Prop := (A = none ∧ cap = 0 ∧ ws = []) ∨ ∃ g, A = some ⟨g, 0, none⟩ ∧ Row w g cap ws ∧ cap ≤ 1000
theorem Nt.len {w : World} {A : Option Addr} {cap : Nat} {ws : List Int} (h : Nt w A cap ws) : ws.length ≤ cap ∧ cap ≤ 1000 := by
  rcases h with ⟨_, rfl, rfl⟩ | ⟨g, _, ⟨_, _, _, h, _⟩, h2⟩
  · exact ⟨Nat.le_refl _, by omega⟩
  · exact ⟨h, h2⟩
theorem Nt.keep {S : Nat → Prop} {w w' : World} {A : Option Addr} {cap : Nat} {ws : List Int} (h : Nt w A cap ws) (hf : Fr S w w') (hS : ∀ g, A = some ⟨g, 0, none⟩ → ¬ S g) : Nt w' A cap ws := by
  rcases h with h | ⟨g, hA, hr, hc⟩
  · exact .inl h
  · exact .inr ⟨g, hA, hr.keep hf (hS g hA), hc⟩
theorem Nt.lt {w : World} {A : Option Addr} {cap : Nat} {ws : List Int} (h : Nt w A cap ws) : ∀ g, A = some ⟨g, 0, none⟩ → g < w.heap.size := by
  intro g hg
  rcases h with ⟨h, _⟩ | ⟨g', hA, hr, hc⟩
  · rw [h] at hg; cases hg
  · rw [hA] at hg; cases hg; exact hr.lt
theorem Nt.empty {w : World} {A : Option Addr} {cap : Nat} {ws : List Int} (h : Nt w A cap ws) : Nt w A cap [] := by
  rcases h with ⟨h1, h2, _⟩ | ⟨g, hA, ⟨cur, a, b, c, d⟩, hc⟩
  · exact .inl ⟨h1, h2, rfl⟩
  · exact .inr ⟨g, hA, ⟨cur, a, b, by simp, fun i hi => by simp at hi⟩, hc⟩
/-- the row that comes out: the elder one, or a new one -/
def From (w : World) (A A' : Option Addr) : Prop := A' = A ∨ ∃ g, A' = some ⟨g, 0, none⟩ ∧ w.heap.size ≤ g
theorem row_set {w : World} {g i t : Nat} {cur : Array Value} (h : w.heap[g]? = some (.cells cur t (0, 0))) (v : Value) : (w.setCell ⟨g, i, none⟩ v).heap[g]? = some (.cells (cur.setIfInBounds i v) t (0, 0)) := by
  simp [World.setCell, Array.getElem?_modify, h]
theorem row_one {w : World} {g cap : Nat} {cur : Array Value} (h : w.heap[g]? = some (.cells cur 45 (0, 0))) (hs : cur.size = cap) (hc : 1 ≤ cap) (x : Int) : Row (w.setCell ⟨g, 0, none⟩ (.int .u64 x)) g cap [x] := by
  refine ⟨_, row_set h _, by simpa using hs, by simpa using hc, fun i hi => ?_⟩
  obtain rfl : i = 0 := by simpa using hi
  simp [Array.getElem?_setIfInBounds, show 0 < cur.size by omega, rd]
theorem row_two {w : World} {g cap : Nat} {cur : Array Value} (h : w.heap[g]? = some (.cells cur 45 (0, 0))) (hs : cur.size = cap) (hc : 2 ≤ cap) (lo hi : Int) :
    Row ((w.setCell ⟨g, 0, none⟩ (.int .u64 lo)).setCell ⟨g, 1, none⟩ (.int .u64 hi)) g cap [lo, hi] ∧ Row ((w.setCell ⟨g, 1, none⟩ (.int .u64 hi)).setCell ⟨g, 0, none⟩ (.int .u64 lo)) g cap [lo, hi] := by
  constructor
  · refine ⟨_, row_set (row_set h _) _, by simpa using hs, by simpa using hc, fun i hi => ?_⟩
    have : i = 0 ∨ i = 1 := by simp at hi; omega
    rcases this with rfl | rfl <;> simp [Array.getElem?_setIfInBounds, show 0 < cur.size by omega, show 1 < cur.size by omega, rd]
  · refine ⟨_, row_set (row_set h _) _, by simpa using hs, by simpa using hc, fun i hi => ?_⟩
    have : i = 0 ∨ i = 1 := by simp at hi; omega
    rcases this with rfl | rfl <;> simp [Array.getElem?_setIfInBounds, show 0 < cur.size by omega, show 1 < cur.size by omega, rd]
/-- make: a row with room -/
theorem make (A : Option Addr) (len cap n : Nat) (ws : List Int) (hn2 : n = 1 ∨ n = 2) (hl : len ≤ cap) (w : World) (h : Nt w A cap ws) :
    Calls Tryz.prog 36 #[.slice A len cap, .int .i64 n] w fun e w' => ∃ g cap' : Nat, e = .returned (.slice (some ⟨g, 0, none⟩) n cap') ∧ (∃ cur : Array Value, w'.heap[g]? = some (.cells cur 45 (0, 0)) ∧ cur.size = cap') ∧ n ≤ cap' ∧ cap' ≤ 1000 ∧ From w A (some ⟨g, 0, none⟩) ∧ Fr (fun _ => False) w w' := by
  have hc := h.len.2
  by_cases hr : n ≤ cap
  · refine (make_room A len cap n hr hl hc w).mono ?_
    rintro e w' ⟨rfl, m, rfl⟩
    rcases h with ⟨_, rfl, _⟩ | ⟨g, rfl, ⟨cur, h1, h2, _⟩, _⟩
    · omega
    · exact ⟨g, cap, rfl, ⟨cur, h1, h2⟩, hr, hc, .inl rfl, (Fr.refl _ w).drewN m⟩
  · refine (make_new A len cap n (by omega) hn2 hl w).mono ?_
    rintro e w' ⟨cap', rfl, h1, h2, cur, h3, m, rfl⟩
    exact ⟨w.heap.size, cap', rfl, ⟨cur, Array.getElem?_push_size .., h3⟩, h1, by omega, .inr ⟨_, rfl, Nat.le_refl _⟩, (Fr.alloc w _ _).drewN m⟩
theorem From.trans {w w1 : World} {A B C : Option Addr} (h : From w A B) (k : From w1 B C) (hs : w.heap.size ≤ w1.heap.size) : From w A C := by
  rcases k with rfl | ⟨g, rfl, hg⟩
  · exact h
  · exact .inr ⟨g, rfl, Nat.le_trans hs hg⟩
/-- a store into the row that came out of make -/
theorem fr_store {w w1 : World} {A : Option Addr} {g i : Nat} (hf : Fr (fun _ => False) w w1) (ha : From w A (some ⟨g, 0, none⟩)) (v : Value) : Fr (fun k => A = some ⟨k, 0, none⟩) w (w1.setCell ⟨g, i, none⟩ v) := by
  have h1 := Fr.set w1 ⟨g, i, none⟩ v (S := fun k => k = g) rfl
  refine ⟨h1.os.trans hf.os, h1.tape.trans hf.tape, h1.output.trans hf.output, Nat.le_trans hf.size h1.size, fun k hk hs => ?_⟩
  have hne : k ≠ g := by
    rintro rfl
    rcases ha with rfl | ⟨g', e, hg⟩
    · exact hs rfl
    · cases e; omega
  rw [h1.block k (Nat.lt_of_lt_of_le hk hf.size) hne]
  exact hf.block k hk (fun h => h)
set_option maxHeartbeats 2000000 in
theorem setWord (A : Option Addr) (len cap : Nat) (ws : List Int) (hl : len ≤ cap) (x : Int) (h0 : 0 ≤ x) (hx : x < 18446744073709551616) (w : World) (h : Nt w A cap ws) :
    Calls Tryz.prog 35 #[.slice A len cap, .int .u64 x] w fun e w' => ∃ (A' : Option Addr) (cap' : Nat), e = .returned (.slice A' (Wds x).length cap') ∧ Nt w' A' cap' (Wds x) ∧ From w A A' ∧ Fr (fun k => A = some ⟨k, 0, none⟩) w w' := by
  have hc := h.len.2
  have HH : Hid (Nt w A cap ws) := h
  have hm := make A len cap 1 ws (.inl rfl) hl w h
  clear h
  by_cases hz : x = 0
  · subst hz
    clear hm
    go_enter Tryz.func35, Tryz.ntmps35
    go_wp2
    go_ret
    exact ⟨A, cap, rfl, HH.out.empty, .inl rfl, Fr.refl _ _⟩
  · have hb : (x == 0) = false := beq_eq_false_iff_ne.mpr hz
    have hw := wds_one hz hx
    rw [hw]
    have HZ : Hid (x ≠ 0) := hz
    clear hz hw
    go_enter Tryz.func35, Tryz.ntmps35
    go_wp2_with (go_at_call 36; refine hm.mono ?_; rintro e w1 ⟨g, cap', rfl, ⟨cur, hg1, hg2⟩, hcap, hcap2, hfrom, hfr⟩; have hcell : ∃ v, w1.cell? ⟨g, 0, none⟩ = some v := ⟨cur[0]'(by omega), by simp [World.cell?, hg1, show 0 < cur.size by omega]⟩; obtain ⟨v, hv⟩ := hcell; have hfz : w1.frozen? ⟨g, 0, none⟩ = false := (by simp [World.frozen?, hg1]); have HG : Hid (w1.heap[g]? = some (.cells cur 45 (0, 0))) := hg1; have HF : Hid (From w A (some ⟨g, 0, none⟩)) := hfrom; have HR : Hid (Fr (fun _ => False) w w1) := hfr; clear hg1 hfrom hfr)
    go_ret
    refine ⟨some ⟨g, 0, none⟩, cap', rfl, .inr ⟨g, rfl, row_one HG.out hg2 hcap x, hcap2⟩, HF.out, fr_store HR.out HF.out _⟩
end Go.Proofs.YtmmnopmccamjcaaGreatDoor.MemB
