/- A number's words in memory: norm, make, setWord. -/
import Derived.Test.YtmmnopmccamjcaaGreatDoorBigW
import Derived.BigQuiet
import Derived.BigRegion
import Derived.StillTailTactics
namespace Go.Proofs.YtmmnopmccamjcaaGreatDoor.MemA
open Go Go.Proofs Go.RowKit Go.Proofs.YtmmnopmccamjcaaGreatDoor.PBig Go.Proofs.YtmmnopmccamjcaaGreatDoorW.PrintWords Go.Proofs.YtmmnopmccamjcaaGreatDoorW.PrintMore Go.Proofs.YtmmnopmccamjcaaGreatDoor.BigW
set_option linter.unusedVariables false
/-- blocks that may have turned: those of S; the elder others are as they were -/
structure Fr (S : Nat → Prop) (w w' : World) : Prop where
  os : w'.os = w.os
  tape : w'.tape = w.tape
  output : w'.output = w.output
  size : w.heap.size ≤ w'.heap.size
  block : ∀ k, k < w.heap.size → ¬ S k → w'.heap[k]? = w.heap[k]?
theorem Fr.refl (S : Nat → Prop) (w : World) : Fr S w w := ⟨rfl, rfl, rfl, Nat.le_refl _, fun _ _ _ => rfl⟩
theorem Fr.drewN {S : Nat → Prop} {w w' : World} (h : Fr S w w') (m : Nat) : Fr S w (w'.drewN m) := ⟨h.os, h.tape, h.output, h.size, h.block⟩
theorem Fr.trans {S : Nat → Prop} {a b c : World} (h : Fr S a b) (k : Fr S b c) : Fr S a c :=
  ⟨k.os.trans h.os, k.tape.trans h.tape, k.output.trans h.output, Nat.le_trans h.size k.size, fun i hi hs => (k.block i (Nat.lt_of_lt_of_le hi h.size) hs).trans (h.block i hi hs)⟩
theorem Fr.mono {S S' : Nat → Prop} {w w' : World} (h : Fr S w w') (hS : ∀ k, k < w.heap.size → S k → S' k) : Fr S' w w' := ⟨h.os, h.tape, h.output, h.size, fun k hk hs => h.block k hk (fun h' => hs (hS k hk h'))⟩
theorem Fr.alloc (w : World) (o : Obj) (S : Nat → Prop) : Fr S w (w.alloc o) := ⟨rfl, rfl, rfl, by show _ ≤ (w.heap.push o).size; rw [Array.size_push]; omega, fun k hk _ => Below.heap_alloc w o k hk⟩
theorem Fr.set (w : World) (p : Addr) (v : Value) {S : Nat → Prop} (h : S p.block) : Fr S w (w.setCell p v) := ⟨rfl, rfl, rfl, by simp [World.setCell], fun k _ hs => Below.heap_setCell w p v k (fun e => hs (e ▸ h))⟩
/-- a row of words -/
def Row (w : World) (g cap : Nat) (ws : List Int) : Prop := ∃ cur : Array Value, w.heap[g]? = some (.cells cur 45 (0, 0)) ∧ cur.size = cap ∧ ws.length ≤ cap ∧ ∀ i : Nat, i < ws.length → cur[i]? = some (.int .u64 (rd ws (i : Int)))
theorem Row.lt {w : World} {g cap : Nat} {ws : List Int} (h : Row w g cap ws) : g < w.heap.size := by
  obtain ⟨cur, h, _⟩ := h
  rcases Nat.lt_or_ge g w.heap.size with hh | hh
  · exact hh
  · rw [Array.getElem?_eq_none hh] at h; cases h
theorem Row.cell {w : World} {g cap : Nat} {ws : List Int} (h : Row w g cap ws) (i : Nat) (hi : i < ws.length) : w.cell? ⟨g, i, none⟩ = some (.int .u64 (rd ws (i : Int))) := by
  obtain ⟨cur, h, _, _, hc⟩ := h
  simp [World.cell?, h, hc i hi]
theorem Row.free {w : World} {g cap : Nat} {ws : List Int} (h : Row w g cap ws) (i : Nat) : w.frozen? ⟨g, i, none⟩ = false := by
  obtain ⟨cur, h, _⟩ := h
  simp [World.frozen?, h]
theorem Row.there {w : World} {g cap : Nat} {ws : List Int} (h : Row w g cap ws) (i : Nat) (hi : i < cap) : ∃ v, w.cell? ⟨g, i, none⟩ = some v := by
  obtain ⟨cur, h, hs, _, _⟩ := h
  exact ⟨cur[i]'(by omega), by simp [World.cell?, h, show i < cur.size by omega]⟩
theorem Row.keep {S : Nat → Prop} {w w' : World} {g cap : Nat} {ws : List Int} (h : Row w g cap ws) (hf : Fr S w w') (hS : ¬ S g) : Row w' g cap ws := by
  have hl := h.lt
  obtain ⟨cur, h, r⟩ := h
  exact ⟨cur, by rw [hf.block g hl hS, h], r⟩
theorem Row.drewN {w : World} {g cap : Nat} {ws : List Int} (h : Row w g cap ws) (m : Nat) : Row (w.drewN m) g cap ws := h
set_option maxHeartbeats 2000000 in
theorem norm (g cap : Nat) (ws : List Int) (w : World) (h : Row w g cap ws) (hc : cap ≤ 1000) :
    Calls Tryz.prog 41 #[.slice (some ⟨g, 0, none⟩) ws.length cap] w fun e w' => ∃ i : Nat, e = .returned (.slice (some ⟨g, 0, none⟩) i cap) ∧ i ≤ ws.length ∧ (∀ j : Nat, i ≤ j → j < ws.length → rd ws (j : Int) = 0) ∧ (i = 0 ∨ rd ws ((i : Int) - 1) ≠ 0) ∧ ∃ m, w' = w.drewN m := by
  have hl : ws.length ≤ cap := by obtain ⟨_, _, _, h, _⟩ := h; exact h
  have HH : Hid (Row w g cap ws) := h
  clear h
  go_enter Tryz.func41, Tryz.ntmps41
  go_wp2
  go_loopw [3] (fun vi wr => ∃ (i q : Nat), vi = .int .i64 i ∧ i ≤ ws.length ∧ (∀ j : Nat, i ≤ j → j < ws.length → rd ws (j : Int) = 0) ∧ wr = w.drewN q) (fun vi _ => (intOf vi).toNat)
  case atStart => exact ⟨ws.length, 0, rfl, Nat.le_refl _, fun j h1 h2 => by omega, rfl⟩
  case round =>
    obtain ⟨i, q, rfl, hi, hz, hw⟩ := hrel
    have HZ : Hid (∀ j : Nat, i ≤ j → j < ws.length → rd ws (j : Int) = 0) := hz
    have HW : Hid (wr = w.drewN q) := hw
    clear hz
    by_cases h0 : i = 0
    · subst h0
      go_wp2
      repeat (go_quiet (fail); try go_wp2)
      go_ret
      exact ⟨0, rfl, by omega, HZ.out, .inl rfl, q, rfl⟩
    · obtain ⟨j, rfl⟩ : ∃ j, i = j + 1 := ⟨i - 1, by omega⟩
      have hx := (HH.out.drewN q).cell j (by omega)
      rw [← hw] at hx
      clear hw
      obtain ⟨x, ex⟩ : ∃ x, rd ws (j : Int) = x := ⟨_, rfl⟩
      rw [ex] at hx
      have EX : Hid (rd ws (j : Int) = x) := ex
      clear ex
      by_cases hx0 : x = 0
      · subst hx0
        go_wp2
        repeat (go_quiet (fail); try go_wp2)
        go_roundw
        case rel =>
          refine ⟨j, q, (by first | rfl | (congr 1; omega)), by omega, fun m h1 h2 => ?_, HW.out⟩
          rcases Nat.lt_or_ge j m with g1 | g1
          · exact HZ.out m (by omega) h2
          · obtain rfl : m = j := by omega
            exact EX.out
        case measure => simp [intOf]
      · have hb : (x == 0) = false := beq_eq_false_iff_ne.mpr hx0
        have HX : Hid (x ≠ 0) := hx0
        clear hx0
        go_wp2
        repeat (go_quiet (fail); try go_wp2)
        go_ret
        refine ⟨j + 1, rfl, hi, HZ.out, .inr ?_, q, HW.out⟩
        rw [show ((j + 1 : Nat) : Int) - 1 = (j : Int) by omega, EX.out]
        exact HX.out
theorem norm_nil (w : World) : Calls Tryz.prog 41 #[.slice none 0 0] w fun e w' => e = .returned (.slice none 0 0) ∧ ∃ m, w' = w.drewN m := by
  go_enter Tryz.func41, Tryz.ntmps41
  go_wp2
  go_loopw [3] (fun vi wr => vi = .int .i64 0 ∧ wr = w) (fun _ _ => 0)
  case atStart => exact ⟨rfl, rfl⟩
  case round =>
    obtain ⟨rfl, rfl⟩ := hrel
    go_wp2
    go_ret
    exact ⟨rfl, 0, rfl⟩
/-- make, where there is room -/
theorem make_room (A : Option Addr) (len cap n : Nat) (hn : n ≤ cap) (hl : len ≤ cap) (hc : cap ≤ 1000) (w : World) :
    Calls Tryz.prog 36 #[.slice A len cap, .int .i64 n] w fun e w' => e = .returned (.slice A n cap) ∧ ∃ m, w' = w.drewN m := by
  have h1 : (n : Int) ≤ cap := by omega
  go_enter Tryz.func36, Tryz.ntmps36
  go_wp2
  go_ret
  exact ⟨rfl, 0, rfl⟩
/-- make, where there is none: a new row -/
theorem make_new (A : Option Addr) (len cap n : Nat) (hn : cap < n) (hn2 : n = 1 ∨ n = 2) (hl : len ≤ cap) (w : World) :
    Calls Tryz.prog 36 #[.slice A len cap, .int .i64 n] w fun e w' => ∃ cap' : Nat, e = .returned (.slice (some ⟨w.heap.size, 0, none⟩) n cap') ∧ n ≤ cap' ∧ cap' ≤ 6 ∧ ∃ cur : Array Value, cur.size = cap' ∧ ∃ m, w' = (w.alloc (.cells cur 45 (0, 0))).drewN m := by
  have h1 : ¬ ((n : Int) ≤ cap) := by omega
  obtain ⟨i0, hi, hzz⟩ := Option.map_eq_some_iff.1 info43
  simp only [Prod.mk.injEq] at hzz
  obtain ⟨hz0, hz1, hz2⟩ := hzz
  have m1 := fun W : World => run_make W 46 45 i0 _ Tryz.underlying46 hi hz0 .i64 .i64 1 1 (by omega) (by omega) (by rw [hz2]; omega) (by omega)
  have m2 := fun W : World => run_make W 46 45 i0 _ Tryz.underlying46 hi hz0 .i64 .i64 2 6 (by omega) (by omega) (by rw [hz2]; omega) (by omega)
  rw [hz1] at m1 m2
  have s1 : (madeCells (Value.int .u64 0).cells ((1 : Int).toNat * 1)).size = 1 := by simp [madeCells, Value.cells]
  have s2 : (madeCells (Value.int .u64 0).cells ((6 : Int).toNat * 1)).size = 6 := by simp [madeCells, Value.cells]
  generalize madeCells (Value.int .u64 0).cells ((1 : Int).toNat * 1) = c1 at *
  generalize madeCells (Value.int .u64 0).cells ((6 : Int).toNat * 1) = c2 at *
  clear hz0 hz1 hz2 hi
  rcases hn2 with rfl | rfl
  · go_enter Tryz.func36, Tryz.ntmps36
    go_wp2
    go_ret
    exact ⟨1, rfl, by omega, by omega, c1, s1, 0, rfl⟩
  · go_enter Tryz.func36, Tryz.ntmps36
    go_wp2
    go_ret
    exact ⟨6, rfl, by omega, by omega, c2, s2, 0, rfl⟩
end Go.Proofs.YtmmnopmccamjcaaGreatDoor.MemA
