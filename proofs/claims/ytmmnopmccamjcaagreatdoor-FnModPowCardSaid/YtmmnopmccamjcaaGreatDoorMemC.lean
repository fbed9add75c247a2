/- The product of numbers of one word, in memory. -/
import Derived.Test.YtmmnopmccamjcaaGreatDoorMemB
namespace Go.Proofs.YtmmnopmccamjcaaGreatDoor.MemC
open Go Go.Proofs Go.RowKit Go.Proofs.YtmmnopmccamjcaaGreatDoor.PBig Go.Proofs.YtmmnopmccamjcaaGreatDoorW.PrintWords Go.Proofs.YtmmnopmccamjcaaGreatDoorW.PrintMore Go.Proofs.YtmmnopmccamjcaaGreatDoor.BigW Go.Proofs.YtmmnopmccamjcaaGreatDoor.MemA Go.Proofs.YtmmnopmccamjcaaGreatDoor.MemB
set_option linter.unusedVariables false
set_option linter.unusedSimpArgs false
theorem cMulAdd {x y c : Int} (hx : 0 ≤ x ∧ x < 18446744073709551616) (hy : 0 ≤ y ∧ y < 18446744073709551616) (hc : 0 ≤ c ∧ c < 18446744073709551616) (w : World) :
    Calls Tryz.prog 101 #[.int .u64 x, .int .u64 y, .int .u64 c] w fun e w' => e = .returned (.tuple #[.int .u64 ((x * y + c) / 18446744073709551616), .int .u64 ((x * y + c) % 18446744073709551616)]) ∧ ∃ m, w' = w.drewN m :=
  (bigall_mulAddWWW_g.calls x y c _ _ w (mulAdd_is hx.1 hx.2 hy.1 hy.2 hc.1 hc.2)).mono fun _ _ ⟨h, d⟩ => ⟨h, d.out⟩
theorem cMul {x y : Int} (hx : 0 ≤ x ∧ x < 18446744073709551616) (hy : 0 ≤ y ∧ y < 18446744073709551616) (w : World) :
    Calls Tryz.prog 57 #[.int .u64 x, .int .u64 y] w fun e w' => e = .returned (.tuple #[.int .u64 (x * y / 18446744073709551616), .int .u64 (x * y % 18446744073709551616)]) ∧ ∃ m, w' = w.drewN m :=
  (bigall_mulWW.calls x y _ _ w (mulWW_is hx.1 hx.2 hy.1 hy.2)).mono fun _ _ ⟨h, d⟩ => ⟨h, d.out⟩
set_option maxHeartbeats 2000000 in
theorem mulAddVWW_g (g cz h cx : Nat) (x y lo hi : Int) (w : World) (hm : ∀ w, Calls Tryz.prog 101 #[.int .u64 x, .int .u64 y, .int .u64 0] w fun e w' => e = .returned (.tuple #[.int .u64 hi, .int .u64 lo]) ∧ ∃ m, w' = w.drewN m)
    (hcz : 1 ≤ cz) (hcx : 1 ≤ cx) (hcx2 : cx ≤ 1000) (hcz2 : cz ≤ 1000) (hx : w.cell? ⟨h, 0, none⟩ = some (.int .u64 x)) (hg : ∃ v, w.cell? ⟨g, 0, none⟩ = some v) (hz : w.frozen? ⟨g, 0, none⟩ = false) :
    Calls Tryz.prog 98 #[.slice (some ⟨g, 0, none⟩) 1 cz, .slice (some ⟨h, 0, none⟩) 1 cx, .int .u64 y, .int .u64 0] w fun e w' => e = .returned (.int .u64 hi) ∧ ∃ m, w' = (w.setCell ⟨g, 0, none⟩ (.int .u64 lo)).drewN m := by
  obtain ⟨v0, hg⟩ := hg
  go_enter Tryz.func98, Tryz.ntmps98
  go_wp2
  go_loopw [8, 19] (fun v8 v19 wr => (v8 = .int .u64 0 ∧ v19 = .int .i64 0 ∧ wr = w) ∨ (v8 = .int .u64 hi ∧ v19 = .int .i64 1 ∧ ∃ q, wr = (w.setCell ⟨g, 0, none⟩ (.int .u64 lo)).drewN q)) (fun _ v19 _ => (1 - intOf v19).toNat)
  case atStart => exact .inl ⟨rfl, rfl, rfl⟩
  case round =>
    rcases hrel with ⟨rfl, rfl, rfl⟩ | ⟨rfl, rfl, hq⟩
    · go_wp2_with (go_at_call 101; refine (hm _).mono ?_; rintro e w' ⟨rfl, m, rfl⟩)
      go_roundw
      case rel => exact .inr ⟨rfl, rfl, m, rfl⟩
      case measure => simp [intOf]
    · go_wp2
      go_ret
      exact ⟨rfl, hq⟩
theorem mulAddVWW (g cz h cx : Nat) (x y lo hi : Int) (w : World) (hm : ∀ w, Calls Tryz.prog 101 #[.int .u64 x, .int .u64 y, .int .u64 0] w fun e w' => e = .returned (.tuple #[.int .u64 hi, .int .u64 lo]) ∧ ∃ m, w' = w.drewN m)
    (hcz : 1 ≤ cz) (hcx : 1 ≤ cx) (hcx2 : cx ≤ 1000) (hcz2 : cz ≤ 1000) (hx : w.cell? ⟨h, 0, none⟩ = some (.int .u64 x)) (hg : ∃ v, w.cell? ⟨g, 0, none⟩ = some v) (hz : w.frozen? ⟨g, 0, none⟩ = false) :
    Calls Tryz.prog 80 #[.slice (some ⟨g, 0, none⟩) 1 cz, .slice (some ⟨h, 0, none⟩) 1 cx, .int .u64 y, .int .u64 0] w fun e w' => e = .returned (.int .u64 hi) ∧ ∃ m, w' = (w.setCell ⟨g, 0, none⟩ (.int .u64 lo)).drewN m := by
  have hc := mulAddVWW_g g cz h cx x y lo hi w hm hcz hcx hcx2 hcz2 hx hg hz
  clear hm hx hg hz
  go_enter Tryz.func80, Tryz.ntmps80
  go_wp2_with (go_at_call 98; refine hc.mono ?_; rintro e w' ⟨rfl, m, rfl⟩)
  go_ret
  exact ⟨rfl, m, rfl⟩
/-- the words of a product of two words -/
theorem wds_prod {x y : Int} (hx : 0 < x ∧ x < 18446744073709551616) (hy : 0 < y ∧ y < 18446744073709551616) :
    (x * y / 18446744073709551616 = 0 → Wds (x * y) = [x * y % 18446744073709551616]) ∧ (x * y / 18446744073709551616 ≠ 0 → Wds (x * y) = [x * y % 18446744073709551616, x * y / 18446744073709551616]) ∧ (x * y / 18446744073709551616 = 0 → x * y % 18446744073709551616 ≠ 0) := by
  have hp := Int.mul_pos hx.1 hy.1
  refine ⟨fun h => ?_, fun h => ?_, fun h => by omega⟩
  · rw [wds_one (by omega) (by omega)]; congr 1; omega
  · exact wds_two (by omega)
/-- norm of two words -/
theorem norm_prod (g cap : Nat) {x y : Int} (hx : 0 < x ∧ x < 18446744073709551616) (hy : 0 < y ∧ y < 18446744073709551616) (w : World) (h : Row w g cap [x * y % 18446744073709551616, x * y / 18446744073709551616]) (hc : cap ≤ 1000) :
    Calls Tryz.prog 41 #[.slice (some ⟨g, 0, none⟩) 2 cap] w fun e w' => e = .returned (.slice (some ⟨g, 0, none⟩) (Wds (x * y)).length cap) ∧ Row w' g cap (Wds (x * y)) ∧ ∃ m, w' = w.drewN m := by
  obtain ⟨p1, p2, p3⟩ := wds_prod hx hy
  refine (norm g cap _ w h hc).mono ?_
  rintro e w' ⟨i, rfl, hi, hz, hnz, m, rfl⟩
  have r0 : rd [x * y % 18446744073709551616, x * y / 18446744073709551616] ((0 : Nat) : Int) = x * y % 18446744073709551616 := rfl
  have r1 : rd [x * y % 18446744073709551616, x * y / 18446744073709551616] ((1 : Nat) : Int) = x * y / 18446744073709551616 := rfl
  have hi2 : i ≤ 2 := hi
  have h0 : 1 ≤ i := by
    rcases Nat.eq_zero_or_pos i with g0 | g0
    · have a := hz 0 (by omega) (by simp)
      have b := hz 1 (by omega) (by simp)
      rw [r0] at a; rw [r1] at b
      exact absurd a (p3 b)
    · exact g0
  by_cases hh : x * y / 18446744073709551616 = 0
  · have : i = 1 := by
      rcases Nat.lt_or_ge i 2 with g1 | g1
      · omega
      · obtain rfl : i = 2 := by omega
        rcases hnz with g2 | g2
        · omega
        · rw [show ((2 : Nat) : Int) - 1 = ((1 : Nat) : Int) from rfl, r1] at g2
          exact absurd hh g2
    subst this
    rw [p1 hh]
    refine ⟨rfl, ?_, m, rfl⟩
    obtain ⟨cur, a, b, c, d⟩ := h
    refine ⟨cur, a, b, by simp at c ⊢; omega, fun j hj => ?_⟩
    obtain rfl : j = 0 := by simpa using hj
    exact d 0 (by simp)
  · have : i = 2 := by
      rcases Nat.lt_or_ge i 2 with g1 | g1
      · have b := hz 1 (by omega) (by simp)
        rw [r1] at b
        exact absurd b hh
      · omega
    subst this
    rw [p2 hh]
    exact ⟨rfl, h, m, rfl⟩
end Go.Proofs.YtmmnopmccamjcaaGreatDoor.MemC
