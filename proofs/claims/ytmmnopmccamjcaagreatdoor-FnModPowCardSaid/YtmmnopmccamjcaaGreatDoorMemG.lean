/- The package's division of a number's words by one word. -/
import Derived.Test.YtmmnopmccamjcaaGreatDoorMemF
namespace Go.Proofs.YtmmnopmccamjcaaGreatDoor.MemG
open Go Go.Proofs Go.RowKit Go.Proofs.YtmmnopmccamjcaaGreatDoor.PBig Go.Proofs.YtmmnopmccamjcaaGreatDoorW.PrintWords Go.Proofs.YtmmnopmccamjcaaGreatDoorW.PrintMore Go.Proofs.YtmmnopmccamjcaaGreatDoor.BigW Go.Proofs.YtmmnopmccamjcaaGreatDoor.MemA Go.Proofs.YtmmnopmccamjcaaGreatDoor.MemB Go.Proofs.YtmmnopmccamjcaaGreatDoor.MemC Go.Proofs.YtmmnopmccamjcaaGreatDoor.MemD Go.Proofs.YtmmnopmccamjcaaGreatDoor.MemE
set_option linter.unusedVariables false
set_option linter.unusedSimpArgs false
def big : Nat := 40000000000
theorem cDiv {lo y : Int} (hy : Wp y) (hl : 0 ≤ lo ∧ lo < 18446744073709551616) (w : World) :
    Calls Tryz.prog 85 #[.int .u64 0, .int .u64 lo, .int .u64 y] w fun e w' => e = .returned (.tuple #[.int .u64 (lo / y), .int .u64 (lo % y)]) ∧ ∃ m, w' = w.drewN m := by
  have h := bitsDiv_is (hi := 0) (Int.le_refl 0) hy.1 hy.2 hl.1 hl.2 40000000000 (Nat.le_refl _)
  rw [Int.zero_mul, Int.zero_add] at h
  exact (bigall_bitsDiv.calls 40000000000 0 lo y _ _ w h).mono fun _ _ ⟨h, d⟩ => ⟨h, d.out⟩
theorem cRec {y : Int} (hy : Wp y) : ∃ rc : Int, (∀ w, Calls Tryz.prog 86 #[.int .u64 y] w fun e w' => e = .returned (.int .u64 rc) ∧ ∃ m, w' = w.drewN m) ∧
    ∀ x1 x0 : Int, 0 ≤ x1 → x1 < y → 0 ≤ x0 → x0 < 18446744073709551616 → ∀ w, Calls Tryz.prog 87 #[.int .u64 x1, .int .u64 x0, .int .u64 y, .int .u64 rc] w fun e w' => e = .returned (.tuple #[.int .u64 ((x1 * 18446744073709551616 + x0) / y), .int .u64 ((x1 * 18446744073709551616 + x0) % y)]) ∧ ∃ m, w' = w.drewN m := by
  obtain ⟨L, eL, L1, L64, hy1, hy2, hr⟩ := recip_is hy.1 hy.2 40000000000 (Nat.le_refl _)
  refine ⟨_, fun w => (bigall_reciprocalWord.calls 40000000000 y _ w hr).mono fun _ _ ⟨h, d⟩ => ⟨h, d.out⟩, fun x1 x0 a b c d w => ?_⟩
  exact (bigall_divWW.calls 1 x1 x0 y _ _ _ w (divWW_is hy.1 hy.2 eL L1 L64 hy1 hy2 a b c d 1 (Nat.le_refl _))).mono fun _ _ ⟨h, d⟩ => ⟨h, d.out⟩
set_option maxHeartbeats 4000000 in
/-- one word by one word -/
theorem divWVW1 (g cz h cx : Nat) {x y : Int} (hx : 0 ≤ x ∧ x < 18446744073709551616) (hy : Wp y) (w : World) (cur : Array Value) (hg : w.heap[g]? = some (.cells cur 45 (0, 0))) (hgs : cur.size = cz) (hcz : 1 ≤ cz) (hcx : 1 ≤ cx) (hcx2 : cx ≤ 1000) (hcz2 : cz ≤ 1000) (hcell : w.cell? ⟨h, 0, none⟩ = some (.int .u64 x)) :
    Calls Tryz.prog 69 #[.slice (some ⟨g, 0, none⟩) 1 cz, .int .u64 0, .slice (some ⟨h, 0, none⟩) 1 cx, .int .u64 y] w fun e w' => e = .returned (.int .u64 (x % y)) ∧ ∃ m, w' = (w.setCell ⟨g, 0, none⟩ (.int .u64 (x / y))).drewN m := by
  have hd := cDiv hy hx
  have ht : ∃ v, w.cell? ⟨g, 0, none⟩ = some v := ⟨cur[0]'(by omega), by simp [World.cell?, hg, show 0 < cur.size by omega]⟩
  obtain ⟨v, hv⟩ := ht
  have hz : w.frozen? ⟨g, 0, none⟩ = false := by simp [World.frozen?, hg]
  have HD := Aside0.mk hd
  clear hd hg hx hy
  generalize x / y = dq at *
  generalize x % y = dr at *
  go_enter Tryz.func69, Tryz.ntmps69
  go_wp2_with (go_at_call 85; refine (HD.out _).mono ?_; rintro e w1 ⟨rfl, m1, rfl⟩)
  go_ret
  exact ⟨rfl, m1, rfl⟩
set_option maxHeartbeats 4000000 in
/-- two words by one -/
theorem divWVW2 (g cz h cx : Nat) (hgh : g ≠ h) {x1 x0 y : Int} (hx1 : 0 ≤ x1 ∧ x1 < 18446744073709551616) (hx0 : 0 ≤ x0 ∧ x0 < 18446744073709551616) (hy : Wp y) (w : World) (cur : Array Value) (hg : w.heap[g]? = some (.cells cur 45 (0, 0))) (hgs : cur.size = cz) (hcz : 2 ≤ cz) (hcx : 2 ≤ cx) (hcx2 : cx ≤ 1000) (hcz2 : cz ≤ 1000)
    (hc0 : w.cell? ⟨h, 0, none⟩ = some (.int .u64 x0)) (hc1 : w.cell? ⟨h, 1, none⟩ = some (.int .u64 x1)) :
    ∃ q1 q0 : Int, Calls Tryz.prog 69 #[.slice (some ⟨g, 0, none⟩) 2 cz, .int .u64 0, .slice (some ⟨h, 0, none⟩) 2 cx, .int .u64 y] w fun e w' => e = .returned (.int .u64 ((x1 * 18446744073709551616 + x0) % y)) ∧ ∃ m, w' = ((w.setCell ⟨g, 1, none⟩ (.int .u64 q1)).setCell ⟨g, 0, none⟩ (.int .u64 q0)).drewN m := by
  obtain ⟨rc, hrec, hdiv⟩ := cRec hy
  have d1 := hdiv 0 x1 (Int.le_refl 0) hy.1 hx1.1 hx1.2
  rw [Int.zero_mul, Int.zero_add] at d1
  have hm0 := Int.emod_nonneg x1 (Int.ne_of_gt hy.1)
  have hm1 := Int.emod_lt_of_pos x1 hy.1
  have d0 := hdiv (x1 % y) x0 hm0 hm1 hx0.1 hx0.2
  have er : (x1 % y * 18446744073709551616 + x0) % y = (x1 * 18446744073709551616 + x0) % y := by
    rw [Int.add_emod, Int.mul_emod, Int.emod_emod, ← Int.mul_emod, ← Int.add_emod]
  rw [er] at d0
  refine ⟨x1 / y, (x1 % y * 18446744073709551616 + x0) / y, ?_⟩
  have e0 : ∀ (v : Value) (m : Nat), ((w.setCell ⟨g, 1, none⟩ v).drewN m).cell? ⟨h, 0, none⟩ = some (.int .u64 x0) := fun v m => by
    rw [← hc0]; exact World.cell?_of_block (Below.heap_setCell w ⟨g, 1, none⟩ v h (fun e => hgh e.symm))
  have t1 : ∃ v, w.cell? ⟨g, 1, none⟩ = some v := ⟨cur[1]'(by omega), by simp [World.cell?, hg, show 1 < cur.size by omega]⟩
  obtain ⟨v1, hv1⟩ := t1
  have z1 : w.frozen? ⟨g, 1, none⟩ = false := by simp [World.frozen?, hg]
  have t0 : ∀ (v : Value) (m : Nat), ∃ v0, ((w.setCell ⟨g, 1, none⟩ v).drewN m).cell? ⟨g, 0, none⟩ = some v0 := fun v m => ⟨(cur.setIfInBounds 1 v)[0]'(by simp; omega), by show World.cell? (w.setCell _ _) _ = _; simp [World.cell?, row_set hg, show 0 < cur.size by omega]⟩
  have z0 : ∀ (v : Value) (m : Nat), ((w.setCell ⟨g, 1, none⟩ v).drewN m).frozen? ⟨g, 0, none⟩ = false := fun v m => by show World.frozen? (w.setCell _ _) _ = _; simp [World.frozen?, row_set hg]
  have D1 := Aside0.mk d1
  have D0 := Aside0.mk d0
  have HR := Aside0.mk hrec
  have E0 := Aside0.mk e0
  have T0 := Aside0.mk t0
  have Z0 := Aside0.mk z0
  clear d1 d0 hrec e0 t0 z0 hdiv hx1 hx0 hy hg er hm0 hm1
  generalize x1 / y = q1 at *
  generalize (x1 % y * 18446744073709551616 + x0) / y = q0 at *
  generalize (x1 * 18446744073709551616 + x0) % y = r0 at *
  generalize x1 % y = r1 at *
  go_enter Tryz.func69, Tryz.ntmps69
  go_wp2_with (go_at_call 86; refine (HR.out _).mono ?_; rintro e w1 ⟨rfl, m1, rfl⟩)
  go_loopw [8, 12] (fun v8 v12 wr => (v8 = .int .u64 0 ∧ v12 = .int .i64 1 ∧ ∃ m, wr = w.drewN m) ∨ (v8 = .int .u64 r1 ∧ v12 = .int .i64 0 ∧ ∃ m, wr = (w.setCell ⟨g, 1, none⟩ (.int .u64 q1)).drewN m) ∨ (v8 = .int .u64 r0 ∧ v12 = .int .i64 (-1) ∧ ∃ m, wr = ((w.setCell ⟨g, 1, none⟩ (.int .u64 q1)).setCell ⟨g, 0, none⟩ (.int .u64 q0)).drewN m)) (fun _ v12 _ => (intOf v12 + 1).toNat)
  case atStart => exact .inl ⟨rfl, rfl, m1, rfl⟩
  case round =>
    rcases hrel with ⟨rfl, rfl, m, rfl⟩ | ⟨rfl, rfl, m, rfl⟩ | ⟨rfl, rfl, m, hq⟩
    · go_wp2_with (go_at_call 87; refine (D1.out _).mono ?_; rintro e w' ⟨rfl, m2, rfl⟩)
      go_roundw
      case rel => exact .inr (.inl ⟨rfl, rfl, _, rfl⟩)
      case measure => simp [intOf]
    · have a0 := E0.out (.int .u64 q1) m
      obtain ⟨v0, hv0⟩ := T0.out (.int .u64 q1) m
      have b0 := Z0.out (.int .u64 q1) m
      go_wp2_with (go_at_call 87; refine (D0.out _).mono ?_; rintro e w' ⟨rfl, m2, rfl⟩; obtain ⟨v2, hv2⟩ := T0.out (.int .u64 q1) (m + m2); have b2 := Z0.out (.int .u64 q1) (m + m2))
      go_roundw
      case rel => exact .inr (.inr ⟨rfl, rfl, _, rfl⟩)
      case measure => simp [intOf]
    · go_wp2
      go_ret
      exact ⟨rfl, m, rfl⟩
end Go.Proofs.YtmmnopmccamjcaaGreatDoor.MemG
