/- The package's product of numbers in memory: nat.mul, Int.mul, Int.Mul. -/
import Derived.Test.YtmmnopmccamjcaaGreatDoorMemD
import Derived.LaidEqlPtr
namespace Go.Proofs.YtmmnopmccamjcaaGreatDoor.MemE
open Go Go.Proofs Go.RowKit Go.Proofs.YtmmnopmccamjcaaGreatDoor.PBig Go.Proofs.YtmmnopmccamjcaaGreatDoorW.PrintWords Go.Proofs.YtmmnopmccamjcaaGreatDoorW.PrintMore Go.Proofs.YtmmnopmccamjcaaGreatDoor.BigW Go.Proofs.YtmmnopmccamjcaaGreatDoor.MemA Go.Proofs.YtmmnopmccamjcaaGreatDoor.MemB Go.Proofs.YtmmnopmccamjcaaGreatDoor.MemC Go.Proofs.YtmmnopmccamjcaaGreatDoor.MemD
set_option linter.unusedVariables false
set_option linter.unusedSimpArgs false
set_option maxHeartbeats 4000000 in
theorem nmul_short (A X Y : Option Addr) (lz cz cx cy m : Nat) (hm : m ≤ 1) (hc : cz ≤ 1000) (hl : lz ≤ cz) (w : World) :
    Calls Tryz.prog 46 #[.slice A lz cz, .pointer none, .slice X m cx, .slice Y 0 cy] w fun e w' => e = .returned (.slice A 0 cz) ∧ ∃ q, w' = w.drewN q := by
  have h : m = 0 ∨ m = 1 := by omega
  rcases h with rfl | rfl
  · go_enter Tryz.func46, Tryz.ntmps46
    go_wp2
    go_ret
    exact ⟨rfl, 0, rfl⟩
  · go_enter Tryz.func46, Tryz.ntmps46
    go_wp2
    go_ret
    exact ⟨rfl, 0, rfl⟩
theorem wds_len {n : Int} (h0 : 0 ≤ n) (h1 : n < 18446744073709551616) : (n = 0 ∧ (Wds n).length = 0) ∨ (Wp n ∧ (Wds n).length = 1) := by
  by_cases h : n = 0
  · exact .inl ⟨h, by rw [h]; rfl⟩
  · exact .inr ⟨⟨by omega, h1⟩, by rw [wds_one h h1]; rfl⟩
set_option maxHeartbeats 4000000 in
theorem nmul (A B : Option Addr) (ca cb : Nat) {a b : Int} (ha : 0 ≤ a ∧ a < 18446744073709551616) (hb : 0 ≤ b ∧ b < 18446744073709551616) (w : World) (hA : Nt w A ca (Wds a)) (hB : Nt w B cb (Wds b)) :
    Calls Tryz.prog 46 #[.slice A (Wds a).length ca, .pointer none, .slice A (Wds a).length ca, .slice B (Wds b).length cb] w fun e w' => Out w A (a * b) e w' := by
  have hcA := hA.len
  have hcB := hB.len
  rcases wds_len hb.1 hb.2 with ⟨rfl, lb⟩ | ⟨wb, lb⟩
  · rw [lb, Int.mul_zero]
    have hl1 : (Wds a).length ≤ 1 := by rcases wds_len ha.1 ha.2 with ⟨_, h⟩ | ⟨_, h⟩ <;> omega
    refine (nmul_short A A B _ ca ca cb _ hl1 hcA.2 hcA.1 w).mono ?_
    rintro e w' ⟨rfl, q, rfl⟩
    exact out_zero hA q
  · rcases wds_len ha.1 ha.2 with ⟨rfl, la⟩ | ⟨wa, la⟩
    · rw [la, lb, Int.zero_mul]
      have hs := nmul_short A B A 0 ca cb ca 1 (Nat.le_refl _) hcA.2 (Nat.zero_le _) w
      have HA := Aside0.mk hA
      clear hA hB
      go_enter Tryz.func46, Tryz.ntmps46
      go_wp2_with (go_at_call 46; refine hs.mono ?_; rintro e w' ⟨rfl, q, rfl⟩)
      go_ret
      exact out_zero HA.out q
    · obtain ⟨h, rfl, hr, _⟩ : ∃ h, B = some ⟨h, 0, none⟩ ∧ Row w h cb (Wds b) ∧ cb ≤ 1000 := by
        rcases hB with ⟨_, _, hh⟩ | hh
        · rw [hh] at lb; cases lb
        · exact hh
      obtain ⟨g, rfl, hra, _⟩ : ∃ g, A = some ⟨g, 0, none⟩ ∧ Row w g ca (Wds a) ∧ ca ≤ 1000 := by
        rcases hA with ⟨_, _, hh⟩ | hh
        · rw [hh] at la; cases la
        · exact hh
      have ea := wds_one (Int.ne_of_gt wa.1) wa.2
      have eb := wds_one (Int.ne_of_gt wb.1) wb.2
      have hcell : w.cell? ⟨h, 0, none⟩ = some (.int .u64 b) := by rw [eb] at hr; exact hr.cell 0 (by simp)
      have hcella : w.cell? ⟨g, 0, none⟩ = some (.int .u64 a) := by rw [ea] at hra; exact hra.cell 0 (by simp)
      have h58 := mulAddWW (some ⟨g, 0, none⟩) 1 ca _ g ca (x := a) (y := b) wa wb w (by omega) hA (by omega) hcA.2 hcella
      have h1a : 1 ≤ ca := by omega
      have h1b : 1 ≤ cb := by omega
      have hca2 := hcA.2
      have hcb2 := hcB.2
      rw [la, lb]
      have WA := Aside0.mk wa
      have WB := Aside0.mk wb
      clear hA hB hr hra wa wb ea eb ha hb hcA hcB
      go_enter Tryz.func46, Tryz.ntmps46
      go_wp2_with (go_at_call 61; refine h58.mono ?_; rintro e w' ⟨A', cap', rfl, hN, hF, hR⟩; have hN' := Aside0.mk hN; have hF' := Aside0.mk hF; have hR' := Aside0.mk hR; clear hN hF hR)
      go_ret
      exact ⟨A', cap', rfl, hN'.out, hF'.out, hR'.out⟩
theorem wds_len3 (n : Int) : (Wds n).length = 0 ∨ (Wds n).length = 1 ∨ (Wds n).length = 2 := by
  unfold Wds
  split
  · exact .inl rfl
  · split
    · exact .inr (.inl rfl)
    · exact .inr (.inr rfl)
/-- a number in memory: no sign, and its words -/
def Num (w : World) (p : Nat) (A : Option Addr) (cap : Nat) (n : Int) : Prop := w.heap[p]? = some (.cells #[.bool false, .slice A (Wds n).length cap] 48 (0, 0)) ∧ Nt w A cap (Wds n)
/-- what a step leaves of a number: the number anew, in its place; nothing else that was there has turned -/
def Turned (w : World) (p : Nat) (A : Option Addr) (n : Int) (w' : World) : Prop := ∃ A' cap', Num w' p A' cap' n ∧ From w A A' ∧ Fr (fun k => k = p ∨ A = some ⟨k, 0, none⟩) w w'
theorem pt36 : Tryz.prog.underlying 36 = some (.pointer 48) := by kernel_rfl
theorem info46 : (Tryz.prog.info? 48).map (·.size) = some 2 := by kernel_rfl
theorem ptr_same (p : Nat) (w : World) : (binOp .eql 36 (.pointer (some ⟨p, 0, none⟩)) (.pointer (some ⟨p, 0, none⟩))).run Tryz.prog w = .ok (.bool true) w := by
  obtain ⟨j, hj, _⟩ := Option.map_eq_some_iff.1 info46
  exact run_eql_ptr_same w _ pt36 hj
theorem ptr_other {p q : Nat} (hpq : p ≠ q) {w : World} {ca cb : Array Value} {ta tb : TypeId} (hp : w.heap[p]? = some (.cells ca ta (0, 0))) (hq : w.heap[q]? = some (.cells cb tb (0, 0))) : (binOp .eql 36 (.pointer (some ⟨p, 0, none⟩)) (.pointer (some ⟨q, 0, none⟩))).run Tryz.prog w = .ok (.bool false) w := by
  obtain ⟨j, hj, hs⟩ := Option.map_eq_some_iff.1 info46
  exact run_eql_ptr_other w pt36 hj (by rw [hs]; omega) (fun e => hpq (by cases e; rfl)) hp hq
theorem apart {w : World} {p : Nat} {A : Option Addr} {cap : Nat} {n : Int} {B : Option Addr} {cb : Nat} {ws : List Int} (hN : Num w p A cap n) (hB : Nt w B cb ws) : ¬ (B = some ⟨p, 0, none⟩) := by
  rintro rfl
  rcases hB with ⟨h, _⟩ | ⟨g, h, ⟨cur, h2, _⟩, _⟩
  · cases h
  · cases h
    rw [hN.1] at h2
    cases h2
theorem num_lt {w : World} {p : Nat} {A : Option Addr} {cap : Nat} {n : Int} (hN : Num w p A cap n) : p < w.heap.size := by
  rcases Nat.lt_or_ge p w.heap.size with hh | hh
  · exact hh
  · have := hN.1; rw [Array.getElem?_eq_none hh] at this; cases this
theorem num_cells {w : World} {p : Nat} {A : Option Addr} {cap : Nat} {n : Int} (hN : Num w p A cap n) :
    w.cell? ⟨p, 0, none⟩ = some (.bool false) ∧ w.cell? ⟨p, 1, none⟩ = some (.slice A (Wds n).length cap) ∧ w.frozen? ⟨p, 0, none⟩ = false ∧ w.frozen? ⟨p, 1, none⟩ = false := by
  have h := hN.1
  exact ⟨by simp [World.cell?, h], by simp [World.cell?, h], by simp [World.frozen?, h], by simp [World.frozen?, h]⟩
/-- a number's variable behind a step that turned a row -/
theorem var_kept {w w1 : World} {p : Nat} {A : Option Addr} {cap : Nat} {n : Int} {B : Option Addr} {cb : Nat} {ws : List Int} (hN : Num w p A cap n) (hB : Nt w B cb ws) (hR : Fr (fun k => B = some ⟨k, 0, none⟩) w.drew w1) :
    w1.cell? ⟨p, 0, none⟩ = some (.bool false) ∧ w1.cell? ⟨p, 1, none⟩ = some (.slice A (Wds n).length cap) ∧ w1.frozen? ⟨p, 0, none⟩ = false ∧ w1.frozen? ⟨p, 1, none⟩ = false ∧ w1.heap[p]? = some (.cells #[.bool false, .slice A (Wds n).length cap] 48 (0, 0)) := by
  have k1 : w1.heap[p]? = w.heap[p]? := hR.block p (num_lt hN) (apart hN hB)
  have h := k1.trans hN.1
  exact ⟨by simp [World.cell?, h], by simp [World.cell?, h], by simp [World.frozen?, h], by simp [World.frozen?, h], h⟩
theorem var_set {w1 : World} {p : Nat} {s s' : Value} (h : w1.heap[p]? = some (.cells #[.bool false, s] 48 (0, 0))) :
    (w1.setCell ⟨p, 1, none⟩ s').heap[p]? = some (.cells #[.bool false, s'] 48 (0, 0)) ∧ (w1.setCell ⟨p, 1, none⟩ s').cell? ⟨p, 0, none⟩ = some (.bool false) ∧ (w1.setCell ⟨p, 1, none⟩ s').cell? ⟨p, 1, none⟩ = some s' ∧ (w1.setCell ⟨p, 1, none⟩ s').frozen? ⟨p, 0, none⟩ = false ∧
    ((w1.setCell ⟨p, 1, none⟩ s').setCell ⟨p, 0, none⟩ (.bool false)).heap[p]? = some (.cells #[.bool false, s'] 48 (0, 0)) := by
  have h1 : (w1.setCell ⟨p, 1, none⟩ s').heap[p]? = some (.cells #[.bool false, s'] 48 (0, 0)) := by rw [row_set h]; rfl
  exact ⟨h1, by simp [World.cell?, h1], by simp [World.cell?, h1], by simp [World.frozen?, h1], by rw [row_set h1]; rfl⟩
theorem far {w1 : World} {p : Nat} {s : Value} {A' : Option Addr} {cap' : Nat} {ws : List Int} (h : w1.heap[p]? = some (.cells #[.bool false, s] 48 (0, 0))) (hN : Nt w1 A' cap' ws) : ¬ (A' = some ⟨p, 0, none⟩) := by
  rintro rfl
  rcases hN with ⟨h, _⟩ | ⟨g, e, ⟨cur, h2, _⟩, _⟩
  · cases h
  · cases e
    rw [h] at h2
    cases h2
theorem turned_of {w w1 : World} {p : Nat} {A : Option Addr} {A' : Option Addr} {cap' : Nat} {m : Int} {s : Value} (KN : Nt w1 A' cap' (Wds m)) (KF : From w.drew A A') (KR : Fr (fun k => A = some ⟨k, 0, none⟩) w.drew w1) (KH : w1.heap[p]? = some (.cells #[.bool false, s] 48 (0, 0))) (q : Nat) :
    Turned w p A m (((w1.setCell ⟨p, 1, none⟩ (.slice A' (Wds m).length cap')).setCell ⟨p, 0, none⟩ (.bool false)).drewN q) := by
  obtain ⟨_, _, _, _, h5⟩ := var_set (s' := .slice A' (Wds m).length cap') KH
  have f1 := Fr.set w1 ⟨p, 1, none⟩ (.slice A' (Wds m).length cap') (S := fun k => k = p) rfl
  have f2 := Fr.set (w1.setCell ⟨p, 1, none⟩ (.slice A' (Wds m).length cap')) ⟨p, 0, none⟩ (.bool false) (S := fun k => k = p) rfl
  have f := f1.trans f2
  refine ⟨A', cap', ⟨h5, KN.keep (f.drewN q) (fun g hg (e : g = p) => far KH KN (by rw [hg, e]))⟩, KF, ?_⟩
  have KR : Fr (fun k => A = some ⟨k, 0, none⟩) w w1 := ⟨KR.os, KR.tape, KR.output, KR.size, KR.block⟩
  have g1 := KR.mono (S' := fun k => k = p ∨ A = some ⟨k, 0, none⟩) (fun k _ h => .inr h)
  exact (g1.trans (f.mono (S' := fun k => k = p ∨ A = some ⟨k, 0, none⟩) (fun k _ h => .inl h))).drewN q
end Go.Proofs.YtmmnopmccamjcaaGreatDoor.MemE
