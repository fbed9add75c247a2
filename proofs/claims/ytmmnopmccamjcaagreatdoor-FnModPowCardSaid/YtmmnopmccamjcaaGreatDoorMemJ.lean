/- Mul, alias. -/
import Derived.Test.YtmmnopmccamjcaaGreatDoorMemF
import Derived.Test.YtmmnopmccamjcaaGreatDoorMemH
namespace Go.Proofs.YtmmnopmccamjcaaGreatDoor.MemJ
open Go Go.Proofs Go.RowKit Go.Proofs.YtmmnopmccamjcaaGreatDoor.PBig Go.Proofs.YtmmnopmccamjcaaGreatDoorW.PrintWords Go.Proofs.YtmmnopmccamjcaaGreatDoorW.PrintMore Go.Proofs.YtmmnopmccamjcaaGreatDoor.BigW Go.Proofs.YtmmnopmccamjcaaGreatDoor.MemA Go.Proofs.YtmmnopmccamjcaaGreatDoor.MemB Go.Proofs.YtmmnopmccamjcaaGreatDoor.MemC Go.Proofs.YtmmnopmccamjcaaGreatDoor.MemD Go.Proofs.YtmmnopmccamjcaaGreatDoor.MemE Go.Proofs.YtmmnopmccamjcaaGreatDoor.MemF Go.Proofs.YtmmnopmccamjcaaGreatDoor.MemG Go.Proofs.YtmmnopmccamjcaaGreatDoor.MemH
set_option linter.unusedVariables false
set_option linter.unusedSimpArgs false
theorem Turned.drewN {w w' : World} {p : Nat} {A : Option Addr} {n : Int} (h : Turned w p A n w') (m : Nat) : Turned w p A n (w'.drewN m) := by
  obtain ⟨A', cap', h1, h2, h3⟩ := h
  exact ⟨A', cap', h1, h2, h3.drewN m⟩
set_option maxHeartbeats 4000000 in
/-- x.Mul(x, x) -/
theorem mul_sq (p : Nat) (A : Option Addr) (cap : Nat) {n : Int} (h0 : 0 ≤ n) (h1 : n < 18446744073709551616) (w : World) (hN : Num w p A cap n) :
    Calls Tryz.prog 22 #[.pointer (some ⟨p, 0, none⟩), .pointer (some ⟨p, 0, none⟩), .pointer (some ⟨p, 0, none⟩)] w fun e w' => e = .returned (.pointer (some ⟨p, 0, none⟩)) ∧ Turned w p A (n * n) w' := by
  have hc := imul_sq p A cap h0 h1 w hN
  clear hN
  go_enter Tryz.func22, Tryz.ntmps22
  go_wp2_with (go_at_call 34; refine hc.mono ?_; rintro e w1 ⟨rfl, hT⟩; have KT := Aside0.mk hT; clear hT)
  go_ret
  exact ⟨rfl, KT.out⟩
set_option maxHeartbeats 4000000 in
/-- x.Mul(x, y) -/
theorem mul (p q : Nat) (A B : Option Addr) (ca cb : Nat) {a b : Int} (hpq : p ≠ q) (ha : 0 ≤ a ∧ a < 18446744073709551616) (hb : 0 ≤ b ∧ b < 18446744073709551616) (w : World) (hP : Num w p A ca a) (hQ : Num w q B cb b) :
    Calls Tryz.prog 22 #[.pointer (some ⟨p, 0, none⟩), .pointer (some ⟨p, 0, none⟩), .pointer (some ⟨q, 0, none⟩)] w fun e w' => e = .returned (.pointer (some ⟨p, 0, none⟩)) ∧ Turned w p A (a * b) w' := by
  have hc := imul p q A B ca cb hpq ha hb w hP hQ
  clear hP hQ
  go_enter Tryz.func22, Tryz.ntmps22
  go_wp2_with (go_at_call 34; refine hc.mono ?_; rintro e w1 ⟨rfl, hT⟩; have KT := Aside0.mk hT; clear hT)
  go_ret
  exact ⟨rfl, KT.out⟩
theorem size43 : (Tryz.prog.info? 45).map (·.size) = some 1 := by kernel_rfl
theorem pt58 : Tryz.prog.underlying 65 = some (.pointer 45) := by kernel_rfl
set_option maxHeartbeats 4000000 in
/-- two rows that are not one -/
theorem alias (A B : Option Addr) (la ca lb cb : Nat) {us vs : List Int} (hla : la ≤ ca) (hlb : lb ≤ cb) (w : World) (hA : Nt w A ca us) (hB : Nt w B cb vs) (hAB : ∀ g, A = some ⟨g, 0, none⟩ → ¬ B = some ⟨g, 0, none⟩) :
    Calls Tryz.prog 29 #[.slice A la ca, .slice B lb cb] w fun e w' => e = .returned (.bool false) ∧ ∃ m, w' = w.drewN m := by
  have ha := hA.len.2
  have hb := hB.len.2
  by_cases h0 : ca = 0
  · subst h0
    obtain rfl : la = 0 := by omega
    clear hA hB hAB
    go_enter Tryz.func29, Tryz.ntmps29
    go_wp2
    go_region
    all_goals go_wp2
    all_goals go_ret
    all_goals exact ⟨rfl, 1, rfl⟩
  · by_cases h1 : cb = 0
    · subst h1
      have h2 : 0 < ca := by omega
      clear hA hB hAB
      go_enter Tryz.func29, Tryz.ntmps29
      go_wp2
      go_region
      all_goals go_wp2
      all_goals go_ret
      all_goals exact ⟨rfl, 1, rfl⟩
    · have h2 : 0 < ca := by omega
      have h3 : 0 < cb := by omega
      obtain ⟨g, rfl, ⟨cur, c1, _⟩, _⟩ : ∃ g, A = some ⟨g, 0, none⟩ ∧ Row w g ca us ∧ ca ≤ 1000 := by
        rcases hA with ⟨_, hh, _⟩ | hh
        · exact absurd hh h0
        · exact hh
      obtain ⟨h, rfl, ⟨cur', c2, _⟩, _⟩ : ∃ g, B = some ⟨g, 0, none⟩ ∧ Row w g cb vs ∧ cb ≤ 1000 := by
        rcases hB with ⟨_, hh, _⟩ | hh
        · exact absurd hh h1
        · exact hh
      have hgh : g ≠ h := fun e => hAB g rfl (by rw [e])
      obtain ⟨j, hj, hs⟩ := Option.map_eq_some_iff.1 size43
      have hs1 : j.size ≠ 0 := by rw [hs]; omega
      have heq := run_eql_ptr_other (P := Tryz.prog) (w := w.drew) (a := ⟨g, ca - 1, none⟩) (b := ⟨h, cb - 1, none⟩) pt58 hj hs1 (fun e => hgh (congrArg Addr.block e)) c1 c2
      clear hA hB hAB hj hs hs1 c1 c2 h0 h1
      go_enter Tryz.func29, Tryz.ntmps29
      go_wp2
      go_region
      all_goals go_wp2
      all_goals go_ret
      all_goals exact ⟨rfl, 1, rfl⟩
end Go.Proofs.YtmmnopmccamjcaaGreatDoor.MemJ
