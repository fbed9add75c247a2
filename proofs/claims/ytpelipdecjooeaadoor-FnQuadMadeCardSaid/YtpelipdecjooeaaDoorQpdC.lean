/- The contract of the discriminant of a polynomial, in the form that the other texts ask. -/
import Derived.Test.YtpelipdecjooeaaDoorDiscW
namespace Go.Proofs.YtpelipdecjooeaaDoor.QpdC
open Go Go.RowKit Go.Proofs.YtpelipdecjooeaaDoor.Tab Go.Proofs.YtpelipdecjooeaaDoor.DiscW Go.Proofs.YtpelipdecjooeaaDoorW.PrintWords
noncomputable def rootN (n : Int) : Int := if h : 0 ≤ n then Classical.choose (Nums.sqrt_ex n h) else 0
theorem rootN_spec (n : Int) (h : 0 ≤ n) : 0 ≤ rootN n ∧ rootN n * rootN n ≤ n ∧ n < (rootN n + 1) * (rootN n + 1) := by
  unfold rootN
  rw [dif_pos h]
  exact Classical.choose_spec (Nums.sqrt_ex n h)
def inR (a b c : Int) : Prop := -1000000 ≤ a ∧ a ≤ 1000000 ∧ -1000000 ≤ b ∧ b ≤ 1000000 ∧ -1000000 ≤ c ∧ c ≤ 1000000
instance (a b c : Int) : Decidable (inR a b c) := by unfold inR; infer_instance
noncomputable def qpdF (a b c : Int) : Option (Int × Int × Option Int) := if inR a b c then some (disc a b c, told (rootN (mag (disc a b c))) (mag (disc a b c)), none) else none
theorem qpd_calls (a0 a1 a2 r1 r2 : Int) (r3 : Option Int) (w : World) (HT : Aside0 (Tabs w)) (h : qpdF a0 a1 a2 = some (r1, r2, r3)) :
    Calls Tryd.prog 13 #[.int .i64 a0, .int .i64 a1, .int .i64 a2] w fun e w' => (e = .returned (.tuple #[.int .i64 r1, .int .i64 r2, .nilIface]) ∧ r3 = none) ∧ Drawn0 w w' := by
  unfold qpdF at h
  split at h
  · rename_i hr
    obtain ⟨ha0, ha1, hb0, hb1, hc0, hc1⟩ := hr
    simp only [Option.some.injEq, Prod.mk.injEq] at h
    obtain ⟨rfl, rfl, rfl⟩ := h
    obtain ⟨g0, g1, g2⟩ := rootN_spec (mag (disc a0 a1 a2)) (mag_pos _)
    refine (qpd a0 a1 a2 _ ha0 ha1 hb0 hb1 hc0 hc1 g0 g1 g2 w HT.out).mono ?_
    rintro e w' ⟨rfl, hm⟩
    exact ⟨⟨rfl, rfl⟩, ⟨hm⟩⟩
  · cases h
/-- Where older blocks stand, the table stands. -/
theorem tabs_below {w w' : World} (h : Aside0 (Tabs w)) (hb : Below w.heap.size w w') : Tabs w' := by
  have hT := h.out
  have hlt : 0 < w.heap.size := World.block_lt_of_cell? w _ (Tabs.log hT 0 (by omega))
  have hb0 := hb.block 0 hlt
  unfold Tabs Lib.TabIs World.var? at hT ⊢
  rw [gLog] at hT ⊢
  simp only [Option.bind_some] at hT ⊢
  rw [hb0]
  exact hT
end Go.Proofs.YtpelipdecjooeaaDoor.QpdC
